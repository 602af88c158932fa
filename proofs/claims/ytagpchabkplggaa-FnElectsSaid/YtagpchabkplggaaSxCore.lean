/-
  SX, PART 1 OF THIS SEAT'S OWN TOOLS: expressions, symbolic values, a heap of named objects, small programs over it, and what they mean. No program of the project is named here.
-/
import Derived.WalkKit
namespace Go.Sx
set_option linter.unusedVariables false

/-! ## Expressions over an environment -/
inductive Dv where
  | i (z : Int)
  | b (x : Bool)
  | s (x : ByteArray)
  deriving Inhabited

def Dv.I : Dv → Int | .i z => z | _ => 0
def Dv.B : Dv → Bool | .b x => x | _ => false
def Dv.S : Dv → ByteArray | .s x => x | _ => ⟨#[]⟩

inductive O1 where
  | not | size | neg | wrap (k : IntKind) | fin (f : Nat) | fok (f : Nat)
  deriving DecidableEq, Repr

inductive O2 where
  | add | sub | mul | quo | rem | lt | le | ieq | seq | slt | cat | byte | beq | and | or | mn | mx
  deriving DecidableEq, Repr

inductive E where
  | v (n : Nat)
  | il (z : Int)
  | bl (b : Bool)
  | sl (s : List UInt8)
  | fn (c : Nat) (a : E)
  | o1 (o : O1) (a : E)
  | o2 (o : O2) (a b : E)
  | ext (s lo hi : E)
  deriving Inhabited, Repr

structure Env where
  v : Nat → Dv
  fn : Nat → Int → Dv
  val : Nat → Int → Value
  mp : Nat → Array MapEntry × Nat

/-- A number times a given float, cut to a whole number: what it comes to, and whether it is one that int64 has. -/
def flOut (c : Nat) (x : Int) : Option Int :=
  match FloatKind.f64.format.mul c (FloatKind.f64.nearest x) with
  | some r => (FloatKind.f64.decode r).toInt .zero
  | none => none
def flVal (c : Nat) (x : Int) : Int := (flOut c x).getD 0
def flOk (c : Nat) (x : Int) : Bool :=
  match flOut c x with
  | some n => decide (IntKind.i64.min ≤ n ∧ n ≤ IntKind.i64.max)
  | none => false

def bytesLt (a b : ByteArray) : Bool := Op.bytesLess a.toList b.toList

def O1.den : O1 → Dv → Dv
  | .not, a => .b (!a.B)
  | .size, a => .i a.S.size
  | .neg, a => .i (-a.I)
  | .wrap k, a => .i (k.wrap a.I)
  | .fin f, a => .i (flVal f a.I)
  | .fok f, a => .b (flOk f a.I)

def O2.den : O2 → Dv → Dv → Dv
  | .add, a, b => .i (a.I + b.I)
  | .sub, a, b => .i (a.I - b.I)
  | .mul, a, b => .i (a.I * b.I)
  | .quo, a, b => .i (a.I.tdiv b.I)
  | .rem, a, b => .i (a.I.tmod b.I)
  | .lt, a, b => .b (decide (a.I < b.I))
  | .le, a, b => .b (decide (a.I ≤ b.I))
  | .ieq, a, b => .b (a.I == b.I)
  | .seq, a, b => .b (a.S.toList == b.S.toList)
  | .slt, a, b => .b (bytesLt a.S b.S)
  | .cat, a, b => .s (a.S ++ b.S)
  | .byte, a, b => .i ((a.S.data[b.I.toNat]?.getD 0).toNat)
  | .beq, a, b => .b (a.B == b.B)
  | .and, a, b => .b (a.B && b.B)
  | .or, a, b => .b (a.B || b.B)
  | .mn, a, b => .i (if b.I < a.I then b.I else a.I)
  | .mx, a, b => .i (if b.I > a.I then b.I else a.I)

def E.den (env : Env) : E → Dv
  | .v n => env.v n
  | .il z => .i z
  | .bl b => .b b
  | .sl s => .s ⟨s.toArray⟩
  | .fn c a => env.fn c (a.den env).I
  | .o1 o a => o.den (a.den env)
  | .o2 o a b => o.den (a.den env) (b.den env)
  | .ext s lo hi => .s ((s.den env).S.extract (lo.den env).I.toNat (hi.den env).I.toNat)

def O1.same : O1 → O1 → Bool
  | .not, .not => true
  | .size, .size => true
  | .neg, .neg => true
  | .wrap .i64, .wrap .i64 => true
  | .fin f, .fin g => Nat.beq f g
  | .fok f, .fok g => Nat.beq f g
  | _, _ => false
def O2.code : O2 → Nat
  | .add => 0 | .sub => 1 | .mul => 2 | .quo => 3 | .rem => 4 | .lt => 5 | .le => 6 | .ieq => 7 | .seq => 8 | .slt => 9 | .cat => 10 | .byte => 11
  | .beq => 12 | .and => 13 | .or => 14 | .mn => 15 | .mx => 16
theorem O2.code_inj {a b : O2} (h : a.code = b.code) : a = b := by cases a <;> cases b <;> first | rfl | (simp [O2.code] at h)
theorem O1.same_eq {a b : O1} (h : a.same b = true) : a = b := by
  cases a <;> cases b <;> try first | rfl | (simp [O1.same] at h; done)
  · rename_i k l; cases k <;> cases l <;> first | rfl | (simp [O1.same] at h)
  all_goals (rename_i f g; have := Nat.eq_of_beq_eq_true h; subst this; rfl)

def bytesSame : List UInt8 → List UInt8 → Bool
  | [], [] => true
  | a :: x, b :: y => cond (Nat.beq a.toNat b.toNat) (bytesSame x y) false
  | _, _ => false
theorem bytesSame_eq : ∀ (a b : List UInt8), bytesSame a b = true ↔ a = b
  | [], [] => by simp [bytesSame]
  | [], _ :: _ => by simp [bytesSame]
  | _ :: _, [] => by simp [bytesSame]
  | a :: x, b :: y => by
    unfold bytesSame
    cases h : Nat.beq a.toNat b.toNat with
    | true =>
      have h1 : a = b := UInt8.toNat_inj.mp (Nat.eq_of_beq_eq_true h)
      simp [bytesSame_eq x y, h1]
    | false =>
      have h1 : a ≠ b := fun e => by rw [e] at h; simp [Nat.beq_refl] at h
      simp [h1]

def intSame : Int → Int → Bool
  | .ofNat a, .ofNat b => Nat.beq a b
  | .negSucc a, .negSucc b => Nat.beq a b
  | _, _ => false
theorem intSame_eq {a b : Int} : intSame a b = true ↔ a = b := by
  cases a <;> cases b <;> simp [intSame]
  omega

def E.same : E → E → Bool
  | .v n, .v m => Nat.beq n m
  | .il a, .il b => intSame a b
  | .bl a, .bl b => cond a b (cond b false true)
  | .sl a, .sl b => bytesSame a b
  | .fn c a, .fn d b => cond (Nat.beq c d) (a.same b) false
  | .o1 o a, .o1 p b => cond (o.same p) (a.same b) false
  | .o2 o a b, .o2 p c d => cond (Nat.beq o.code p.code) (cond (a.same c) (b.same d) false) false
  | .ext a b c, .ext d e f => cond (a.same d) (cond (b.same e) (c.same f) false) false
  | _, _ => false

theorem cond_true_and {a b : Bool} : cond a b false = true ↔ a = true ∧ b = true := by cases a <;> simp

theorem E.same_eq : ∀ {a b : E}, a.same b = true → a = b := by
  intro a
  induction a with
  | v n => intro b h; cases b <;> simp [E.same] at h ⊢; exact h
  | il z => intro b h; cases b <;> simp [E.same] at h ⊢; exact intSame_eq.1 h
  | bl x => intro b h; cases b <;> simp [E.same] at h ⊢; rename_i y; cases x <;> cases y <;> simp_all
  | sl s => intro b h; cases b <;> simp [E.same] at h ⊢; exact (bytesSame_eq _ _).1 h
  | fn c a ih => intro b h; cases b <;> simp only [E.same, cond_true_and] at h <;> try (cases h; done)
                 obtain ⟨h1, h2⟩ := h; rw [Nat.eq_of_beq_eq_true h1, ih h2]
  | o1 o a ih => intro b h; cases b <;> simp only [E.same, cond_true_and] at h <;> try (cases h; done)
                 obtain ⟨h1, h2⟩ := h; rw [O1.same_eq h1, ih h2]
  | o2 o a b iha ihb => intro c h; cases c <;> simp only [E.same, cond_true_and] at h <;> try (cases h; done)
                        obtain ⟨h1, h2, h3⟩ := h; rw [O2.code_inj (Nat.eq_of_beq_eq_true h1), iha h2, ihb h3]
  | ext a b c iha ihb ihc => intro d h; cases d <;> simp only [E.same, cond_true_and] at h <;> try (cases h; done)
                             obtain ⟨h1, h2, h3⟩ := h; rw [iha h1, ihb h2, ihc h3]

/-! ### constant folding -/
def intLt : Int → Int → Bool
  | .ofNat a, .ofNat b => Nat.blt a b
  | .ofNat _, .negSucc _ => false
  | .negSucc _, .ofNat _ => true
  | .negSucc a, .negSucc b => Nat.blt b a
theorem intLt_eq (a b : Int) : intLt a b = decide (a < b) := by
  apply Bool.eq_iff_iff.2
  cases a <;> cases b <;> simp [intLt, Nat.blt] <;> omega

def bytesLtL : List UInt8 → List UInt8 → Bool := Op.bytesLess

def mk2 (o : O2) (a b : E) : E :=
  match o, a, b with
  | .add, .il x, .il y => .il (x + y)
  | .add, .o2 .add a (.il x), .il y => .o2 .add a (.il (x + y))
  | .sub, .il x, .il y => .il (x - y)
  | .mul, .il x, .il y => .il (x * y)
  | .quo, .il x, .il y => .il (x.tdiv y)
  | .rem, .il x, .il y => .il (x.tmod y)
  | .lt, .il x, .il y => .bl (intLt x y)
  | .le, .il x, .il y => .bl (!intLt y x)
  | .ieq, .il x, .il y => .bl (intSame x y)
  | .seq, .sl x, .sl y => .bl (bytesSame x y)
  | .slt, .sl x, .sl y => .bl (bytesLtL x y)
  | .cat, .sl x, .sl y => .sl (x ++ y)
  | .beq, .bl x, .bl y => .bl (x == y)
  | .and, .bl x, .bl y => .bl (x && y)
  | .or, .bl x, .bl y => .bl (x || y)
  | .mn, .il x, .il y => .il (cond (intLt y x) y x)
  | .mx, .il x, .il y => .il (cond (intLt x y) y x)
  | o, a, b => .o2 o a b

theorem cond_ite {α : Type} (p : Prop) [Decidable p] (x y : α) : (bif decide p then x else y) = if p then x else y := by
  by_cases h : p <;> simp [h]
theorem intSame_beq (x y : Int) : intSame x y = (x == y) := by apply Bool.eq_iff_iff.2; rw [intSame_eq]; simp
theorem bytesSame_beq (x y : List UInt8) : bytesSame x y = (x == y) := by apply Bool.eq_iff_iff.2; rw [bytesSame_eq]; simp
theorem cat_mk (x y : List UInt8) : (ByteArray.mk x.toArray) ++ (ByteArray.mk y.toArray) = ByteArray.mk (x ++ y).toArray := by
  apply ByteArray.ext; simp

theorem not_lt_le (x y : Int) : (!decide (y < x)) = decide (x ≤ y) := by by_cases h : x ≤ y <;> simp [h] <;> omega
theorem mk2_den (env : Env) (o : O2) (a b : E) : (mk2 o a b).den env = (E.o2 o a b).den env := by
  unfold mk2
  split <;> simp only [E.den, O2.den, Dv.I, Dv.B, Dv.S, intLt_eq, bytesLt, bytesLtL, Int.add_assoc, cond_ite, intSame_beq, bytesSame_beq, cat_mk, ByteArray.toList_mk, gt_iff_lt]
  all_goals first | rfl | exact congrArg Dv.b (not_lt_le _ _)

def mk1 (o : O1) (a : E) : E :=
  match o, a with
  | .not, .bl x => .bl (!x)
  | .not, .o1 .not x => .o1 .not (.o1 .not x)
  | .size, .sl x => .il (x.length : Nat)
  | .neg, .il x => .il (-x)
  | .wrap k, .il x => .il (k.wrap x)
  | o, a => .o1 o a

theorem mk1_den (env : Env) (o : O1) (a : E) : (mk1 o a).den env = (E.o1 o a).den env := by
  unfold mk1
  split <;> simp only [E.den, O1.den, Dv.I, Dv.B, Dv.S, Bool.not_not]
  simp [ByteArray.size]

/-- What is known: expressions with the truth that they have. -/
abbrev Facts := List (E × Bool)
def Facts.Hold (env : Env) (fs : Facts) : Prop := ∀ e b, (e, b) ∈ fs → (e.den env).B = b

def look (fs : Facts) (e : E) : Option Bool :=
  match fs with
  | [] => none
  | (x, b) :: r => cond (x.same e) (some b) (look r e)
theorem look_ok {env : Env} : ∀ {fs : Facts} {e : E} {b : Bool}, fs.Hold env → look fs e = some b → (e.den env).B = b
  | [], e, b, _, h => by simp [look] at h
  | (x, c) :: r, e, b, hf, h => by
    unfold look at h
    cases hs : x.same e with
    | true => rw [hs] at h; simp at h; subst h; rw [← E.same_eq hs]; exact hf x c (List.mem_cons_self ..)
    | false => rw [hs] at h; exact look_ok (fun e b hm => hf e b (List.mem_cons_of_mem _ hm)) h

/-- Is it true? By its form, by what is known, or by what is known of its turned form. -/
def decideE (fs : Facts) : E → Option Bool
  | .bl b => some b
  | .o1 .not a => (decideE fs a).map (!·)
  | .o2 .and a b =>
    match decideE fs a, decideE fs b with
    | some false, _ => some false
    | _, some false => some false
    | some true, r => r
    | none, _ => none
  | .o2 .or a b =>
    match decideE fs a, decideE fs b with
    | some true, _ => some true
    | _, some true => some true
    | some false, r => r
    | none, _ => none
  | .o2 .lt a b => (look fs (.o2 .lt a b)).orElse fun _ => (look fs (.o2 .le b a)).map (!·)
  | .o2 .le a b => (look fs (.o2 .le a b)).orElse fun _ => (look fs (.o2 .lt b a)).map (!·)
  | e => look fs e

theorem B_not (env : Env) (a : E) : ((E.o1 .not a).den env).B = !(a.den env).B := rfl
theorem B_and (env : Env) (a b : E) : ((E.o2 .and a b).den env).B = ((a.den env).B && (b.den env).B) := rfl
theorem B_or (env : Env) (a b : E) : ((E.o2 .or a b).den env).B = ((a.den env).B || (b.den env).B) := rfl
theorem B_lt (env : Env) (a b : E) : ((E.o2 .lt a b).den env).B = decide ((a.den env).I < (b.den env).I) := rfl
theorem B_le (env : Env) (a b : E) : ((E.o2 .le a b).den env).B = decide ((a.den env).I ≤ (b.den env).I) := rfl

theorem decideE_ok {env : Env} {fs : Facts} (hf : fs.Hold env) : ∀ {e : E} {b : Bool}, decideE fs e = some b → (e.den env).B = b := by
  intro e
  induction e with
  | bl x => intro b h; simp [decideE] at h; subst h; rfl
  | o1 o a ih =>
    intro b h
    cases o <;> simp only [decideE] at h <;> try exact look_ok hf h
    cases ha : decideE fs a with
    | none => rw [ha] at h; simp at h
    | some x => rw [ha] at h; simp at h; rw [B_not, ih ha, h]; simp
  | o2 o a b iha ihb =>
    intro c h
    cases o <;> simp only [decideE] at h <;> try exact look_ok hf h
    · cases h1 : look fs (.o2 .lt a b) with
      | some x => rw [h1] at h; simp at h; subst h; exact look_ok hf h1
      | none =>
        rw [h1] at h
        cases h2 : look fs (.o2 .le b a) with
        | none => rw [h2] at h; simp at h
        | some x =>
          rw [h2] at h
          have hc : (!x) = c := by simpa using h
          have := look_ok hf h2
          rw [B_le] at this
          rw [B_lt, ← hc, ← this]
          generalize (a.den env).I = p
          generalize (b.den env).I = q
          by_cases hh : q ≤ p <;> simp [hh]
          omega
    · cases h1 : look fs (.o2 .le a b) with
      | some x => rw [h1] at h; simp at h; subst h; exact look_ok hf h1
      | none =>
        rw [h1] at h
        cases h2 : look fs (.o2 .lt b a) with
        | none => rw [h2] at h; simp at h
        | some x =>
          rw [h2] at h
          have hc : (!x) = c := by simpa using h
          have := look_ok hf h2
          rw [B_lt] at this
          rw [B_le, ← hc, ← this]
          generalize (a.den env).I = p
          generalize (b.den env).I = q
          by_cases hh : q < p <;> simp [hh]
          omega
    · rw [B_and]
      cases h1 : decideE fs a <;> cases h2 : decideE fs b <;> rw [h1, h2] at h
      · simp at h
      · rename_i y; rw [ihb h2]; cases y <;> simp at h; subst h; simp
      · rename_i x; rw [iha h1]; cases x <;> simp at h; subst h; simp
      · rename_i x y; rw [iha h1, ihb h2]; cases x <;> cases y <;> simp at h <;> subst h <;> rfl
    · rw [B_or]
      cases h1 : decideE fs a <;> cases h2 : decideE fs b <;> rw [h1, h2] at h
      · simp at h
      · rename_i y; rw [ihb h2]; cases y <;> simp at h; subst h; simp
      · rename_i x; rw [iha h1]; cases x <;> simp at h; subst h; simp
      · rename_i x y; rw [iha h1, ihb h2]; cases x <;> cases y <;> simp at h <;> subst h <;> rfl
  | _ => intro b h; exact look_ok hf h

end Go.Sx
