/-
  SX, PART 1 OF THIS SEAT'S OWN TOOLS: expressions, symbolic values, a heap of named objects, small programs over it, and what they mean. No program of the project is named here.
-/
import Derived.WalkKit
namespace Go.Sx
set_option linter.unusedVariables false
inductive Dv where
 | i (z : Int)
 | b (x : Bool)
 | s (x : ByteArray)
 | t (rows : List (List Dv))
 deriving Inhabited
def Dv.I : Dv -> Int | .i z => z | _ => 0
def Dv.B : Dv -> Bool | .b x => x | _ => false
def Dv.S : Dv -> ByteArray | .s x => x | _ => ⟨#[]⟩
def Dv.T : Dv -> List (List Dv) | .t x => x | _ => []
def Dv.at (d : Dv) (i j : Nat) : Dv := ((d.T[i]?).getD [])[j]?.getD (.i 0)
inductive KQ where
 | i | b | s
 deriving DecidableEq, Repr
def KQ.eq : KQ -> Dv -> Dv -> Bool
 | .i, x, y => x.I == y.I
 | .b, x, y => x.B == y.B
 | .s, x, y => x.S.toList == y.S.toList
def dL (q : KQ) (k : Dv) : List (List Dv) -> Option Nat
 | [] => none
 | r :: l => bif q.eq (r.headD (.i 0)) k then some 0 else (dL q k l).map (· + 1)
def aP (q : KQ) (k : Dv) (l : List (List Dv)) : Int :=
 match dL q k l with
 | some i => (i : Nat)
 | none => -1
def jB (q : KQ) (l : List (List Dv)) (row : List Dv) : List (List Dv) :=
 match dL q (row.headD (.i 0)) l with
 | some i => l.set i row
 | none => l ++ [row]
def nW (q : KQ) (l : List (List Dv)) (k : Dv) : List (List Dv) :=
 match dL q k l with
 | some i => l.eraseIdx i
 | none => l
def Dv.row (d : Dv) : List Dv := d.T.head?.getD []
inductive O1 where
 | not | size | neg | wrap (k : IntKind) | fin (f : Nat) | fok (f : Nat) | ab | chr
 deriving DecidableEq, Repr
inductive O2 where
 | add | sub | mul | quo | rem | lt | le | aX | seq | slt | cat | byte | beq | and | or | mn | mx | bT | fj | de | tT | fA | mf (q : KQ) | mp (q : KQ) | md (q : KQ) | cell (j : Nat)
 deriving DecidableEq, Repr
inductive E where
 | v (n : Nat)
 | il (z : Int)
 | bl (b : Bool)
 | sl (s : List UInt8)
 | fn (c : Nat) (a : E)
 | uf (c : Nat) (a : E)
 | o1 (o : O1) (a : E)
 | o2 (o : O2) (a b : E)
 | ext (s lo hi : E)
 deriving Inhabited, Repr
structure Env where
 v : Nat -> Dv
 fn : Nat -> Int -> Dv
 val : Nat -> Int -> Value
 mp : Nat -> Int -> Value -> Option Value
 uf : Nat -> Dv -> Dv
def MR (c : Nat) (x : Int) : Option Int :=
 match FloatKind.f64.format.mul c (FloatKind.f64.nearest x) with
 | some r => (FloatKind.f64.decode r).toInt .zero
 | none => none
def wB (c : Nat) (x : Int) : Int := (MR c x).getD 0
def Wv (c : Nat) (x : Int) : Bool :=
 match MR c x with
 | some n => decide (IntKind.i64.min <= n /\ n <= IntKind.i64.max)
 | none => false
def cA (a b : ByteArray) : Bool := Op.bytesLess a.toList b.toList
def O1.den : O1 -> Dv -> Dv
 | .not, a => .b (!a.B)
 | .size, a => .i a.S.size
 | .neg, a => .i (-a.I)
 | .wrap k, a => .i (k.wrap a.I)
 | .fin f, a => .i (wB f a.I)
 | .fok f, a => .b (Wv f a.I)
 | .ab, a => .i a.T.length
 | .chr, a => .s (ByteArray.empty.push (UInt8.ofNat a.I.toNat))
def O2.den : O2 -> Dv -> Dv -> Dv
 | .add, a, b => .i (a.I + b.I)
 | .sub, a, b => .i (a.I - b.I)
 | .mul, a, b => .i (a.I * b.I)
 | .quo, a, b => .i (a.I.tdiv b.I)
 | .rem, a, b => .i (a.I.tmod b.I)
 | .lt, a, b => .b (decide (a.I < b.I))
 | .le, a, b => .b (decide (a.I <= b.I))
 | .aX, a, b => .b (a.I == b.I)
 | .seq, a, b => .b (a.S.toList == b.S.toList)
 | .slt, a, b => .b (cA a.S b.S)
 | .cat, a, b => .s (a.S ++ b.S)
 | .byte, a, b => .i ((a.S.data[b.I.toNat]?.getD 0).toNat)
 | .beq, a, b => .b (a.B == b.B)
 | .and, a, b => .b (a.B && b.B)
 | .or, a, b => .b (a.B || b.B)
 | .mn, a, b => .i (if b.I < a.I then b.I else a.I)
 | .mx, a, b => .i (if b.I > a.I then b.I else a.I)
 | .bT, a, b => .t [a :: (b.T.head?.getD [])]
 | .fj, a, b => .t (a.T ++ b.T)
 | .de, a, b => .t (a.T.take b.I.toNat)
 | .tT, a, b => .t (a.T.drop b.I.toNat)
 | .fA, a, b => .t (a.T.set (b.row.headD (.i 0)).I.toNat b.row.tail)
 | .mf q, a, b => .i (aP q b a.T)
 | .mp q, a, b => .t (jB q a.T b.row)
 | .md q, a, b => .t (nW q a.T b)
 | .cell j, a, b => a.at b.I.toNat j
def E.den (env : Env) : E -> Dv
 | .v n => env.v n
 | .il z => .i z
 | .bl b => .b b
 | .sl s => .s ⟨s.toArray⟩
 | .fn c a => env.fn c (a.den env).I
 | .uf c a => env.uf c (a.den env)
 | .o1 o a => o.den (a.den env)
 | .o2 o a b => o.den (a.den env) (b.den env)
 | .ext s lo hi => .s ((s.den env).S.extract (lo.den env).I.toNat (hi.den env).I.toNat)
def O1.same : O1 -> O1 -> Bool
 | .not, .not => true
 | .size, .size => true
 | .neg, .neg => true
 | .wrap .i64, .wrap .i64 => true
 | .fin f, .fin g => Nat.beq f g
 | .fok f, .fok g => Nat.beq f g
 | .ab, .ab => true
 | .chr, .chr => true
 | _, _ => false
def O2.code : O2 -> Nat
 | .add => 0 | .sub => 1 | .mul => 2 | .quo => 3 | .rem => 4 | .lt => 5 | .le => 6 | .aX => 7 | .seq => 8 | .slt => 9 | .cat => 10 | .byte => 11
 | .beq => 12 | .and => 13 | .or => 14 | .mn => 15 | .mx => 16 | .bT => 17 | .fj => 18 | .de => 19 | .tT => 20 | .fA => 21
 | .mf .i => 22 | .mf .b => 23 | .mf .s => 24 | .mp .i => 25 | .mp .b => 26 | .mp .s => 27 | .md .i => 28 | .md .b => 29 | .md .s => 30 | .cell j => 32 + j
theorem O2.MV {a b : O2} (h : a.code = b.code) : a = b := by
 cases a <;> cases b <;> try first
  | rfl
  | (simp [O2.code] at h; done)
  | (simp only [O2.code] at h; omega)
  | (rename_i q r; cases q <;> cases r <;> first | rfl | (simp [O2.code] at h; done) | (simp only [O2.code] at h; omega))
  | (rename_i q; cases q <;> first | (simp [O2.code] at h; done) | (simp only [O2.code] at h; omega))
 rename_i x y; simp only [O2.code] at h; have : x = y := by omega
 subst this; rfl
theorem O1.ax {a b : O1} (h : a.same b = true) : a = b := by
 cases a <;> cases b <;> try first | rfl | (simp [O1.same] at h; done)
 ·rename_i k l; cases k <;> cases l <;> first | rfl | (simp [O1.same] at h)
 all_goals (rename_i f g; have := Nat.eq_of_beq_eq_true h; subst this; rfl)
def fi : List UInt8 -> List UInt8 -> Bool
 | [], [] => true
 | a :: x, b :: y => cond (Nat.beq a.toNat b.toNat) (fi x y) false
 | _, _ => false
theorem nG : ∀ (a b : List UInt8), fi a b = true ↔ a = b
 | [], [] => by simp [fi]
 | [], _ :: _ => by simp [fi]
 | _ :: _, [] => by simp [fi]
 | a :: x, b :: y => by
   unfold fi; cases h : Nat.beq a.toNat b.toNat with
   | true =>
     have h1 : a = b := UInt8.toNat_inj.mp (Nat.eq_of_beq_eq_true h); simp [nG x y, h1]
   | false =>
     have h1 : a ≠ b := fun e => by rw [e] at h; simp [Nat.beq_refl] at h
     simp [h1]
def pO : Int -> Int -> Bool
 | .ofNat a, .ofNat b => Nat.beq a b
 | .negSucc a, .negSucc b => Nat.beq a b
 | _, _ => false
theorem m5 {a b : Int} : pO a b = true ↔ a = b := by
 cases a <;> cases b <;> simp [pO]; omega
def E.same : E -> E -> Bool
 | .v n, .v m => Nat.beq n m
 | .il a, .il b => pO a b
 | .bl a, .bl b => cond a b (cond b false true)
 | .sl a, .sl b => fi a b
 | .fn c a, .fn d b => cond (Nat.beq c d) (a.same b) false
 | .uf c a, .uf d b => cond (Nat.beq c d) (a.same b) false
 | .o1 o a, .o1 p b => cond (o.same p) (a.same b) false
 | .o2 o a b, .o2 p c d => cond (Nat.beq o.code p.code) (cond (a.same c) (b.same d) false) false
 | .ext a b c, .ext d e f => cond (a.same d) (cond (b.same e) (c.same f) false) false
 | _, _ => false
theorem gy {a b : Bool} : cond a b false = true ↔ a = true /\ b = true := by cases a <;> simp
theorem E.ax : ∀ {a b : E}, a.same b = true -> a = b := by
 intro a
 induction a with
 | v n => intro b h; cases b <;> simp [E.same] at h ⊢; exact h
 | il z => intro b h; cases b <;> simp [E.same] at h ⊢; exact m5.1 h
 | bl x => intro b h; cases b <;> simp [E.same] at h ⊢; rename_i y; cases x <;> cases y <;> simp_all
 | sl s => intro b h; cases b <;> simp [E.same] at h ⊢; exact (nG _ _).1 h
 | fn c a ih => intro b h; cases b <;> simp only [E.same, gy] at h <;> try (cases h; done)
                obtain ⟨h1, h2⟩ := h; rw [Nat.eq_of_beq_eq_true h1, ih h2]
 | uf c a ih => intro b h; cases b <;> simp only [E.same, gy] at h <;> try (cases h; done)
                obtain ⟨h1, h2⟩ := h; rw [Nat.eq_of_beq_eq_true h1, ih h2]
 | o1 o a ih => intro b h; cases b <;> simp only [E.same, gy] at h <;> try (cases h; done)
                obtain ⟨h1, h2⟩ := h; rw [O1.ax h1, ih h2]
 | o2 o a b iha ihb => intro c h; cases c <;> simp only [E.same, gy] at h <;> try (cases h; done)
                       obtain ⟨h1, h2, h3⟩ := h; rw [O2.MV (Nat.eq_of_beq_eq_true h1), iha h2, ihb h3]
 | ext a b c iha ihb ihc => intro d h; cases d <;> simp only [E.same, gy] at h <;> try (cases h; done)
                            obtain ⟨h1, h2, h3⟩ := h; rw [iha h1, ihb h2, ihc h3]
def nS : Int -> Int -> Bool
 | .ofNat a, .ofNat b => Nat.blt a b
 | .ofNat _, .negSucc _ => false
 | .negSucc _, .ofNat _ => true
 | .negSucc a, .negSucc b => Nat.blt b a
theorem ke (a b : Int) : nS a b = decide (a < b) := by
 apply Bool.eq_iff_iff.2; cases a <;> cases b <;> simp [nS, Nat.blt] <;> omega
def C3 : List UInt8 -> List UInt8 -> Bool := Op.bytesLess
def Il : Nat -> E -> E
 | 0, .o2 .bT a _ => a
 | j + 1, .o2 .bT _ b => Il j b
 | j, e => .o2 (.cell j) e (.il 0)
theorem JM (env : Env) : ∀ (j : Nat) (e : E), (Il j e).den env = (E.o2 (.cell j) e (.il 0)).den env := by
 intro j e
 induction j generalizing e with
 | zero => cases e <;> first | rfl | (rename_i o a b; cases o <;> rfl)
 | succ j ih =>
   cases e <;> first | rfl | skip
   rename_i o a b; cases o <;> first | rfl | skip
   show (Il j b).den env = _; rw [ih b]; show (((b.den env).T[0]?).getD [])[j]?.getD (.i 0) = ((a.den env) :: ((b.den env).T.head?.getD []))[j + 1]?.getD (.i 0); rw [List.getElem?_cons_succ, List.head?_eq_getElem?]
def jK (o : O2) (a b : E) : E :=
 match o, a, b with
 | .add, .il x, .il y => .il (x + y)
 | .add, .o2 .add a (.il x), .il y => .o2 .add a (.il (x + y))
 | .sub, .il x, .il y => .il (x - y)
 | .mul, .il x, .il y => .il (x * y)
 | .quo, .il x, .il y => .il (x.tdiv y)
 | .rem, .il x, .il y => .il (x.tmod y)
 | .lt, .il x, .il y => .bl (nS x y)
 | .le, .il x, .il y => .bl (!nS y x)
 | .aX, .il x, .il y => .bl (pO x y)
 | .seq, .sl x, .sl y => .bl (fi x y)
 | .slt, .sl x, .sl y => .bl (C3 x y)
 | .cat, .sl x, .sl y => .sl (x ++ y)
 | .beq, .bl x, .bl y => .bl (x == y)
 | .and, .bl x, .bl y => .bl (x && y)
 | .or, .bl x, .bl y => .bl (x || y)
 | .mn, .il x, .il y => .il (cond (nS y x) y x)
 | .mx, .il x, .il y => .il (cond (nS x y) y x)
 | .cell j, a, .il 0 => Il j a
 | o, a, b => .o2 o a b
theorem n9 {α : Type} (p : Prop) [Decidable p] (x y : α) : (bif decide p then x else y) = if p then x else y := by
 by_cases h : p <;> simp [h]
theorem DF (x y : Int) : pO x y = (x == y) := by apply Bool.eq_iff_iff.2; rw [m5]; simp
theorem qf (x y : List UInt8) : fi x y = (x == y) := by apply Bool.eq_iff_iff.2; rw [nG]; simp
theorem YL (x y : List UInt8) : (ByteArray.mk x.toArray) ++ (ByteArray.mk y.toArray) = ByteArray.mk (x ++ y).toArray := by
 apply ByteArray.ext; simp
theorem ID (x y : Int) : (!decide (y < x)) = decide (x <= y) := by by_cases h : x <= y <;> simp [h] <;> omega
theorem bn (env : Env) (o : O2) (a b : E) : (jK o a b).den env = (E.o2 o a b).den env := by
 unfold jK; split
 case h_18 => exact JM env _ _
 all_goals simp only [E.den, O2.den, Dv.I, Dv.B, Dv.S, ke, cA, C3, Int.add_assoc, n9, DF, qf, YL, ByteArray.toList_mk, gt_iff_lt]
 all_goals first | rfl | exact congrArg Dv.b (ID _ _)
def ui : E -> E
 | .il _ => .il 0
 | .o2 .bT _ _ => .il 1
 | .o2 .fj a b => jK .add (ui a) (ui b)
 | .o2 .fA a _ => ui a
 | e => .o1 .ab e
theorem pH (env : Env) : ∀ (e : E), (ui e).den env = .i (e.den env).T.length
 | .il _ => rfl
 | .v _ => rfl
 | .bl _ => rfl
 | .sl _ => rfl
 | .fn _ _ => rfl
 | .uf _ _ => rfl
 | .o1 _ _ => rfl
 | .ext _ _ _ => rfl
 | .o2 o a b => by
   cases o <;> try rfl
   case fA => show (ui a).den env = .i (((a.den env).T.set _ _).length : Nat); rw [pH env a, List.length_set]
   show (jK .add (ui a) (ui b)).den env = _; rw [bn]; simp only [E.den, O2.den, pH env a, pH env b, Dv.I, Dv.T, List.length_append]; rfl
def fZ (o : O1) (a : E) : E :=
 match o, a with
 | .ab, a => ui a
 | .not, .bl x => .bl (!x)
 | .not, .o1 .not x => .o1 .not (.o1 .not x)
 | .size, .sl x => .il (x.length : Nat)
 | .neg, .il x => .il (-x)
 | .wrap k, .il x => .il (k.wrap x)
 | o, a => .o1 o a
theorem bA (env : Env) (o : O1) (a : E) : (fZ o a).den env = (E.o1 o a).den env := by
 unfold fZ; split
 ·exact pH env _
 all_goals simp only [E.den, O1.den, Dv.I, Dv.B, Dv.S, Bool.not_not]
 simp [ByteArray.size]
abbrev aa := List (E × Bool)
def aa.aB (env : Env) (fs : aa) : Prop := ∀ e b, (e, b) ∈ fs -> (e.den env).B = b
def look (fs : aa) (e : E) : Option Bool :=
 match fs with
 | [] => none
 | (x, b) :: r => cond (x.same e) (some b) (look r e)
theorem look_ok {env : Env} : ∀ {fs : aa} {e : E} {b : Bool}, fs.aB env -> look fs e = some b -> (e.den env).B = b
 | [], e, b, _, h => by simp [look] at h
 | (x, c) :: r, e, b, hf, h => by
   unfold look at h; cases hs : x.same e with
   | true => rw [hs] at h; simp at h; subst h; rw [<- E.ax hs]; exact hf x c (List.mem_cons_self ..)
   | false => rw [hs] at h; exact look_ok (fun e b hm => hf e b (List.mem_cons_of_mem _ hm)) h
structure Iv where
 lo : Option Int
 hi : Option Int
def Iv.ok (v : Iv) (z : Int) : Prop := (∀ a, v.lo = some a -> a <= z) /\ (∀ b, v.hi = some b -> z <= b)
def Iv.all : Iv := ⟨none, none⟩
theorem Iv.oo (z : Int) : Iv.all.ok z := ⟨fun _ h => (by cases h), fun _ h => (by cases h)⟩
def UP : Option Int -> Option Int -> Option Int
 | some a, some b => some (cond (nS a b) b a)
 | some a, none => some a
 | none, b => b
def YT : Option Int -> Option Int -> Option Int
 | some a, some b => some (cond (nS a b) a b)
 | some a, none => some a
 | none, b => b
def Iv.meet (v w : Iv) : Iv := ⟨UP v.lo w.lo, YT v.hi w.hi⟩
theorem Iv.lC {v w : Iv} {z : Int} (h : v.ok z) (k : w.ok z) : (v.meet w).ok z := by
 constructor
 ·intro a ha; have ha : UP v.lo w.lo = some a := ha; cases hv : v.lo <;> cases hw : w.lo <;> rw [hv, hw] at ha <;> simp only [UP] at ha
  ·cases ha
  ·injection ha with ha; subst ha; exact k.1 _ hw
  ·injection ha with ha; subst ha; exact h.1 _ hv
  ·rename_i x y; injection ha with ha; subst ha; cases nS x y
   ·exact h.1 _ hv
   ·exact k.1 _ hw
 ·intro a ha; have ha : YT v.hi w.hi = some a := ha; cases hv : v.hi <;> cases hw : w.hi <;> rw [hv, hw] at ha <;> simp only [YT] at ha
  ·cases ha
  ·injection ha with ha; subst ha; exact k.2 _ hw
  ·injection ha with ha; subst ha; exact h.2 _ hv
  ·rename_i x y; injection ha with ha; subst ha; cases nS x y
   ·exact k.2 _ hw
   ·exact h.2 _ hv
def JE : Option Int -> Option Int -> Option Int
 | some a, some b => some (a + b)
 | _, _ => none
def JK : Option Int -> Option Int -> Option Int
 | some a, some b => some (a - b)
 | _, _ => none
def uK (z : Nat) : Option Int -> Option Int
 | some a => some (a * (Int.ofNat z))
 | none => none
def ZL (d : Int) : Option Int -> Option Int
 | some a => some (a + d)
 | none => none
def FX (iv : E -> Iv) (e : E) : E × Bool -> Iv
 | (.o2 .le a b, true) => cond (b.same e) ⟨(iv a).lo, none⟩ (cond (a.same e) ⟨none, (iv b).hi⟩ Iv.all)
 | (.o2 .lt a b, true) => cond (b.same e) ⟨ZL 1 (iv a).lo, none⟩ (cond (a.same e) ⟨none, ZL (-1) (iv b).hi⟩ Iv.all)
 | (.o2 .le a b, false) => cond (a.same e) ⟨ZL 1 (iv b).lo, none⟩ (cond (b.same e) ⟨none, ZL (-1) (iv a).hi⟩ Iv.all)
 | (.o2 .lt a b, false) => cond (a.same e) ⟨(iv b).lo, none⟩ (cond (b.same e) ⟨none, (iv a).hi⟩ Iv.all)
 | (.o2 .aX a b, true) => cond (a.same e) (iv b) (cond (b.same e) (iv a) Iv.all)
 | _ => Iv.all
def wJ (iv : E -> Iv) (e : E) : aa -> Iv
 | [] => Iv.all
 | f :: r => (FX iv e f).meet (wJ iv e r)
def zI (o : Option Int) (z : Int) : Bool :=
 match o with
 | some a => pO a z
 | none => false
def Iv.S8 (v : Iv) (z : Int) : Iv := ⟨cond (zI v.lo z) (some (z + 1)) v.lo, cond (zI v.hi z) (some (z - 1)) v.hi⟩
def sharp (e : E) : aa -> Iv -> Iv
 | [], v => v
 | (.o2 .aX a (.il z), false) :: r, v => sharp e r (cond (a.same e) (v.S8 z) v)
 | _ :: r, v => sharp e r v
def iU (iv : E -> Iv) (e : E) (fs : aa) : Iv := sharp e fs (wJ iv e fs)
def dN (fs : aa) : Nat -> E -> Iv
 | 0, e =>
   match e with
   | .il z => ⟨some z, some z⟩
   | _ => Iv.all
 | n + 1, e =>
   match e with
   | .il z => ⟨some z, some z⟩
   | .o2 .add a b => (Iv.mk (JE (dN fs n a).lo (dN fs n b).lo) (JE (dN fs n a).hi (dN fs n b).hi)).meet (iU (dN fs n) e fs)
   | .o2 .sub a b => (Iv.mk (JK (dN fs n a).lo (dN fs n b).hi) (JK (dN fs n a).hi (dN fs n b).lo)).meet (iU (dN fs n) e fs)
   | .o2 .mul a (.il (.ofNat z)) => (Iv.mk (uK z (dN fs n a).lo) (uK z (dN fs n a).hi)).meet (iU (dN fs n) e fs)
   | .o2 .mul (.il (.ofNat z)) a => (Iv.mk (uK z (dN fs n a).lo) (uK z (dN fs n a).hi)).meet (iU (dN fs n) e fs)
   | .o2 .mn a b => ⟨YT (dN fs n a).lo (dN fs n b).lo |>.bind fun z => cond ((dN fs n a).lo.isSome && (dN fs n b).lo.isSome) (some z) none, YT (dN fs n a).hi (dN fs n b).hi⟩
   | .o2 .mx a b => ⟨UP (dN fs n a).lo (dN fs n b).lo, UP (dN fs n a).hi (dN fs n b).hi |>.bind fun z => cond ((dN fs n a).hi.isSome && (dN fs n b).hi.isSome) (some z) none⟩
   | .o2 .byte _ _ => (Iv.mk (some 0) (some 255)).meet (iU (dN fs n) e fs)
   | .o1 .size _ => (Iv.mk (some 0) none).meet (iU (dN fs n) e fs)
   | .o1 .ab _ => (Iv.mk (some 0) none).meet (iU (dN fs n) e fs)
   | e => iU (dN fs n) e fs
theorem r8 {d : Int} {o : Option Int} {a : Int} (h : ZL d o = some a) : ∃ x, o = some x /\ a = x + d := by
 cases o with
 | none => cases h
 | some x => injection h with h; exact ⟨x, rfl, h.symm⟩
theorem JS {env : Env} {iv : E -> Iv} (hiv : ∀ e, (iv e).ok (e.den env).I) {e : E} {f : E × Bool} (hf : (f.1.den env).B = f.2) : (FX iv e f).ok (e.den env).I := by
 obtain ⟨x, t⟩ := f; have D1 : ∀ a b : E, ((E.o2 .le a b).den env).B = decide ((a.den env).I <= (b.den env).I) := fun _ _ => rfl; have D2 : ∀ a b : E, ((E.o2 .lt a b).den env).B = decide ((a.den env).I < (b.den env).I) := fun _ _ => rfl; have D3 : ∀ a b : E, ((E.o2 .aX a b).den env).B = ((a.den env).I == (b.den env).I) := fun _ _ => rfl; unfold FX; split
 ·rename_i a b h; injection h with h1 h2; subst h1; subst h2; have hf : decide ((a.den env).I <= (b.den env).I) = true := hf; have hf := of_decide_eq_true hf; cases hb : b.same e with
  | true => rw [E.ax hb] at hf; exact ⟨fun z hz => by have := (hiv a).1 z hz; omega, fun _ h => by cases h⟩
  | false =>
    cases ha : a.same e with
    | true => rw [E.ax ha] at hf; exact ⟨fun _ h => by (cases h), fun z hz => by have := (hiv b).2 z hz; omega⟩
    | false => exact Iv.oo _
 ·rename_i a b h; injection h with h1 h2; subst h1; subst h2; have hf : decide ((a.den env).I < (b.den env).I) = true := hf; have hf := of_decide_eq_true hf; cases hb : b.same e with
  | true =>
    rw [E.ax hb] at hf; refine ⟨fun z hz => ?_, fun _ h => by cases h⟩
    obtain ⟨x, hx, rfl⟩ := r8 hz; have := (hiv a).1 x hx; omega
  | false =>
    cases ha : a.same e with
    | true =>
      rw [E.ax ha] at hf; refine ⟨fun _ h => by (cases h), fun z hz => ?_⟩
      obtain ⟨x, hx, rfl⟩ := r8 hz; have := (hiv b).2 x hx; omega
    | false => exact Iv.oo _
 ·rename_i a b h; injection h with h1 h2; subst h1; subst h2; have hf : decide ((a.den env).I <= (b.den env).I) = false := hf; have hf := of_decide_eq_false hf; cases ha : a.same e with
  | true =>
    rw [E.ax ha] at hf; refine ⟨fun z hz => ?_, fun _ h => by cases h⟩
    obtain ⟨x, hx, rfl⟩ := r8 hz; have := (hiv b).1 x hx; omega
  | false =>
    cases hb : b.same e with
    | true =>
      rw [E.ax hb] at hf; refine ⟨fun _ h => by (cases h), fun z hz => ?_⟩
      obtain ⟨x, hx, rfl⟩ := r8 hz; have := (hiv a).2 x hx; omega
    | false => exact Iv.oo _
 ·rename_i a b h; injection h with h1 h2; subst h1; subst h2; have hf : decide ((a.den env).I < (b.den env).I) = false := hf; have hf := of_decide_eq_false hf; cases ha : a.same e with
  | true => rw [E.ax ha] at hf; exact ⟨fun z hz => by have := (hiv b).1 z hz; omega, fun _ h => by cases h⟩
  | false =>
    cases hb : b.same e with
    | true => rw [E.ax hb] at hf; exact ⟨fun _ h => by (cases h), fun z hz => by have := (hiv a).2 z hz; omega⟩
    | false => exact Iv.oo _
 ·rename_i a b h; injection h with h1 h2; subst h1; subst h2; have hf : ((a.den env).I == (b.den env).I) = true := hf; have hf : (a.den env).I = (b.den env).I := by simpa using hf
  cases ha : a.same e with
  | true => have := hiv b; rw [<- hf] at this; rw [<- E.ax ha]; exact this
  | false =>
    cases hb : b.same e with
    | true => have := hiv a; rw [hf] at this; rw [<- E.ax hb]; exact this
    | false => exact Iv.oo _
 ·exact Iv.oo _
theorem um {env : Env} {iv : E -> Iv} (hiv : ∀ e, (iv e).ok (e.den env).I) {e : E} : ∀ {fs : aa}, fs.aB env -> (wJ iv e fs).ok (e.den env).I
 | [], _ => Iv.oo _
 | f :: r, h => Iv.lC (JS hiv (h f.1 f.2 (List.mem_cons_self ..))) (um hiv fun e b hm => h e b (List.mem_cons_of_mem _ hm))
theorem Iv.M9 {v : Iv} {x z : Int} (h : v.ok x) (hne : x ≠ z) : (v.S8 z).ok x := by
 refine ⟨fun a ha => ?_, fun b hb => ?_⟩
 ·have ha : cond (zI v.lo z) (some (z + 1)) v.lo = some a := ha; cases hl : v.lo with
  | none => rw [hl] at ha; cases ha
  | some l =>
    rw [hl] at ha; have h1 := h.1 l hl; cases ho : zI (some l) z with
    | true =>
      have : l = z := m5.1 ho; rw [ho] at ha; injection ha with ha; omega
    | false => rw [ho] at ha; injection ha with ha; omega
 ·have hb : cond (zI v.hi z) (some (z - 1)) v.hi = some b := hb; cases hl : v.hi with
  | none => rw [hl] at hb; cases hb
  | some l =>
    rw [hl] at hb; have h1 := h.2 l hl; cases ho : zI (some l) z with
    | true =>
      have : l = z := m5.1 ho; rw [ho] at hb; injection hb with hb; omega
    | false => rw [ho] at hb; injection hb with hb; omega
theorem wH {env : Env} {e : E} : ∀ {fs : aa} {v : Iv}, fs.aB env -> v.ok (e.den env).I -> (sharp e fs v).ok (e.den env).I
 | [], v, _, h => h
 | f :: r, v, hf, h => by
   have hr := fun e b hm => hf e b (List.mem_cons_of_mem _ hm); unfold sharp; split
   ·rename_i heq; cases heq
   ·rename_i a z r' heq; injection heq with h1 h2; subst h1; subst h2; refine wH hr ?_; cases hs : a.same e with
    | true =>
      refine Iv.M9 h ?_; have h0 : ((a.den env).I == z) = false := hf _ false (List.mem_cons_self ..); rw [E.ax hs] at h0; simpa using h0
    | false => exact h
   ·rename_i heq; injection heq with h1 h2; subst h2; exact wH hr h
theorem Fk {env : Env} {iv : E -> Iv} (hiv : ∀ e, (iv e).ok (e.den env).I) {e : E} {fs : aa} (h : fs.aB env) : (iU iv e fs).ok (e.den env).I := wH h (um hiv h)
theorem ei {env : Env} {fs : aa} (hf : fs.aB env) : ∀ (n : Nat) (e : E), (dN fs n e).ok (e.den env).I
 | 0, e => by
   unfold dN; split
   ·exact ⟨fun a h => by (injection h with h; subst h; exact Int.le_refl _), fun a h => by (injection h with h; subst h; exact Int.le_refl _)⟩
   ·exact Iv.oo _
 | n + 1, e => by
   have F : ∀ e, (iU (dN fs n) e fs).ok (e.den env).I := fun e => Fk (ei hf n) hf; unfold dN; split
   ·exact ⟨fun a h => by (injection h with h; subst h; exact Int.le_refl _), fun a h => by (injection h with h; subst h; exact Int.le_refl _)⟩
   ·rename_i a b; refine Iv.lC ⟨fun z h => ?_, fun z h => ?_⟩ (F _)
    ·show z <= (a.den env).I + (b.den env).I; have h : JE (dN fs n a).lo (dN fs n b).lo = some z := h; cases h1 : (dN fs n a).lo <;> cases h2 : (dN fs n b).lo <;> rw [h1, h2] at h <;> simp only [JE] at h <;> try (cases h; done)
     injection h with h; subst h; have := (ei hf n a).1 _ h1; have := (ei hf n b).1 _ h2; omega
    ·show (a.den env).I + (b.den env).I <= z; have h : JE (dN fs n a).hi (dN fs n b).hi = some z := h; cases h1 : (dN fs n a).hi <;> cases h2 : (dN fs n b).hi <;> rw [h1, h2] at h <;> simp only [JE] at h <;> try (cases h; done)
     injection h with h; subst h; have := (ei hf n a).2 _ h1; have := (ei hf n b).2 _ h2; omega
   ·rename_i a b; refine Iv.lC ⟨fun z h => ?_, fun z h => ?_⟩ (F _)
    ·show z <= (a.den env).I - (b.den env).I; have h : JK (dN fs n a).lo (dN fs n b).hi = some z := h; cases h1 : (dN fs n a).lo <;> cases h2 : (dN fs n b).hi <;> rw [h1, h2] at h <;> simp only [JK] at h <;> try (cases h; done)
     injection h with h; subst h; have := (ei hf n a).1 _ h1; have := (ei hf n b).2 _ h2; omega
    ·show (a.den env).I - (b.den env).I <= z; have h : JK (dN fs n a).hi (dN fs n b).lo = some z := h; cases h1 : (dN fs n a).hi <;> cases h2 : (dN fs n b).lo <;> rw [h1, h2] at h <;> simp only [JK] at h <;> try (cases h; done)
     injection h with h; subst h; have := (ei hf n a).2 _ h1; have := (ei hf n b).1 _ h2; omega
   ·rename_i a k; refine Iv.lC ⟨fun z h => ?_, fun z h => ?_⟩ (F _)
    ·show z <= (a.den env).I * (k : Int); have h : uK k (dN fs n a).lo = some z := h; cases h1 : (dN fs n a).lo <;> rw [h1] at h <;> simp only [uK] at h <;> try (cases h; done)
     injection h with h; subst h; exact Int.mul_le_mul_of_nonneg_right ((ei hf n a).1 _ h1) (Int.natCast_nonneg k)
    ·show (a.den env).I * (k : Int) <= z; have h : uK k (dN fs n a).hi = some z := h; cases h1 : (dN fs n a).hi <;> rw [h1] at h <;> simp only [uK] at h <;> try (cases h; done)
     injection h with h; subst h; exact Int.mul_le_mul_of_nonneg_right ((ei hf n a).2 _ h1) (Int.natCast_nonneg k)
   ·rename_i k a hno; refine Iv.lC ⟨fun z h => ?_, fun z h => ?_⟩ (F _)
    ·show z <= (k : Int) * (a.den env).I; rw [Int.mul_comm]; have h : uK k (dN fs n a).lo = some z := h; cases h1 : (dN fs n a).lo <;> rw [h1] at h <;> simp only [uK] at h <;> try (cases h; done)
     injection h with h; subst h; exact Int.mul_le_mul_of_nonneg_right ((ei hf n a).1 _ h1) (Int.natCast_nonneg k)
    ·show (k : Int) * (a.den env).I <= z; rw [Int.mul_comm]; have h : uK k (dN fs n a).hi = some z := h; cases h1 : (dN fs n a).hi <;> rw [h1] at h <;> simp only [uK] at h <;> try (cases h; done)
     injection h with h; subst h; exact Int.mul_le_mul_of_nonneg_right ((ei hf n a).2 _ h1) (Int.natCast_nonneg k)
   ·rename_i a b; have e0 : ((E.o2 .mn a b).den env).I = if (b.den env).I < (a.den env).I then (b.den env).I else (a.den env).I := rfl
    rw [e0]; have A := ei hf n a; have B := ei hf n b; refine ⟨fun z h => ?_, fun z h => ?_⟩
    ·cases h1 : (dN fs n a).lo <;> cases h2 : (dN fs n b).lo <;> simp only [h1, h2, YT, Option.bind_some, Option.bind_none, Option.isSome_none, Option.isSome_some, Bool.and_false, Bool.and_true, cond_false, cond_true] at h <;> try (cases h; done)
     rename_i x y; have := A.1 _ h1; have := B.1 _ h2; injection h with h; rw [ke, n9] at h; split <;> split at h <;> omega
    ·cases h1 : (dN fs n a).hi <;> cases h2 : (dN fs n b).hi <;> simp only [h1, h2, YT] at h <;> try (cases h; done)
     ·injection h with h; subst h; have := B.2 _ h2; split <;> omega
     ·injection h with h; subst h; have := A.2 _ h1; split <;> omega
     ·injection h with h; have := A.2 _ h1; have := B.2 _ h2; rw [ke, n9] at h; split <;> split at h <;> omega
   ·rename_i a b; have e0 : ((E.o2 .mx a b).den env).I = if (b.den env).I > (a.den env).I then (b.den env).I else (a.den env).I := rfl
    rw [e0]; have A := ei hf n a; have B := ei hf n b; refine ⟨fun z h => ?_, fun z h => ?_⟩
    ·cases h1 : (dN fs n a).lo <;> cases h2 : (dN fs n b).lo <;> simp only [h1, h2, UP] at h <;> try (cases h; done)
     ·injection h with h; subst h; have := B.1 _ h2; split <;> omega
     ·injection h with h; subst h; have := A.1 _ h1; split <;> omega
     ·injection h with h; have := A.1 _ h1; have := B.1 _ h2; rw [ke, n9] at h; split <;> split at h <;> omega
    ·cases h1 : (dN fs n a).hi <;> cases h2 : (dN fs n b).hi <;> simp only [h1, h2, UP, Option.bind_some, Option.bind_none, Option.isSome_none, Option.isSome_some, Bool.and_false, Bool.and_true, cond_false, cond_true] at h <;> try (cases h; done)
     rename_i x y; have := A.2 _ h1; have := B.2 _ h2; injection h with h; rw [ke, n9] at h; split <;> split at h <;> omega
   ·rename_i a b; refine Iv.lC ⟨fun z h => ?_, fun z h => ?_⟩ (F _)
    ·injection h with h; subst h; show (0 : Int) <= ((((a.den env).S.data[(b.den env).I.toNat]?.getD 0).toNat : Nat) : Int); omega
    ·injection h with h; subst h; show ((((a.den env).S.data[(b.den env).I.toNat]?.getD 0).toNat : Nat) : Int) <= 255; have := UInt8.toNat_lt ((a.den env).S.data[(b.den env).I.toNat]?.getD 0); omega
   ·rename_i a; refine Iv.lC ⟨fun z h => ?_, fun z h => by cases h⟩ (F _)
    injection h with h; subst h; show (0 : Int) <= (((a.den env).S.size : Nat) : Int); omega
   ·rename_i a; refine Iv.lC ⟨fun z h => ?_, fun z h => by cases h⟩ (F _)
    injection h with h; subst h; show (0 : Int) <= (((a.den env).T.length : Nat) : Int); omega
   ·exact F _
def sJ : Nat := 4
def T9 : Option Int -> Option Int -> Bool
 | some a, some b => nS a b
 | _, _ => false
def TB : Option Int -> Option Int -> Bool
 | some a, some b => !nS b a
 | _, _ => false
def Mi (fs : aa) (a b : E) : Option Bool :=
 cond (T9 (dN fs sJ a).hi (dN fs sJ b).lo) (some true) (cond (TB (dN fs sJ b).hi (dN fs sJ a).lo) (some false) none)
def Y1 (fs : aa) (a b : E) : Option Bool :=
 cond (T9 (dN fs sJ a).hi (dN fs sJ b).lo || T9 (dN fs sJ b).hi (dN fs sJ a).lo) (some false)
  (cond (TB (dN fs sJ a).hi (dN fs sJ b).lo && TB (dN fs sJ b).hi (dN fs sJ a).lo) (some true) none)
theorem FG {a b : Option Int} (h : T9 a b = true) : ∃ x y, a = some x /\ b = some y /\ x < y := by
 cases a <;> cases b <;> simp only [T9] at h <;> try (cases h; done)
 rw [ke] at h; exact ⟨_, _, rfl, rfl, of_decide_eq_true h⟩
theorem FT {a b : Option Int} (h : TB a b = true) : ∃ x y, a = some x /\ b = some y /\ x <= y := by
 cases a <;> cases b <;> simp only [TB] at h <;> try (cases h; done)
 rw [ke] at h; simp at h; exact ⟨_, _, rfl, rfl, h⟩
theorem Iq {env : Env} {fs : aa} (hf : fs.aB env) {a b : E} {t : Bool} (h : Mi fs a b = some t) : decide ((a.den env).I < (b.den env).I) = t := by
 have A := ei hf sJ a; have B := ei hf sJ b; unfold Mi at h; cases h1 : T9 (dN fs sJ a).hi (dN fs sJ b).lo with
 | true =>
   rw [h1] at h; injection h with h; subst h; obtain ⟨x, y, hx, hy, hl⟩ := FG h1; have := A.2 _ hx; have := B.1 _ hy; exact decide_eq_true (by omega)
 | false =>
   rw [h1] at h; cases h2 : TB (dN fs sJ b).hi (dN fs sJ a).lo with
   | true =>
     rw [h2] at h; injection h with h; subst h; obtain ⟨x, y, hx, hy, hl⟩ := FT h2; have := B.2 _ hx; have := A.1 _ hy; exact decide_eq_false (by omega)
   | false => rw [h2] at h; cases h
theorem PJ {env : Env} {fs : aa} (hf : fs.aB env) {a b : E} {t : Bool} (h : Y1 fs a b = some t) : ((a.den env).I == (b.den env).I) = t := by
 have A := ei hf sJ a; have B := ei hf sJ b; unfold Y1 at h; cases h1 : (T9 (dN fs sJ a).hi (dN fs sJ b).lo || T9 (dN fs sJ b).hi (dN fs sJ a).lo) with
 | true =>
   rw [h1] at h; injection h with h; subst h; rw [Bool.or_eq_true] at h1
   have hne : (a.den env).I ≠ (b.den env).I := by
    rcases h1 with h1 | h1
    ·obtain ⟨x, y, hx, hy, hl⟩ := FG h1; have := A.2 _ hx; have := B.1 _ hy; omega
    ·obtain ⟨x, y, hx, hy, hl⟩ := FG h1; have := B.2 _ hx; have := A.1 _ hy; omega
   simpa using hne
 | false =>
   rw [h1] at h; cases h2 : (TB (dN fs sJ a).hi (dN fs sJ b).lo && TB (dN fs sJ b).hi (dN fs sJ a).lo) with
   | true =>
     rw [h2] at h; injection h with h; subst h; rw [Bool.and_eq_true] at h2; obtain ⟨x, y, hx, hy, hl⟩ := FT h2.1; obtain ⟨x', y', hx', hy', hl'⟩ := FT h2.2; have := A.2 _ hx; have := B.1 _ hy; have := B.2 _ hx'; have := A.1 _ hy'; have : (a.den env).I = (b.den env).I := by omega
     simpa using this
   | false => rw [h2] at h; cases h
def zF (fs : aa) (a : E) (s : List UInt8) : Option Bool :=
 match fs with
 | [] => none
 | (.o2 .seq x (.sl t), true) :: r => cond (x.same a) (some (fi t s)) (zF r a s)
 | _ :: r => zF r a s
def TP (fs : aa) (a : E) : Option (List UInt8) -> Option Bool
 | some s => zF fs a s
 | none => none
theorem vJ {env : Env} : ∀ {fs : aa} {a : E} {s : List UInt8} {b : Bool}, fs.aB env -> zF fs a s = some b -> ((E.o2 .seq a (.sl s)).den env).B = b
 | [], a, s, b, _, h => by simp [zF] at h
 | f :: r, a, s, b, hf, h => by
   have hr := fun e b hm => hf e b (List.mem_cons_of_mem _ hm); unfold zF at h; split at h
   ·rename_i heq; cases heq
   ·rename_i x t r' heq; injection heq with h1 h2; subst h1; subst h2; cases hs : x.same a with
    | true =>
      rw [hs] at h; simp only [cond_true, Option.some.injEq] at h; subst h; have h0 := hf _ true (List.mem_cons_self ..); rw [E.ax hs] at h0; have h0 : ((a.den env).S.toList == (ByteArray.mk t.toArray).toList) = true := h0; show ((a.den env).S.toList == (ByteArray.mk s.toArray).toList) = _; have h1 : (a.den env).S.toList = t := by simpa using h0
      rw [h1, qf, ByteArray.toList_mk]
    | false => rw [hs] at h; exact vJ hr h
   ·rename_i heq; injection heq with h1 h2; subst h2; exact vJ hr h
def ae0 : E -> Option (List UInt8)
 | .sl s => some s
 | _ => none
def ck (fs : aa) : E -> Option Bool
 | .bl b => some b
 | .o1 .not a => (ck fs a).map (!·)
 | .o2 .and a b =>
   match ck fs a, ck fs b with
   | some false, _ => some false
   | _, some false => some false
   | some true, r => r
   | none, _ => none
 | .o2 .or a b =>
   match ck fs a, ck fs b with
   | some true, _ => some true
   | _, some true => some true
   | some false, r => r
   | none, _ => none
 | .o2 .lt a b => cond (a.same b) (some false) <| ((look fs (.o2 .lt a b)).orElse fun _ => (look fs (.o2 .le b a)).map (!·)).orElse fun _ => Mi fs a b
 | .o2 .le a b => cond (a.same b) (some true) <| ((look fs (.o2 .le a b)).orElse fun _ => (look fs (.o2 .lt b a)).map (!·)).orElse fun _ => (Mi fs b a).map (!·)
 | .o2 .aX a b => cond (a.same b) (some true) ((look fs (.o2 .aX a b)).orElse fun _ => Y1 fs a b)
 | .o2 .beq a b =>
   match ck fs a, ck fs b with
   | some x, some y => some (cond x y (!y))
   | _, _ => cond (a.same b) (some true) (look fs (.o2 .beq a b))
 | .o2 .seq a b => cond (a.same b) (some true) ((look fs (.o2 .seq a b)).orElse fun _ => TP fs a (ae0 b))
 | e => look fs e
theorem ady (env : Env) (a : E) : ((E.o1 .not a).den env).B = !(a.den env).B := rfl
theorem aaC (env : Env) (a b : E) : ((E.o2 .and a b).den env).B = ((a.den env).B && (b.den env).B) := rfl
theorem afT (env : Env) (a b : E) : ((E.o2 .or a b).den env).B = ((a.den env).B || (b.den env).B) := rfl
theorem ZZ (env : Env) (a b : E) : ((E.o2 .lt a b).den env).B = decide ((a.den env).I < (b.den env).I) := rfl
theorem BO (env : Env) (a b : E) : ((E.o2 .le a b).den env).B = decide ((a.den env).I <= (b.den env).I) := rfl
theorem QS {env : Env} {a b : E} {x : Bool} (h : decide ((b.den env).I <= (a.den env).I) = x) : decide ((a.den env).I < (b.den env).I) = !x := by
 rw [<- h]
 by_cases hh : (b.den env).I <= (a.den env).I <;> simp [hh]
 omega
theorem HJ {env : Env} {a b : E} {x : Bool} (h : decide ((b.den env).I < (a.den env).I) = x) : decide ((a.den env).I <= (b.den env).I) = !x := by
 rw [<- h]
 by_cases hh : (b.den env).I < (a.den env).I <;> simp [hh]
 omega
theorem qM {env : Env} {fs : aa} (hf : fs.aB env) : ∀ {e : E} {b : Bool}, ck fs e = some b -> (e.den env).B = b := by
 intro e
 induction e with
 | bl x => intro b h; simp [ck] at h; subst h; rfl
 | o1 o a ih =>
   intro b h; cases o <;> simp only [ck] at h <;> try exact look_ok hf h
   cases ha : ck fs a with
   | none => rw [ha] at h; simp at h
   | some x => rw [ha] at h; simp at h; rw [ady, ih ha, h]; simp
 | o2 o a b iha ihb =>
   intro c h; cases o
   case seq =>
    simp only [ck] at h; cases hs : a.same b with
    | true =>
      rw [hs] at h; simp at h; subst h; rw [E.ax hs]; show ((b.den env).S.toList == (b.den env).S.toList) = true; simp only [beq_self_eq_true]
    | false =>
      rw [hs] at h; simp only [cond_false] at h; cases h1 : look fs (.o2 .seq a b) with
      | some x => rw [h1] at h; simp at h; subst h; exact look_ok hf h1
      | none =>
        rw [h1] at h; cases b <;> simp only [ae0, TP, Option.orElse_none] at h <;> first | (cases h; done) | exact vJ hf h
   case beq =>
    simp only [ck] at h; split at h
    ·rename_i x y hx hy; injection h with h; subst h; show ((a.den env).B == (b.den env).B) = _; rw [iha hx, ihb hy]; cases x <;> cases y <;> rfl
    ·cases hs : a.same b with
     | true =>
       rw [hs] at h; simp at h; subst h; rw [E.ax hs]; show ((b.den env).B == (b.den env).B) = true; simp
     | false => rw [hs] at h; exact look_ok hf h
   all_goals simp only [ck] at h
   all_goals try exact look_ok hf h
   ·rw [ZZ]; cases hs : a.same b with
    | true =>
      rw [hs] at h; simp at h; subst h; rw [E.ax hs]; simp
    | false =>
    rw [hs, cond_false] at h; cases h1 : look fs (.o2 .lt a b) with
    | some x => rw [h1] at h; simp at h; subst h; exact look_ok hf h1
    | none =>
      rw [h1] at h; cases h2 : look fs (.o2 .le b a) with
      | some x => rw [h2] at h; simp at h; subst h; have := look_ok hf h2; rw [BO] at this; simpa using QS this
      | none => rw [h2] at h; simp at h; exact Iq hf h
   ·rw [BO]; cases hs : a.same b with
    | true =>
      rw [hs] at h; simp at h; subst h; rw [E.ax hs]; simp
    | false =>
    rw [hs, cond_false] at h; cases h1 : look fs (.o2 .le a b) with
    | some x => rw [h1] at h; simp at h; subst h; exact look_ok hf h1
    | none =>
      rw [h1] at h; cases h2 : look fs (.o2 .lt b a) with
      | some x => rw [h2] at h; simp at h; subst h; have := look_ok hf h2; rw [ZZ] at this; simpa using HJ this
      | none =>
        rw [h2] at h; cases h3 : Mi fs b a with
        | some x => rw [h3] at h; simp at h; subst h; simpa using HJ (Iq hf h3)
        | none => rw [h3] at h; simp at h
   ·cases hs : a.same b with
    | true =>
      rw [hs] at h; simp at h; subst h; rw [E.ax hs]; show ((b.den env).I == (b.den env).I) = true; simp
    | false =>
      rw [hs] at h; simp only [cond_false] at h; cases h1 : look fs (.o2 .aX a b) with
      | some x => rw [h1] at h; simp at h; subst h; exact look_ok hf h1
      | none => rw [h1] at h; simp at h; exact PJ hf h
   ·rw [aaC]; cases h1 : ck fs a <;> cases h2 : ck fs b <;> rw [h1, h2] at h
    ·simp at h
    ·rename_i y; rw [ihb h2]; cases y <;> simp at h; subst h; simp
    ·rename_i x; rw [iha h1]; cases x <;> simp at h; subst h; simp
    ·rename_i x y; rw [iha h1, ihb h2]; cases x <;> cases y <;> simp at h <;> subst h <;> rfl
   ·rw [afT]; cases h1 : ck fs a <;> cases h2 : ck fs b <;> rw [h1, h2] at h
    ·simp at h
    ·rename_i y; rw [ihb h2]; cases y <;> simp at h; subst h; simp
    ·rename_i x; rw [iha h1]; cases x <;> simp at h; subst h; simp
    ·rename_i x y; rw [iha h1, ihb h2]; cases x <;> cases y <;> simp at h <;> subst h <;> rfl
 | _ => intro b h; exact look_ok hf h
end Go.Sx
