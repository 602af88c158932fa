/-
  THE LAW FnRetry: what its loops' rounds have to show, and that it is so.
-/
import Derived.Test.YtagpchabkplggaaSxR1RetryA
import Derived.Test.YtagpchabkplggaaRows
namespace Go.Proofs.Ytagpchabkplggaa.sxRetry
open Go.Sx Go.RowKit
set_option linter.unusedVariables false
set_option linter.unusedSimpArgs false
set_option maxRecDepth 100000

def gd0 : List (Facts × List Ob) :=
  [([((.o2 .lt (.fn 64 (.v 2000)) (.il 1)), true), ((.o2 .lt (.v 2000) (.v 64)), true)],
    [.e (.v 3000)]),
   ([((.o2 .lt (.il 3) (.fn 64 (.v 2000))), true), ((.o2 .lt (.fn 64 (.v 2000)) (.il 1)), false), ((.o2 .lt (.v 2000) (.v 64)), true)],
    [.e (.v 3000)]),
   ([((.o2 .lt (.fn 65 (.v 2000)) (.il 0)), true), ((.o2 .ieq (.fn 64 (.v 2000)) (.il 3)), true), ((.o2 .lt (.il 3) (.fn 64 (.v 2000))), false), ((.o2 .lt (.fn 64 (.v 2000)) (.il 1)), false), ((.o2 .lt (.v 2000) (.v 64)), true)],
    [.e (.v 3000)]),
   ([((.o2 .lt (.il 1099511627776) (.fn 65 (.v 2000))), true), ((.o2 .lt (.fn 65 (.v 2000)) (.il 0)), false), ((.o2 .ieq (.fn 64 (.v 2000)) (.il 3)), true), ((.o2 .lt (.il 3) (.fn 64 (.v 2000))), false), ((.o2 .lt (.fn 64 (.v 2000)) (.il 1)), false), ((.o2 .lt (.v 2000) (.v 64)), true)],
    [.e (.v 3000)]),
   ([((.o2 .lt (.il 1099511627776) (.fn 65 (.v 2000))), false), ((.o2 .lt (.fn 65 (.v 2000)) (.il 0)), false), ((.o2 .ieq (.fn 64 (.v 2000)) (.il 3)), true), ((.o2 .lt (.il 3) (.fn 64 (.v 2000))), false), ((.o2 .lt (.fn 64 (.v 2000)) (.il 1)), false), ((.o2 .lt (.v 2000) (.v 64)), true)],
    [.e (.o2 .lt (.v 2000) (.v 3001))]),
   ([((.o2 .ieq (.fn 65 (.v 2000)) (.il 0)), true), ((.o2 .ieq (.fn 64 (.v 2000)) (.il 1)), true), ((.o2 .ieq (.fn 64 (.v 2000)) (.il 3)), false), ((.o2 .lt (.il 3) (.fn 64 (.v 2000))), false), ((.o2 .lt (.fn 64 (.v 2000)) (.il 1)), false), ((.o2 .lt (.v 2000) (.v 64)), true)],
    [.e (.o2 .lt (.v 2000) (.v 3001))]),
   ([((.o2 .ieq (.fn 65 (.v 2000)) (.il 12)), true), ((.o2 .ieq (.fn 65 (.v 2000)) (.il 0)), false), ((.o2 .ieq (.fn 64 (.v 2000)) (.il 1)), true), ((.o2 .ieq (.fn 64 (.v 2000)) (.il 3)), false), ((.o2 .lt (.il 3) (.fn 64 (.v 2000))), false), ((.o2 .lt (.fn 64 (.v 2000)) (.il 1)), false), ((.o2 .lt (.v 2000) (.v 64)), true)],
    [.e (.o2 .lt (.v 2000) (.v 3001))]),
   ([((.o2 .ieq (.fn 65 (.v 2000)) (.il 98)), true), ((.o2 .ieq (.fn 65 (.v 2000)) (.il 12)), false), ((.o2 .ieq (.fn 65 (.v 2000)) (.il 0)), false), ((.o2 .ieq (.fn 64 (.v 2000)) (.il 1)), true), ((.o2 .ieq (.fn 64 (.v 2000)) (.il 3)), false), ((.o2 .lt (.il 3) (.fn 64 (.v 2000))), false), ((.o2 .lt (.fn 64 (.v 2000)) (.il 1)), false), ((.o2 .lt (.v 2000) (.v 64)), true)],
    [.e (.o2 .lt (.v 2000) (.v 3001))]),
   ([((.o2 .ieq (.fn 65 (.v 2000)) (.il 98)), false), ((.o2 .ieq (.fn 65 (.v 2000)) (.il 12)), false), ((.o2 .ieq (.fn 65 (.v 2000)) (.il 0)), false), ((.o2 .ieq (.fn 64 (.v 2000)) (.il 1)), true), ((.o2 .ieq (.fn 64 (.v 2000)) (.il 3)), false), ((.o2 .lt (.il 3) (.fn 64 (.v 2000))), false), ((.o2 .lt (.fn 64 (.v 2000)) (.il 1)), false), ((.o2 .lt (.v 2000) (.v 64)), true)],
    [.e (.v 3000)]),
   ([((.o2 .ieq (.fn 64 (.v 2000)) (.il 1)), false), ((.o2 .ieq (.fn 64 (.v 2000)) (.il 3)), false), ((.o2 .lt (.il 3) (.fn 64 (.v 2000))), false), ((.o2 .lt (.fn 64 (.v 2000)) (.il 1)), false), ((.o2 .lt (.v 2000) (.v 64)), true)],
    [.e (.o2 .lt (.v 2000) (.v 3001))]),
   ([((.o2 .lt (.v 2000) (.v 64)), false)],
    [.e (.o1 .not (.v 3000))])]

def sp0 : List (Facts × List Ob) :=
  [([((.o2 .ieq (.fn 64 (.v 2000)) (.il 3)), true), ((.o2 .lt (.v 2000) (.v 64)), true)],
    [.e (.o2 .le (.o2 .add (.fn 1001 (.v 2000)) (.fn 65 (.v 2000))) (.il 9223372036854775807)), .e (.o2 .le (.il (-9223372036854775808)) (.o2 .add (.fn 1001 (.v 2000)) (.fn 65 (.v 2000)))), .e (.o2 .ieq (.o2 .add (.fn 1001 (.v 2000)) (.fn 65 (.v 2000))) (.fn 1001 (.o2 .add (.v 2000) (.il 1)))), .e (.o2 .ieq (.fn 1002 (.v 2000)) (.fn 1002 (.o2 .add (.v 2000) (.il 1)))), .e (.o2 .ieq (.fn 1003 (.v 2000)) (.fn 1003 (.o2 .add (.v 2000) (.il 1)))), .e (.o2 .beq (.fn 1004 (.v 2000)) (.fn 1004 (.o2 .add (.v 2000) (.il 1)))), .e (.o2 .beq (.bl false) (.fn 1000 (.il 0)))]),
   ([((.o2 .le (.v 32) (.o2 .sub (.fn 1001 (.v 2000)) (.fn 1003 (.v 2000)))), true), ((.fn 1004 (.v 2000)), true), ((.o2 .ieq (.fn 65 (.v 2000)) (.il 12)), true), ((.o2 .ieq (.fn 64 (.v 2000)) (.il 1)), true), ((.o2 .ieq (.fn 64 (.v 2000)) (.il 3)), false), ((.o2 .lt (.v 2000) (.v 64)), true)],
    [.e (.o2 .ieq (.fn 1001 (.v 2000)) (.fn 1001 (.o2 .add (.v 2000) (.il 1)))), .e (.o2 .ieq (.fn 1001 (.v 2000)) (.fn 1002 (.o2 .add (.v 2000) (.il 1)))), .e (.o2 .ieq (.fn 1001 (.v 2000)) (.fn 1003 (.o2 .add (.v 2000) (.il 1)))), .e (.o2 .beq (.bl true) (.fn 1004 (.o2 .add (.v 2000) (.il 1)))), .e (.o2 .beq (.bl false) (.fn 1000 (.il 0)))]),
   ([((.o2 .le (.v 32) (.o2 .sub (.fn 1001 (.v 2000)) (.fn 1003 (.v 2000)))), false), ((.fn 1004 (.v 2000)), true), ((.o2 .ieq (.fn 65 (.v 2000)) (.il 12)), true), ((.o2 .ieq (.fn 64 (.v 2000)) (.il 1)), true), ((.o2 .ieq (.fn 64 (.v 2000)) (.il 3)), false), ((.o2 .lt (.v 2000) (.v 64)), true)],
    [.e (.o2 .ieq (.fn 1001 (.v 2000)) (.fn 1001 (.o2 .add (.v 2000) (.il 1)))), .e (.o2 .ieq (.fn 1002 (.v 2000)) (.fn 1002 (.o2 .add (.v 2000) (.il 1)))), .e (.o2 .ieq (.fn 1001 (.v 2000)) (.fn 1003 (.o2 .add (.v 2000) (.il 1)))), .e (.o2 .beq (.bl true) (.fn 1004 (.o2 .add (.v 2000) (.il 1)))), .e (.o2 .beq (.bl false) (.fn 1000 (.il 0)))]),
   ([((.fn 1004 (.v 2000)), false), ((.o2 .ieq (.fn 65 (.v 2000)) (.il 12)), true), ((.o2 .ieq (.fn 64 (.v 2000)) (.il 1)), true), ((.o2 .ieq (.fn 64 (.v 2000)) (.il 3)), false), ((.o2 .lt (.v 2000) (.v 64)), true)],
    [.e (.o2 .ieq (.fn 1001 (.v 2000)) (.fn 1001 (.o2 .add (.v 2000) (.il 1)))), .e (.o2 .ieq (.fn 1001 (.v 2000)) (.fn 1002 (.o2 .add (.v 2000) (.il 1)))), .e (.o2 .ieq (.fn 1001 (.v 2000)) (.fn 1003 (.o2 .add (.v 2000) (.il 1)))), .e (.o2 .beq (.bl true) (.fn 1004 (.o2 .add (.v 2000) (.il 1)))), .e (.o2 .beq (.bl false) (.fn 1000 (.il 0)))]),
   ([((.o2 .ieq (.fn 65 (.v 2000)) (.il 12)), false), ((.o2 .ieq (.fn 64 (.v 2000)) (.il 1)), true), ((.o2 .ieq (.fn 64 (.v 2000)) (.il 3)), false), ((.o2 .lt (.v 2000) (.v 64)), true)],
    [.e (.o2 .ieq (.fn 1001 (.v 2000)) (.fn 1001 (.o2 .add (.v 2000) (.il 1)))), .e (.o2 .ieq (.fn 1002 (.v 2000)) (.fn 1002 (.o2 .add (.v 2000) (.il 1)))), .e (.o2 .ieq (.fn 1003 (.v 2000)) (.fn 1003 (.o2 .add (.v 2000) (.il 1)))), .e (.o2 .beq (.fn 1004 (.v 2000)) (.fn 1004 (.o2 .add (.v 2000) (.il 1)))), .e (.o2 .beq (.bl false) (.fn 1000 (.il 0)))]),
   ([((.fn 1004 (.v 2000)), true), ((.o2 .lt (.il 0) (.v 0)), true), ((.o2 .ieq (.fn 64 (.v 2000)) (.il 2)), true), ((.o2 .ieq (.fn 64 (.v 2000)) (.il 1)), false), ((.o2 .ieq (.fn 64 (.v 2000)) (.il 3)), false), ((.o2 .lt (.v 2000) (.v 64)), true)],
    [.e (.o2 .ieq (.fn 1001 (.v 2000)) (.fn 1001 (.o2 .add (.v 2000) (.il 1)))), .e (.o2 .ieq (.fn 1002 (.v 2000)) (.fn 1002 (.o2 .add (.v 2000) (.il 1)))), .e (.o2 .ieq (.fn 1003 (.v 2000)) (.fn 1003 (.o2 .add (.v 2000) (.il 1)))), .e (.o2 .beq (.o2 .le (.o2 .sub (.fn 1001 (.v 2000)) (.fn 1002 (.v 2000))) (.v 0)) (.fn 1004 (.o2 .add (.v 2000) (.il 1)))), .e (.o2 .beq (.o2 .le (.o2 .sub (.fn 1001 (.v 2000)) (.fn 1002 (.v 2000))) (.v 0)) (.fn 1000 (.il 0)))]),
   ([((.fn 1004 (.v 2000)), false), ((.o2 .lt (.il 0) (.v 0)), true), ((.o2 .ieq (.fn 64 (.v 2000)) (.il 2)), true), ((.o2 .ieq (.fn 64 (.v 2000)) (.il 1)), false), ((.o2 .ieq (.fn 64 (.v 2000)) (.il 3)), false), ((.o2 .lt (.v 2000) (.v 64)), true)],
    [.e (.o2 .ieq (.fn 1001 (.v 2000)) (.fn 1001 (.o2 .add (.v 2000) (.il 1)))), .e (.o2 .ieq (.fn 1002 (.v 2000)) (.fn 1002 (.o2 .add (.v 2000) (.il 1)))), .e (.o2 .ieq (.fn 1003 (.v 2000)) (.fn 1003 (.o2 .add (.v 2000) (.il 1)))), .e (.o2 .beq (.bl false) (.fn 1004 (.o2 .add (.v 2000) (.il 1)))), .e (.o2 .beq (.bl false) (.fn 1000 (.il 0)))]),
   ([((.o2 .lt (.il 0) (.v 0)), false), ((.o2 .ieq (.fn 64 (.v 2000)) (.il 2)), true), ((.o2 .ieq (.fn 64 (.v 2000)) (.il 1)), false), ((.o2 .ieq (.fn 64 (.v 2000)) (.il 3)), false), ((.o2 .lt (.v 2000) (.v 64)), true)],
    [.e (.o2 .ieq (.fn 1001 (.v 2000)) (.fn 1001 (.o2 .add (.v 2000) (.il 1)))), .e (.o2 .ieq (.fn 1002 (.v 2000)) (.fn 1002 (.o2 .add (.v 2000) (.il 1)))), .e (.o2 .ieq (.fn 1003 (.v 2000)) (.fn 1003 (.o2 .add (.v 2000) (.il 1)))), .e (.o2 .beq (.fn 1004 (.v 2000)) (.fn 1004 (.o2 .add (.v 2000) (.il 1)))), .e (.o2 .beq (.bl false) (.fn 1000 (.il 0)))]),
   ([((.o2 .ieq (.fn 64 (.v 2000)) (.il 2)), false), ((.o2 .ieq (.fn 64 (.v 2000)) (.il 1)), false), ((.o2 .ieq (.fn 64 (.v 2000)) (.il 3)), false), ((.o2 .lt (.v 2000) (.v 64)), true)],
    [.e (.o2 .ieq (.fn 1001 (.v 2000)) (.fn 1001 (.o2 .add (.v 2000) (.il 1)))), .e (.o2 .ieq (.fn 1002 (.v 2000)) (.fn 1002 (.o2 .add (.v 2000) (.il 1)))), .e (.o2 .ieq (.fn 1003 (.v 2000)) (.fn 1003 (.o2 .add (.v 2000) (.il 1)))), .e (.o2 .beq (.fn 1004 (.v 2000)) (.fn 1004 (.o2 .add (.v 2000) (.il 1)))), .e (.o2 .beq (.bl false) (.fn 1000 (.il 0)))]),
   ([((.o2 .lt (.v 2000) (.v 64)), false)],
    [])]

def sp1 : List (Facts × List Ob) :=
  [([((.o2 .ieq (.fn 64 (.v 2000)) (.il 3)), true), ((.o2 .lt (.v 2000) (.v 64)), true)],
    [.e (.o2 .le (.o2 .add (.fn 1001 (.v 2000)) (.fn 65 (.v 2000))) (.il 9223372036854775807)), .e (.o2 .le (.il (-9223372036854775808)) (.o2 .add (.fn 1001 (.v 2000)) (.fn 65 (.v 2000)))), .e (.o2 .ieq (.o2 .add (.fn 1001 (.v 2000)) (.fn 65 (.v 2000))) (.fn 1001 (.o2 .add (.v 2000) (.il 1)))), .e (.o2 .ieq (.fn 1002 (.v 2000)) (.fn 1002 (.o2 .add (.v 2000) (.il 1)))), .e (.o2 .ieq (.fn 1003 (.v 2000)) (.fn 1003 (.o2 .add (.v 2000) (.il 1)))), .e (.o2 .beq (.fn 1004 (.v 2000)) (.fn 1004 (.o2 .add (.v 2000) (.il 1)))), .e (.o2 .beq (.bl false) (.fn 1000 (.v 2000)))]),
   ([((.o2 .le (.v 32) (.o2 .sub (.fn 1001 (.v 2000)) (.fn 1003 (.v 2000)))), true), ((.fn 1004 (.v 2000)), true), ((.o2 .ieq (.fn 65 (.v 2000)) (.il 12)), true), ((.o2 .ieq (.fn 64 (.v 2000)) (.il 1)), true), ((.o2 .ieq (.fn 64 (.v 2000)) (.il 3)), false), ((.o2 .lt (.v 2000) (.v 64)), true)],
    [.e (.o2 .ieq (.fn 1001 (.v 2000)) (.fn 1001 (.o2 .add (.v 2000) (.il 1)))), .e (.o2 .ieq (.fn 1001 (.v 2000)) (.fn 1002 (.o2 .add (.v 2000) (.il 1)))), .e (.o2 .ieq (.fn 1001 (.v 2000)) (.fn 1003 (.o2 .add (.v 2000) (.il 1)))), .e (.o2 .beq (.bl true) (.fn 1004 (.o2 .add (.v 2000) (.il 1)))), .e (.o2 .beq (.bl false) (.fn 1000 (.v 2000)))]),
   ([((.o2 .le (.v 32) (.o2 .sub (.fn 1001 (.v 2000)) (.fn 1003 (.v 2000)))), false), ((.fn 1004 (.v 2000)), true), ((.o2 .ieq (.fn 65 (.v 2000)) (.il 12)), true), ((.o2 .ieq (.fn 64 (.v 2000)) (.il 1)), true), ((.o2 .ieq (.fn 64 (.v 2000)) (.il 3)), false), ((.o2 .lt (.v 2000) (.v 64)), true)],
    [.e (.o2 .ieq (.fn 1001 (.v 2000)) (.fn 1001 (.o2 .add (.v 2000) (.il 1)))), .e (.o2 .ieq (.fn 1002 (.v 2000)) (.fn 1002 (.o2 .add (.v 2000) (.il 1)))), .e (.o2 .ieq (.fn 1001 (.v 2000)) (.fn 1003 (.o2 .add (.v 2000) (.il 1)))), .e (.o2 .beq (.bl true) (.fn 1004 (.o2 .add (.v 2000) (.il 1)))), .e (.o2 .beq (.bl false) (.fn 1000 (.v 2000)))]),
   ([((.fn 1004 (.v 2000)), false), ((.o2 .ieq (.fn 65 (.v 2000)) (.il 12)), true), ((.o2 .ieq (.fn 64 (.v 2000)) (.il 1)), true), ((.o2 .ieq (.fn 64 (.v 2000)) (.il 3)), false), ((.o2 .lt (.v 2000) (.v 64)), true)],
    [.e (.o2 .ieq (.fn 1001 (.v 2000)) (.fn 1001 (.o2 .add (.v 2000) (.il 1)))), .e (.o2 .ieq (.fn 1001 (.v 2000)) (.fn 1002 (.o2 .add (.v 2000) (.il 1)))), .e (.o2 .ieq (.fn 1001 (.v 2000)) (.fn 1003 (.o2 .add (.v 2000) (.il 1)))), .e (.o2 .beq (.bl true) (.fn 1004 (.o2 .add (.v 2000) (.il 1)))), .e (.o2 .beq (.bl false) (.fn 1000 (.v 2000)))]),
   ([((.o2 .ieq (.fn 65 (.v 2000)) (.il 12)), false), ((.o2 .ieq (.fn 64 (.v 2000)) (.il 1)), true), ((.o2 .ieq (.fn 64 (.v 2000)) (.il 3)), false), ((.o2 .lt (.v 2000) (.v 64)), true)],
    [.e (.o2 .ieq (.fn 1001 (.v 2000)) (.fn 1001 (.o2 .add (.v 2000) (.il 1)))), .e (.o2 .ieq (.fn 1002 (.v 2000)) (.fn 1002 (.o2 .add (.v 2000) (.il 1)))), .e (.o2 .ieq (.fn 1003 (.v 2000)) (.fn 1003 (.o2 .add (.v 2000) (.il 1)))), .e (.o2 .beq (.fn 1004 (.v 2000)) (.fn 1004 (.o2 .add (.v 2000) (.il 1)))), .e (.o2 .beq (.bl false) (.fn 1000 (.v 2000)))]),
   ([((.fn 1004 (.v 2000)), true), ((.o2 .lt (.il 0) (.v 0)), true), ((.o2 .ieq (.fn 64 (.v 2000)) (.il 2)), true), ((.o2 .ieq (.fn 64 (.v 2000)) (.il 1)), false), ((.o2 .ieq (.fn 64 (.v 2000)) (.il 3)), false), ((.o2 .lt (.v 2000) (.v 64)), true)],
    [.e (.o2 .ieq (.fn 1001 (.v 2000)) (.fn 1001 (.o2 .add (.v 2000) (.il 1)))), .e (.o2 .ieq (.fn 1002 (.v 2000)) (.fn 1002 (.o2 .add (.v 2000) (.il 1)))), .e (.o2 .ieq (.fn 1003 (.v 2000)) (.fn 1003 (.o2 .add (.v 2000) (.il 1)))), .e (.o2 .beq (.o2 .le (.o2 .sub (.fn 1001 (.v 2000)) (.fn 1002 (.v 2000))) (.v 0)) (.fn 1004 (.o2 .add (.v 2000) (.il 1)))), .e (.o2 .beq (.o2 .le (.o2 .sub (.fn 1001 (.v 2000)) (.fn 1002 (.v 2000))) (.v 0)) (.fn 1000 (.v 2000)))]),
   ([((.fn 1004 (.v 2000)), false), ((.o2 .lt (.il 0) (.v 0)), true), ((.o2 .ieq (.fn 64 (.v 2000)) (.il 2)), true), ((.o2 .ieq (.fn 64 (.v 2000)) (.il 1)), false), ((.o2 .ieq (.fn 64 (.v 2000)) (.il 3)), false), ((.o2 .lt (.v 2000) (.v 64)), true)],
    [.e (.o2 .ieq (.fn 1001 (.v 2000)) (.fn 1001 (.o2 .add (.v 2000) (.il 1)))), .e (.o2 .ieq (.fn 1002 (.v 2000)) (.fn 1002 (.o2 .add (.v 2000) (.il 1)))), .e (.o2 .ieq (.fn 1003 (.v 2000)) (.fn 1003 (.o2 .add (.v 2000) (.il 1)))), .e (.o2 .beq (.bl false) (.fn 1004 (.o2 .add (.v 2000) (.il 1)))), .e (.o2 .beq (.bl false) (.fn 1000 (.v 2000)))]),
   ([((.o2 .lt (.il 0) (.v 0)), false), ((.o2 .ieq (.fn 64 (.v 2000)) (.il 2)), true), ((.o2 .ieq (.fn 64 (.v 2000)) (.il 1)), false), ((.o2 .ieq (.fn 64 (.v 2000)) (.il 3)), false), ((.o2 .lt (.v 2000) (.v 64)), true)],
    [.e (.o2 .ieq (.fn 1001 (.v 2000)) (.fn 1001 (.o2 .add (.v 2000) (.il 1)))), .e (.o2 .ieq (.fn 1002 (.v 2000)) (.fn 1002 (.o2 .add (.v 2000) (.il 1)))), .e (.o2 .ieq (.fn 1003 (.v 2000)) (.fn 1003 (.o2 .add (.v 2000) (.il 1)))), .e (.o2 .beq (.fn 1004 (.v 2000)) (.fn 1004 (.o2 .add (.v 2000) (.il 1)))), .e (.o2 .beq (.bl false) (.fn 1000 (.v 2000)))]),
   ([((.o2 .ieq (.fn 64 (.v 2000)) (.il 2)), false), ((.o2 .ieq (.fn 64 (.v 2000)) (.il 1)), false), ((.o2 .ieq (.fn 64 (.v 2000)) (.il 3)), false), ((.o2 .lt (.v 2000) (.v 64)), true)],
    [.e (.o2 .ieq (.fn 1001 (.v 2000)) (.fn 1001 (.o2 .add (.v 2000) (.il 1)))), .e (.o2 .ieq (.fn 1002 (.v 2000)) (.fn 1002 (.o2 .add (.v 2000) (.il 1)))), .e (.o2 .ieq (.fn 1003 (.v 2000)) (.fn 1003 (.o2 .add (.v 2000) (.il 1)))), .e (.o2 .beq (.fn 1004 (.v 2000)) (.fn 1004 (.o2 .add (.v 2000) (.il 1)))), .e (.o2 .beq (.bl false) (.fn 1000 (.v 2000)))]),
   ([((.o2 .lt (.v 2000) (.v 64)), false)],
    [.e (.o2 .ieq (.v 2000) (.v 64)), .e (.o2 .ieq (.v 64) (.v 2000))])]

def im0 : List (Facts × List Ob) :=
  [([((.o2 .ieq (.fn 65 (.v 2000)) (.il 0)), true), ((.o2 .ieq (.fn 64 (.v 2000)) (.il 1)), true), ((.o2 .lt (.v 2000) (.v 64)), true)],
    [.e (.o2 .beq (.fn 1004 (.v 2000)) (.fn 1004 (.o2 .add (.v 2000) (.il 1)))), .e (.o2 .ieq (.fn 1005 (.v 2000)) (.fn 1005 (.o2 .add (.v 2000) (.il 1)))), .e (.o2 .beq (.fn 1004 (.v 2000)) (.fn 1004 (.o2 .add (.v 2000) (.il 1)))), .e (.o2 .ieq (.fn 1006 (.v 2000)) (.fn 1006 (.o2 .add (.v 2000) (.il 1)))), .e (.o2 .ieq (.fn 1001 (.v 2000)) (.fn 1001 (.o2 .add (.v 2000) (.il 1)))), .e (.o2 .beq (.bl false) (.fn 1000 (.il 0)))]),
   ([((.o2 .le (.v 32) (.o2 .sub (.fn 1001 (.v 2000)) (.fn 1006 (.v 2000)))), true), ((.fn 1004 (.v 2000)), true), ((.o2 .ieq (.fn 65 (.v 2000)) (.il 12)), true), ((.o2 .ieq (.fn 65 (.v 2000)) (.il 11)), false), ((.o2 .ieq (.fn 65 (.v 2000)) (.il 10)), false), ((.o2 .ieq (.fn 65 (.v 2000)) (.il 9)), false), ((.o2 .ieq (.fn 65 (.v 2000)) (.il 8)), false), ((.o2 .ieq (.fn 65 (.v 2000)) (.il 0)), false), ((.o2 .ieq (.fn 64 (.v 2000)) (.il 1)), true), ((.o2 .lt (.v 2000) (.v 64)), true)],
    [.e (.o2 .beq (.bl true) (.fn 1004 (.o2 .add (.v 2000) (.il 1)))), .e (.o2 .ieq (.fn 1001 (.v 2000)) (.fn 1005 (.o2 .add (.v 2000) (.il 1)))), .e (.o2 .beq (.bl true) (.fn 1004 (.o2 .add (.v 2000) (.il 1)))), .e (.o2 .ieq (.fn 1001 (.v 2000)) (.fn 1006 (.o2 .add (.v 2000) (.il 1)))), .e (.o2 .ieq (.fn 1001 (.v 2000)) (.fn 1001 (.o2 .add (.v 2000) (.il 1)))), .e (.o2 .beq (.bl false) (.fn 1000 (.il 0)))]),
   ([((.o2 .le (.v 32) (.o2 .sub (.fn 1001 (.v 2000)) (.fn 1006 (.v 2000)))), false), ((.fn 1004 (.v 2000)), true), ((.o2 .ieq (.fn 65 (.v 2000)) (.il 12)), true), ((.o2 .ieq (.fn 65 (.v 2000)) (.il 11)), false), ((.o2 .ieq (.fn 65 (.v 2000)) (.il 10)), false), ((.o2 .ieq (.fn 65 (.v 2000)) (.il 9)), false), ((.o2 .ieq (.fn 65 (.v 2000)) (.il 8)), false), ((.o2 .ieq (.fn 65 (.v 2000)) (.il 0)), false), ((.o2 .ieq (.fn 64 (.v 2000)) (.il 1)), true), ((.o2 .lt (.v 2000) (.v 64)), true)],
    [.e (.o2 .beq (.fn 1004 (.v 2000)) (.fn 1004 (.o2 .add (.v 2000) (.il 1)))), .e (.o2 .ieq (.fn 1005 (.v 2000)) (.fn 1005 (.o2 .add (.v 2000) (.il 1)))), .e (.o2 .beq (.bl true) (.fn 1004 (.o2 .add (.v 2000) (.il 1)))), .e (.o2 .ieq (.fn 1001 (.v 2000)) (.fn 1006 (.o2 .add (.v 2000) (.il 1)))), .e (.o2 .ieq (.fn 1001 (.v 2000)) (.fn 1001 (.o2 .add (.v 2000) (.il 1)))), .e (.o2 .beq (.bl false) (.fn 1000 (.il 0)))]),
   ([((.fn 1004 (.v 2000)), false), ((.o2 .ieq (.fn 65 (.v 2000)) (.il 12)), true), ((.o2 .ieq (.fn 65 (.v 2000)) (.il 11)), false), ((.o2 .ieq (.fn 65 (.v 2000)) (.il 10)), false), ((.o2 .ieq (.fn 65 (.v 2000)) (.il 9)), false), ((.o2 .ieq (.fn 65 (.v 2000)) (.il 8)), false), ((.o2 .ieq (.fn 65 (.v 2000)) (.il 0)), false), ((.o2 .ieq (.fn 64 (.v 2000)) (.il 1)), true), ((.o2 .lt (.v 2000) (.v 64)), true)],
    [.e (.o2 .beq (.bl true) (.fn 1004 (.o2 .add (.v 2000) (.il 1)))), .e (.o2 .ieq (.fn 1001 (.v 2000)) (.fn 1005 (.o2 .add (.v 2000) (.il 1)))), .e (.o2 .beq (.bl true) (.fn 1004 (.o2 .add (.v 2000) (.il 1)))), .e (.o2 .ieq (.fn 1001 (.v 2000)) (.fn 1006 (.o2 .add (.v 2000) (.il 1)))), .e (.o2 .ieq (.fn 1001 (.v 2000)) (.fn 1001 (.o2 .add (.v 2000) (.il 1)))), .e (.o2 .beq (.bl false) (.fn 1000 (.il 0)))]),
   ([((.o2 .ieq (.fn 65 (.v 2000)) (.il 15)), false), ((.o2 .ieq (.fn 65 (.v 2000)) (.il 3)), false), ((.o2 .ieq (.fn 65 (.v 2000)) (.il 14)), false), ((.o2 .ieq (.fn 65 (.v 2000)) (.il 19)), false), ((.o2 .ieq (.fn 65 (.v 2000)) (.il 18)), false), ((.o2 .ieq (.fn 65 (.v 2000)) (.il 17)), false), ((.o2 .ieq (.fn 65 (.v 2000)) (.il 12)), false), ((.o2 .ieq (.fn 65 (.v 2000)) (.il 11)), false), ((.o2 .ieq (.fn 65 (.v 2000)) (.il 10)), false), ((.o2 .ieq (.fn 65 (.v 2000)) (.il 9)), false), ((.o2 .ieq (.fn 65 (.v 2000)) (.il 8)), false), ((.o2 .ieq (.fn 65 (.v 2000)) (.il 0)), false), ((.o2 .ieq (.fn 64 (.v 2000)) (.il 1)), true), ((.o2 .lt (.v 2000) (.v 64)), true)],
    [.e (.o2 .beq (.fn 1004 (.v 2000)) (.fn 1004 (.o2 .add (.v 2000) (.il 1)))), .e (.o2 .ieq (.fn 1005 (.v 2000)) (.fn 1005 (.o2 .add (.v 2000) (.il 1)))), .e (.o2 .beq (.fn 1004 (.v 2000)) (.fn 1004 (.o2 .add (.v 2000) (.il 1)))), .e (.o2 .ieq (.fn 1006 (.v 2000)) (.fn 1006 (.o2 .add (.v 2000) (.il 1)))), .e (.o2 .ieq (.fn 1001 (.v 2000)) (.fn 1001 (.o2 .add (.v 2000) (.il 1)))), .e (.o2 .beq (.bl false) (.fn 1000 (.il 0)))]),
   ([((.o2 .le (.v 0) (.il 0)), true), ((.o2 .ieq (.fn 64 (.v 2000)) (.il 2)), true), ((.o2 .ieq (.fn 64 (.v 2000)) (.il 1)), false), ((.o2 .lt (.v 2000) (.v 64)), true)],
    [.e (.o2 .beq (.fn 1004 (.v 2000)) (.fn 1004 (.o2 .add (.v 2000) (.il 1)))), .e (.o2 .ieq (.fn 1005 (.v 2000)) (.fn 1005 (.o2 .add (.v 2000) (.il 1)))), .e (.o2 .beq (.fn 1004 (.v 2000)) (.fn 1004 (.o2 .add (.v 2000) (.il 1)))), .e (.o2 .ieq (.fn 1006 (.v 2000)) (.fn 1006 (.o2 .add (.v 2000) (.il 1)))), .e (.o2 .ieq (.fn 1001 (.v 2000)) (.fn 1001 (.o2 .add (.v 2000) (.il 1)))), .e (.o2 .beq (.bl false) (.fn 1000 (.il 0)))]),
   ([((.o2 .le (.o2 .sub (.fn 1001 (.v 2000)) (.fn 1005 (.v 2000))) (.v 0)), true), ((.fn 1004 (.v 2000)), true), ((.o2 .le (.v 0) (.il 0)), false), ((.o2 .ieq (.fn 64 (.v 2000)) (.il 2)), true), ((.o2 .ieq (.fn 64 (.v 2000)) (.il 1)), false), ((.o2 .lt (.v 2000) (.v 64)), true)],
    [.e (.o2 .beq (.fn 1004 (.v 2000)) (.fn 1004 (.o2 .add (.v 2000) (.il 1)))), .e (.o2 .ieq (.fn 1005 (.v 2000)) (.fn 1005 (.o2 .add (.v 2000) (.il 1)))), .e (.o2 .beq (.fn 1004 (.v 2000)) (.fn 1004 (.o2 .add (.v 2000) (.il 1)))), .e (.o2 .ieq (.fn 1006 (.v 2000)) (.fn 1006 (.o2 .add (.v 2000) (.il 1)))), .e (.o2 .ieq (.fn 1001 (.v 2000)) (.fn 1001 (.o2 .add (.v 2000) (.il 1)))), .e (.o2 .beq (.bl true) (.fn 1000 (.il 0)))]),
   ([((.o2 .le (.o2 .sub (.fn 1001 (.v 2000)) (.fn 1005 (.v 2000))) (.v 0)), false), ((.fn 1004 (.v 2000)), true), ((.o2 .le (.v 0) (.il 0)), false), ((.o2 .ieq (.fn 64 (.v 2000)) (.il 2)), true), ((.o2 .ieq (.fn 64 (.v 2000)) (.il 1)), false), ((.o2 .lt (.v 2000) (.v 64)), true)],
    [.e (.o2 .beq (.bl false) (.fn 1004 (.o2 .add (.v 2000) (.il 1)))), .e (.o2 .ieq (.il 0) (.fn 1005 (.o2 .add (.v 2000) (.il 1)))), .e (.o2 .beq (.bl false) (.fn 1004 (.o2 .add (.v 2000) (.il 1)))), .e (.o2 .ieq (.il 0) (.fn 1006 (.o2 .add (.v 2000) (.il 1)))), .e (.o2 .ieq (.fn 1001 (.v 2000)) (.fn 1001 (.o2 .add (.v 2000) (.il 1)))), .e (.o2 .beq (.bl false) (.fn 1000 (.il 0)))]),
   ([((.fn 1004 (.v 2000)), false), ((.o2 .le (.v 0) (.il 0)), false), ((.o2 .ieq (.fn 64 (.v 2000)) (.il 2)), true), ((.o2 .ieq (.fn 64 (.v 2000)) (.il 1)), false), ((.o2 .lt (.v 2000) (.v 64)), true)],
    [.e (.o2 .beq (.bl false) (.fn 1004 (.o2 .add (.v 2000) (.il 1)))), .e (.o2 .ieq (.il 0) (.fn 1005 (.o2 .add (.v 2000) (.il 1)))), .e (.o2 .beq (.bl false) (.fn 1004 (.o2 .add (.v 2000) (.il 1)))), .e (.o2 .ieq (.il 0) (.fn 1006 (.o2 .add (.v 2000) (.il 1)))), .e (.o2 .ieq (.fn 1001 (.v 2000)) (.fn 1001 (.o2 .add (.v 2000) (.il 1)))), .e (.o2 .beq (.bl false) (.fn 1000 (.il 0)))]),
   ([((.o2 .ieq (.fn 64 (.v 2000)) (.il 3)), true), ((.o2 .ieq (.fn 64 (.v 2000)) (.il 2)), false), ((.o2 .ieq (.fn 64 (.v 2000)) (.il 1)), false), ((.o2 .lt (.v 2000) (.v 64)), true)],
    [.e (.o2 .beq (.fn 1004 (.v 2000)) (.fn 1004 (.o2 .add (.v 2000) (.il 1)))), .e (.o2 .ieq (.fn 1005 (.v 2000)) (.fn 1005 (.o2 .add (.v 2000) (.il 1)))), .e (.o2 .beq (.fn 1004 (.v 2000)) (.fn 1004 (.o2 .add (.v 2000) (.il 1)))), .e (.o2 .ieq (.fn 1006 (.v 2000)) (.fn 1006 (.o2 .add (.v 2000) (.il 1)))), .e (.o2 .ieq (.o2 .add (.fn 1001 (.v 2000)) (.o2 .mx (.il 0) (.o2 .mn (.fn 65 (.v 2000)) (.il 1125899906842624)))) (.fn 1001 (.o2 .add (.v 2000) (.il 1)))), .e (.o2 .beq (.bl false) (.fn 1000 (.il 0)))]),
   ([((.o2 .ieq (.fn 64 (.v 2000)) (.il 3)), false), ((.o2 .ieq (.fn 64 (.v 2000)) (.il 2)), false), ((.o2 .ieq (.fn 64 (.v 2000)) (.il 1)), false), ((.o2 .lt (.v 2000) (.v 64)), true)],
    [.e (.o2 .beq (.fn 1004 (.v 2000)) (.fn 1004 (.o2 .add (.v 2000) (.il 1)))), .e (.o2 .ieq (.fn 1005 (.v 2000)) (.fn 1005 (.o2 .add (.v 2000) (.il 1)))), .e (.o2 .beq (.fn 1004 (.v 2000)) (.fn 1004 (.o2 .add (.v 2000) (.il 1)))), .e (.o2 .ieq (.fn 1006 (.v 2000)) (.fn 1006 (.o2 .add (.v 2000) (.il 1)))), .e (.o2 .ieq (.fn 1001 (.v 2000)) (.fn 1001 (.o2 .add (.v 2000) (.il 1)))), .e (.o2 .beq (.bl false) (.fn 1000 (.il 0)))]),
   ([((.o2 .lt (.v 2000) (.v 64)), false)],
    [])]

def im1 : List (Facts × List Ob) :=
  [([((.o2 .ieq (.fn 65 (.v 2000)) (.il 0)), true), ((.o2 .ieq (.fn 64 (.v 2000)) (.il 1)), true), ((.o2 .lt (.v 2000) (.v 64)), true)],
    [.e (.o2 .beq (.fn 1004 (.v 2000)) (.fn 1004 (.o2 .add (.v 2000) (.il 1)))), .e (.o2 .ieq (.fn 1005 (.v 2000)) (.fn 1005 (.o2 .add (.v 2000) (.il 1)))), .e (.o2 .beq (.fn 1004 (.v 2000)) (.fn 1004 (.o2 .add (.v 2000) (.il 1)))), .e (.o2 .ieq (.fn 1006 (.v 2000)) (.fn 1006 (.o2 .add (.v 2000) (.il 1)))), .e (.o2 .ieq (.fn 1001 (.v 2000)) (.fn 1001 (.o2 .add (.v 2000) (.il 1)))), .e (.o2 .beq (.bl false) (.fn 1000 (.v 2000)))]),
   ([((.o2 .le (.v 32) (.o2 .sub (.fn 1001 (.v 2000)) (.fn 1006 (.v 2000)))), true), ((.fn 1004 (.v 2000)), true), ((.o2 .ieq (.fn 65 (.v 2000)) (.il 12)), true), ((.o2 .ieq (.fn 65 (.v 2000)) (.il 11)), false), ((.o2 .ieq (.fn 65 (.v 2000)) (.il 10)), false), ((.o2 .ieq (.fn 65 (.v 2000)) (.il 9)), false), ((.o2 .ieq (.fn 65 (.v 2000)) (.il 8)), false), ((.o2 .ieq (.fn 65 (.v 2000)) (.il 0)), false), ((.o2 .ieq (.fn 64 (.v 2000)) (.il 1)), true), ((.o2 .lt (.v 2000) (.v 64)), true)],
    [.e (.o2 .beq (.bl true) (.fn 1004 (.o2 .add (.v 2000) (.il 1)))), .e (.o2 .ieq (.fn 1001 (.v 2000)) (.fn 1005 (.o2 .add (.v 2000) (.il 1)))), .e (.o2 .beq (.bl true) (.fn 1004 (.o2 .add (.v 2000) (.il 1)))), .e (.o2 .ieq (.fn 1001 (.v 2000)) (.fn 1006 (.o2 .add (.v 2000) (.il 1)))), .e (.o2 .ieq (.fn 1001 (.v 2000)) (.fn 1001 (.o2 .add (.v 2000) (.il 1)))), .e (.o2 .beq (.bl false) (.fn 1000 (.v 2000)))]),
   ([((.o2 .le (.v 32) (.o2 .sub (.fn 1001 (.v 2000)) (.fn 1006 (.v 2000)))), false), ((.fn 1004 (.v 2000)), true), ((.o2 .ieq (.fn 65 (.v 2000)) (.il 12)), true), ((.o2 .ieq (.fn 65 (.v 2000)) (.il 11)), false), ((.o2 .ieq (.fn 65 (.v 2000)) (.il 10)), false), ((.o2 .ieq (.fn 65 (.v 2000)) (.il 9)), false), ((.o2 .ieq (.fn 65 (.v 2000)) (.il 8)), false), ((.o2 .ieq (.fn 65 (.v 2000)) (.il 0)), false), ((.o2 .ieq (.fn 64 (.v 2000)) (.il 1)), true), ((.o2 .lt (.v 2000) (.v 64)), true)],
    [.e (.o2 .beq (.fn 1004 (.v 2000)) (.fn 1004 (.o2 .add (.v 2000) (.il 1)))), .e (.o2 .ieq (.fn 1005 (.v 2000)) (.fn 1005 (.o2 .add (.v 2000) (.il 1)))), .e (.o2 .beq (.bl true) (.fn 1004 (.o2 .add (.v 2000) (.il 1)))), .e (.o2 .ieq (.fn 1001 (.v 2000)) (.fn 1006 (.o2 .add (.v 2000) (.il 1)))), .e (.o2 .ieq (.fn 1001 (.v 2000)) (.fn 1001 (.o2 .add (.v 2000) (.il 1)))), .e (.o2 .beq (.bl false) (.fn 1000 (.v 2000)))]),
   ([((.fn 1004 (.v 2000)), false), ((.o2 .ieq (.fn 65 (.v 2000)) (.il 12)), true), ((.o2 .ieq (.fn 65 (.v 2000)) (.il 11)), false), ((.o2 .ieq (.fn 65 (.v 2000)) (.il 10)), false), ((.o2 .ieq (.fn 65 (.v 2000)) (.il 9)), false), ((.o2 .ieq (.fn 65 (.v 2000)) (.il 8)), false), ((.o2 .ieq (.fn 65 (.v 2000)) (.il 0)), false), ((.o2 .ieq (.fn 64 (.v 2000)) (.il 1)), true), ((.o2 .lt (.v 2000) (.v 64)), true)],
    [.e (.o2 .beq (.bl true) (.fn 1004 (.o2 .add (.v 2000) (.il 1)))), .e (.o2 .ieq (.fn 1001 (.v 2000)) (.fn 1005 (.o2 .add (.v 2000) (.il 1)))), .e (.o2 .beq (.bl true) (.fn 1004 (.o2 .add (.v 2000) (.il 1)))), .e (.o2 .ieq (.fn 1001 (.v 2000)) (.fn 1006 (.o2 .add (.v 2000) (.il 1)))), .e (.o2 .ieq (.fn 1001 (.v 2000)) (.fn 1001 (.o2 .add (.v 2000) (.il 1)))), .e (.o2 .beq (.bl false) (.fn 1000 (.v 2000)))]),
   ([((.o2 .ieq (.fn 65 (.v 2000)) (.il 15)), false), ((.o2 .ieq (.fn 65 (.v 2000)) (.il 3)), false), ((.o2 .ieq (.fn 65 (.v 2000)) (.il 14)), false), ((.o2 .ieq (.fn 65 (.v 2000)) (.il 19)), false), ((.o2 .ieq (.fn 65 (.v 2000)) (.il 18)), false), ((.o2 .ieq (.fn 65 (.v 2000)) (.il 17)), false), ((.o2 .ieq (.fn 65 (.v 2000)) (.il 12)), false), ((.o2 .ieq (.fn 65 (.v 2000)) (.il 11)), false), ((.o2 .ieq (.fn 65 (.v 2000)) (.il 10)), false), ((.o2 .ieq (.fn 65 (.v 2000)) (.il 9)), false), ((.o2 .ieq (.fn 65 (.v 2000)) (.il 8)), false), ((.o2 .ieq (.fn 65 (.v 2000)) (.il 0)), false), ((.o2 .ieq (.fn 64 (.v 2000)) (.il 1)), true), ((.o2 .lt (.v 2000) (.v 64)), true)],
    [.e (.o2 .beq (.fn 1004 (.v 2000)) (.fn 1004 (.o2 .add (.v 2000) (.il 1)))), .e (.o2 .ieq (.fn 1005 (.v 2000)) (.fn 1005 (.o2 .add (.v 2000) (.il 1)))), .e (.o2 .beq (.fn 1004 (.v 2000)) (.fn 1004 (.o2 .add (.v 2000) (.il 1)))), .e (.o2 .ieq (.fn 1006 (.v 2000)) (.fn 1006 (.o2 .add (.v 2000) (.il 1)))), .e (.o2 .ieq (.fn 1001 (.v 2000)) (.fn 1001 (.o2 .add (.v 2000) (.il 1)))), .e (.o2 .beq (.bl false) (.fn 1000 (.v 2000)))]),
   ([((.o2 .le (.v 0) (.il 0)), true), ((.o2 .ieq (.fn 64 (.v 2000)) (.il 2)), true), ((.o2 .ieq (.fn 64 (.v 2000)) (.il 1)), false), ((.o2 .lt (.v 2000) (.v 64)), true)],
    [.e (.o2 .beq (.fn 1004 (.v 2000)) (.fn 1004 (.o2 .add (.v 2000) (.il 1)))), .e (.o2 .ieq (.fn 1005 (.v 2000)) (.fn 1005 (.o2 .add (.v 2000) (.il 1)))), .e (.o2 .beq (.fn 1004 (.v 2000)) (.fn 1004 (.o2 .add (.v 2000) (.il 1)))), .e (.o2 .ieq (.fn 1006 (.v 2000)) (.fn 1006 (.o2 .add (.v 2000) (.il 1)))), .e (.o2 .ieq (.fn 1001 (.v 2000)) (.fn 1001 (.o2 .add (.v 2000) (.il 1)))), .e (.o2 .beq (.bl false) (.fn 1000 (.v 2000)))]),
   ([((.o2 .le (.o2 .sub (.fn 1001 (.v 2000)) (.fn 1005 (.v 2000))) (.v 0)), true), ((.fn 1004 (.v 2000)), true), ((.o2 .le (.v 0) (.il 0)), false), ((.o2 .ieq (.fn 64 (.v 2000)) (.il 2)), true), ((.o2 .ieq (.fn 64 (.v 2000)) (.il 1)), false), ((.o2 .lt (.v 2000) (.v 64)), true)],
    [.e (.o2 .beq (.fn 1004 (.v 2000)) (.fn 1004 (.o2 .add (.v 2000) (.il 1)))), .e (.o2 .ieq (.fn 1005 (.v 2000)) (.fn 1005 (.o2 .add (.v 2000) (.il 1)))), .e (.o2 .beq (.fn 1004 (.v 2000)) (.fn 1004 (.o2 .add (.v 2000) (.il 1)))), .e (.o2 .ieq (.fn 1006 (.v 2000)) (.fn 1006 (.o2 .add (.v 2000) (.il 1)))), .e (.o2 .ieq (.fn 1001 (.v 2000)) (.fn 1001 (.o2 .add (.v 2000) (.il 1)))), .e (.o2 .beq (.bl true) (.fn 1000 (.v 2000)))]),
   ([((.o2 .le (.o2 .sub (.fn 1001 (.v 2000)) (.fn 1005 (.v 2000))) (.v 0)), false), ((.fn 1004 (.v 2000)), true), ((.o2 .le (.v 0) (.il 0)), false), ((.o2 .ieq (.fn 64 (.v 2000)) (.il 2)), true), ((.o2 .ieq (.fn 64 (.v 2000)) (.il 1)), false), ((.o2 .lt (.v 2000) (.v 64)), true)],
    [.e (.o2 .beq (.bl false) (.fn 1004 (.o2 .add (.v 2000) (.il 1)))), .e (.o2 .ieq (.il 0) (.fn 1005 (.o2 .add (.v 2000) (.il 1)))), .e (.o2 .beq (.bl false) (.fn 1004 (.o2 .add (.v 2000) (.il 1)))), .e (.o2 .ieq (.il 0) (.fn 1006 (.o2 .add (.v 2000) (.il 1)))), .e (.o2 .ieq (.fn 1001 (.v 2000)) (.fn 1001 (.o2 .add (.v 2000) (.il 1)))), .e (.o2 .beq (.bl false) (.fn 1000 (.v 2000)))]),
   ([((.fn 1004 (.v 2000)), false), ((.o2 .le (.v 0) (.il 0)), false), ((.o2 .ieq (.fn 64 (.v 2000)) (.il 2)), true), ((.o2 .ieq (.fn 64 (.v 2000)) (.il 1)), false), ((.o2 .lt (.v 2000) (.v 64)), true)],
    [.e (.o2 .beq (.bl false) (.fn 1004 (.o2 .add (.v 2000) (.il 1)))), .e (.o2 .ieq (.il 0) (.fn 1005 (.o2 .add (.v 2000) (.il 1)))), .e (.o2 .beq (.bl false) (.fn 1004 (.o2 .add (.v 2000) (.il 1)))), .e (.o2 .ieq (.il 0) (.fn 1006 (.o2 .add (.v 2000) (.il 1)))), .e (.o2 .ieq (.fn 1001 (.v 2000)) (.fn 1001 (.o2 .add (.v 2000) (.il 1)))), .e (.o2 .beq (.bl false) (.fn 1000 (.v 2000)))]),
   ([((.o2 .ieq (.fn 64 (.v 2000)) (.il 3)), true), ((.o2 .ieq (.fn 64 (.v 2000)) (.il 2)), false), ((.o2 .ieq (.fn 64 (.v 2000)) (.il 1)), false), ((.o2 .lt (.v 2000) (.v 64)), true)],
    [.e (.o2 .beq (.fn 1004 (.v 2000)) (.fn 1004 (.o2 .add (.v 2000) (.il 1)))), .e (.o2 .ieq (.fn 1005 (.v 2000)) (.fn 1005 (.o2 .add (.v 2000) (.il 1)))), .e (.o2 .beq (.fn 1004 (.v 2000)) (.fn 1004 (.o2 .add (.v 2000) (.il 1)))), .e (.o2 .ieq (.fn 1006 (.v 2000)) (.fn 1006 (.o2 .add (.v 2000) (.il 1)))), .e (.o2 .ieq (.o2 .add (.fn 1001 (.v 2000)) (.o2 .mx (.il 0) (.o2 .mn (.fn 65 (.v 2000)) (.il 1125899906842624)))) (.fn 1001 (.o2 .add (.v 2000) (.il 1)))), .e (.o2 .beq (.bl false) (.fn 1000 (.v 2000)))]),
   ([((.o2 .ieq (.fn 64 (.v 2000)) (.il 3)), false), ((.o2 .ieq (.fn 64 (.v 2000)) (.il 2)), false), ((.o2 .ieq (.fn 64 (.v 2000)) (.il 1)), false), ((.o2 .lt (.v 2000) (.v 64)), true)],
    [.e (.o2 .beq (.fn 1004 (.v 2000)) (.fn 1004 (.o2 .add (.v 2000) (.il 1)))), .e (.o2 .ieq (.fn 1005 (.v 2000)) (.fn 1005 (.o2 .add (.v 2000) (.il 1)))), .e (.o2 .beq (.fn 1004 (.v 2000)) (.fn 1004 (.o2 .add (.v 2000) (.il 1)))), .e (.o2 .ieq (.fn 1006 (.v 2000)) (.fn 1006 (.o2 .add (.v 2000) (.il 1)))), .e (.o2 .ieq (.fn 1001 (.v 2000)) (.fn 1001 (.o2 .add (.v 2000) (.il 1)))), .e (.o2 .beq (.bl false) (.fn 1000 (.v 2000)))]),
   ([((.o2 .lt (.v 2000) (.v 64)), false)],
    [.e (.o2 .ieq (.v 2000) (.v 64)), .e (.o2 .ieq (.v 64) (.v 2000))])]

def cm0 : List (Facts × List Ob) :=
  [([],
    [])]

def cm1 : List (Facts × List Ob) :=
  [([((.o2 .lt (.v 2000) (.v 64)), true)],
    []),
   ([((.o2 .lt (.v 2000) (.v 64)), false)],
    [])]


def St.fi (s : St) : Int := cond s.any s.first 0
def St.la (s : St) : Int := cond s.any s.last 0
def badAt (K N : Nat → Int) (j : Nat) : Bool := !decide (okOp (K j) (N j))
/-- The environment of the law. -/
structure Is (o : Env) (most reset : Int) (K N : Nat → Int) (n : Nat) : Prop where
  v0 : o.v 0 = .i most
  v32 : o.v 32 = .i reset
  v64 : o.v 64 = .i n
  v2000 : o.v 2000 = .i 0
  v3000 : o.v 3000 = .b (decide (stop (badAt K N) n < n))
  v3001 : o.v 3001 = .i (stop (badAt K N) n)
  f64 : ∀ j : Nat, (o.fn 64 j).I = K j
  f65 : ∀ j : Nat, (o.fn 65 j).I = N j
  f1000 : ∀ j : Nat, o.fn 1000 j = .b (ans most reset K N j)
  f1001 : ∀ j : Nat, o.fn 1001 j = .i (stAt most reset K N j).now
  f1002 : ∀ j : Nat, o.fn 1002 j = .i (stAt most reset K N j).first
  f1003 : ∀ j : Nat, o.fn 1003 j = .i (stAt most reset K N j).last
  f1004 : ∀ j : Nat, o.fn 1004 j = .b (stAt most reset K N j).any
  f1005 : ∀ j : Nat, o.fn 1005 j = .i (stAt most reset K N j).fi
  f1006 : ∀ j : Nat, o.fn 1006 j = .i (stAt most reset K N j).la

theorem gr : gd.r = 2000 := rfl
theorem sr : sp.r = 2000 := rfl
theorem ir : im.r = 2000 := rfl
theorem cr : cm.r = 2000 := rfl
theorem succ_cast (i : Nat) : (i : Int) + 1 = ((i + 1 : Nat) : Int) := by omega

section
variable {o : Env} {most reset : Int} {K N : Nat → Int} {n i : Nat} {u : Nat → Value}

theorem not_ok {k n : Int} (h : ¬ okOp k n) : k < 1 ∨ 3 < k ∨ (k = 3 ∧ (n < 0 ∨ 1099511627776 < n)) ∨ (k = 1 ∧ n ≠ 0 ∧ n ≠ 12 ∧ n ≠ 98) := by
  unfold okOp at h
  by_cases h1 : 1 ≤ k
  · by_cases h2 : k ≤ 3
    · by_cases h3 : k = 3
      · by_cases h4 : n < 0 ∨ 1099511627776 < n
        · exact .inr (.inr (.inl ⟨h3, h4⟩))
        · exact absurd ⟨h1, h2, fun _ => by omega, fun _ => by omega⟩ h
      · by_cases h4 : k = 1
        · by_cases h5 : n = 0 ∨ n = 12 ∨ n = 98
          · exact absurd ⟨h1, h2, fun _ => by omega, fun _ => h5⟩ h
          · exact .inr (.inr (.inr ⟨h4, by omega, by omega, by omega⟩))
        · exact absurd ⟨h1, h2, fun _ => by omega, fun _ => by omega⟩ h
    · exact .inr (.inl (by omega))
  · exact .inl (by omega)
theorem gd_all (H : Is o most reset K N n) (hi : i ≤ stop (badAt K N) n) : AllL (gd.env o u i) gd0 := by
  have h1 := stop_le (bad := badAt K N) (n := n)
  have h2 : stop (badAt K N) n < n → okOp (K (stop (badAt K N) n)) (N (stop (badAt K N) n)) → False := fun h k => by
    have : (!decide (okOp (K (stop (badAt K N) n)) (N (stop (badAt K N) n)))) = true := stop_at h
    simp [k] at this
  have h3 : i < stop (badAt K N) n → okOp (K i) (N i) := fun h => by
    have : (!decide (okOp (K i) (N i))) = false := stop_before h
    simpa using this
  have h4 : i = stop (badAt K N) n → i < n → K i < 1 ∨ 3 < K i ∨ (K i = 3 ∧ (N i < 0 ∨ 1099511627776 < N i)) ∨ (K i = 1 ∧ N i ≠ 0 ∧ N i ≠ 12 ∧ N i ≠ 98) := fun e h => by subst e; exact not_ok (h2 h)
  have h5 : i < stop (badAt K N) n → 1 ≤ K i ∧ K i ≤ 3 ∧ (K i ≠ 3 ∨ (0 ≤ N i ∧ N i ≤ 1099511627776)) ∧ (K i ≠ 1 ∨ N i = 0 ∨ N i = 12 ∨ N i = 98) := fun h => by
    obtain ⟨a, b, c, d⟩ := h3 h
    exact ⟨a, b, (by by_cases e : K i = 3; exact .inr (c e); exact .inl e), (by by_cases e : K i = 1; exact .inr (d e); exact .inl e)⟩
  clear h2 h3
  unfold gd0
  simp only [allL_cons, allL_nil, and_true]
  and_intros
  all_goals intro h
  all_goals simp only [hold_cons_iff, hold_nil_iff, allT_cons, allT_nil, ob_e, dB_lt, dB_le, dB_ieq, dB_not, dI_il, d_v, d_fn, LoopY.env, gr, if_true, if_false, Nat.reduceEqDiff, I_i, B_b, H.v64, H.v3000, H.v3001, H.f64, H.f65, decide_eq_true_eq, decide_eq_false_iff_not, and_true, Bool.not_eq_true'] at h ⊢
  all_goals generalize stop (badAt K N) n = m at *
  all_goals omega

theorem st_succ (i : Nat) : stAt most reset K N (i + 1) = (step most reset (stAt most reset K N i) (K i) (N i)).1 := rfl

theorem sp_all (H : Is o most reset K N n) (hi : i ≤ n) (hn80 : n ≤ 80) (hok : ∀ j, j < n → okOp (K j) (N j)) (μ : Nat) (hμ : μ = 0 ↔ i = 0) : AllL (sp.env o u i) (match μ with | 0 => sp0 | _ => sp1) := by
  have hs := small (most := most) (reset := reset) (K := K) (N := N) i (fun j hj => hok j (by omega))
  have hoi : i < n → okOp (K i) (N i) := fun h => hok i h
  have f0 : o.fn 1000 0 = .b (ans most reset K N 0) := H.f1000 0
  have hN : i < n → K i = 3 → 0 ≤ N i ∧ N i ≤ 1099511627776 := fun h e => (hoi h).2.2.1 e
  clear hoi hok
  rcases μ with _ | μ
  all_goals simp only [sp0, sp1, allL_cons, allL_nil, and_true]
  all_goals and_intros
  all_goals intro h
  all_goals simp only [hold_cons_iff, hold_nil_iff, allT_cons, allT_nil, ob_e, dB_lt, dB_le, dB_ieq, dB_beq, dB_bl, dB_not, dI_il, dI_add, dI_sub, d_v, d_fn, LoopY.env, sr, if_true, if_false, Nat.reduceEqDiff, I_i, B_b, H.v0, H.v32, H.v64, H.f64, H.f65, f0, H.f1000, H.f1001, H.f1002, H.f1003, H.f1004, succ_cast, decide_eq_true_eq, decide_eq_false_iff_not, and_true, beq_iff_eq, st_succ, ans, Bool.not_eq_true'] at h ⊢
  all_goals first | (have hi0 : i = 0 := hμ.1 rfl; subst hi0; clear hμ) | (have hi0 : i ≠ 0 := fun e => absurd (hμ.2 e) (by omega); clear hμ)
  all_goals generalize stAt most reset K N _ = s at *
  all_goals obtain ⟨snow, sfirst, slast, sany⟩ := s
  all_goals generalize K _ = k at *
  all_goals generalize N _ = m at *
  all_goals simp only at h hs
  all_goals first
    | omega
    | (simp [step, h]; done)
    | (have := hN (by omega) (by omega); simp [step, h]; omega)
    | (simp [step, h]; omega)

theorem im_all (H : Is o most reset K N n) (hi : i ≤ n) (hn80 : n ≤ 80) (hok : ∀ j, j < n → okOp (K j) (N j)) (μ : Nat) (hμ : μ = 0 ↔ i = 0) : AllL (im.env o u i) (match μ with | 0 => im0 | _ => im1) := by
  have hs := small (most := most) (reset := reset) (K := K) (N := N) i (fun j hj => hok j (by omega))
  have hoi : i < n → okOp (K i) (N i) := fun h => hok i h
  have f0 : o.fn 1000 0 = .b (ans most reset K N 0) := H.f1000 0
  have hN : i < n → K i = 3 → 0 ≤ N i ∧ N i ≤ 1099511627776 := fun h e => (hoi h).2.2.1 e
  have hN1 : i < n → 1 ≤ K i ∧ K i ≤ 3 := fun h => ⟨(hoi h).1, (hoi h).2.1⟩
  clear hoi hok
  rcases μ with _ | μ
  all_goals simp only [im0, im1, allL_cons, allL_nil, and_true]
  all_goals and_intros
  all_goals intro h
  all_goals simp only [hold_cons_iff, hold_nil_iff, allT_cons, allT_nil, ob_e, dB_lt, dB_le, dB_ieq, dB_beq, dB_bl, dB_not, dI_il, dI_add, dI_sub, dI_mn, dI_mx, d_v, d_fn, LoopY.env, ir, if_true, if_false, Nat.reduceEqDiff, I_i, B_b, H.v0, H.v32, H.v64, H.f64, H.f65, f0, H.f1000, H.f1001, H.f1002, H.f1003, H.f1004, H.f1005, H.f1006, succ_cast, decide_eq_true_eq, decide_eq_false_iff_not, and_true, beq_iff_eq, st_succ, ans, Bool.not_eq_true'] at h ⊢
  all_goals first | (have hi0 : i = 0 := hμ.1 rfl; subst hi0; clear hμ) | (have hi0 : i ≠ 0 := fun e => absurd (hμ.2 e) (by omega); clear hμ)
  all_goals generalize stAt most reset K N _ = s at *
  all_goals obtain ⟨snow, sfirst, slast, sany⟩ := s
  all_goals generalize K _ = k at *
  all_goals generalize N _ = m at *
  all_goals simp only at h hs
  all_goals cases sany
  all_goals first
    | omega
    | (simp [St.fi, St.la] at h; done)
    | (simp [step, St.fi, St.la, h]; done)
    | (simp [St.fi, St.la] at h; have := hN (by omega) (by omega); simp [step, St.fi, St.la, h]; (try split) <;> omega)
    | (simp [St.fi, St.la] at h; simp [step, St.fi, St.la, h]; done)
    | (simp [St.fi, St.la] at h; simp [step, St.fi, St.la, h]; omega)
    | (simp [St.fi, St.la] at h; simp [step, St.fi, St.la, h]; (try split) <;> omega)
    | (by_cases hm : 0 < most <;> by_cases hd : snow - sfirst ≤ most <;> by_cases hr : reset ≤ snow - slast <;> first | omega | (simp [step, St.fi, St.la, hm, hd, hr] at h ⊢; done) | (simp [step, St.fi, St.la, hm, hd, hr, h]; done) | (simp [step, St.fi, St.la, hm, hd, hr, h]; omega) | (simp [step, St.fi, St.la, hm, hd, hr] at h ⊢; omega))
end
end Go.Proofs.Ytagpchabkplggaa.sxRetry
