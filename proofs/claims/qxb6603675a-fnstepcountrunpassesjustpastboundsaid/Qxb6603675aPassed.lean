import Derived.Test.Qxb6603675aRows
import Derived.WalkKit
import Derived.ProofKit
import Derived.OpenShut
import Derived.ShutString
import Derived.Deep.QuietTactic
import Derived.BigQuiet
namespace Go.Proofs.Qxb6603675a.Passed
open Go.ChangeShapes Go.WideShapes Go.ChangeAt Go.RowKit

theorem grown_drewN {W w' : World} (h : Grown W w') (q : Nat) : Grown W (w'.drewN q) := h

theorem grown_trans {a b c : World} (h1 : Grown a b) (h2 : Grown b c) : Grown a c :=
  ⟨World.keptBut_trans h1.1 h2.1, fun x => (h2.2.1 x).trans (h1.2.1 x), Nat.le_trans h1.2.2 h2.2.2⟩

set_option maxHeartbeats 400000 in
/-- 'zzPassed(n, bound)' answers 'bound < n', whatever the memory; it lays one new block. -/
theorem zzpassed (n b : Int) (w : World) :
    Calls Try.prog 5 #[.int .i64 n, .int .i64 b] w fun e w' => e = .returned (.bool (decide (b < n))) ∧ Grown w w' := by
  go_enter Try.func5, Try.ntmps5
  go_wp2
  go_quiet (fail)
  go_wp2
  go_ret
  exact ⟨rfl, grown_drewN ((Grown.refl _).alloc _ _) _⟩

theorem zz_yes (n b : Int) (h : b < n) (w : World) :
    Calls Try.prog 5 #[.int .i64 n, .int .i64 b] w fun e w' => e = .returned (.bool true) ∧ Grown w w' := by
  have c := zzpassed n b w
  rw [decide_eq_true h] at c
  exact c

theorem zz_no (n b : Int) (h : n ≤ b) (w : World) :
    Calls Try.prog 5 #[.int .i64 n, .int .i64 b] w fun e w' => e = .returned (.bool false) ∧ Grown w w' := by
  have c := zzpassed n b w
  rw [decide_eq_false (by omega)] at c
  exact c
end Go.Proofs.Qxb6603675a.Passed
