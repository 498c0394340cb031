import Derived.Test.Qxb6604398aRows
import Derived.WalkKit
import Derived.ProofKit
import Derived.OpenShut
import Derived.ShutString
import Derived.Deep.QuietTactic
import Derived.BigQuiet
import Derived.Handy
import Derived.LaidEqlPtr
namespace Go.Proofs.Qxb6604398a.Args
open Go.ChangeShapes Go.WideShapes Go.ChangeAt Go.RowKit

theorem grown_drewN {W w' : World} (h : Grown W w') (q : Nat) : Grown W (w'.drewN q) := h

theorem grown_trans {a b c : World} (h1 : Grown a b) (h2 : Grown b c) : Grown a c :=
  ⟨World.keptBut_trans h1.1 h2.1, fun x => (h2.2.1 x).trans (h1.2.1 x), Nat.le_trans h1.2.2 h2.2.2⟩

/-! ### Two pointers held against each other -/
theorem size2 : (Try.prog.info? 2).map (·.size) = some 1 := by kernel_rfl
theorem size3 : (Try.prog.info? 3).map (·.size) = some 1 := by kernel_rfl

theorem neq_other {P : Program} (w : World) {tp te : TypeId} {j : TypeInfo} {a b : Addr} {ca cb : Array Value} {ta tb : TypeId} (hp : P.underlying tp = some (.pointer te)) (hte : P.info? te = some j) (hsz : j.size ≠ 0)
    (hne : a ≠ b) (ha : w.heap[a.block]? = some (.cells ca ta (0, 0))) (hb : w.heap[b.block]? = some (.cells cb tb (0, 0))) :
    (binOp .neq tp (.pointer (some a)) (.pointer (some b))).run P w = .ok (.bool true) w := by
  have h : ∀ d : Nat, (Op.equalIn (d + 1) tp (.pointer (some a)) (.pointer (some b))).run P w = .ok false w := fun d => by
    simp [Op.equalIn, run_underlying hp, sizeOf, typeInfo, hte, hsz, run_sameAddr_other w hne ha hb]
  simp only [binOp]
  simp [Op.equal, Op.maxDepth, h 9999]

/-- 'm' is 'd' in thousands, cut toward zero. -/
def Cut (d m : Int) : Prop := (0 ≤ d → 0 ≤ m ∧ 1000 * m ≤ d ∧ d < 1000 * m + 1000) ∧ (d ≤ 0 → m ≤ 0 ∧ d ≤ 1000 * m ∧ 1000 * m - 1000 < d)

theorem cut_tdiv (d : Int) : Cut d (d.tdiv 1000) := by
  constructor
  · intro h; rw [Int.tdiv_eq_ediv_of_nonneg h]; omega
  · intro h
    have e : d.tdiv 1000 = - ((-d).tdiv 1000) := by rw [Int.neg_tdiv]; omega
    rw [e, Int.tdiv_eq_ediv_of_nonneg (by omega)]; omega

theorem wrap_cut (d : Int) (h : -9223372036854775808 ≤ d ∧ d ≤ 9223372036854775807) : wrap64 (d.tdiv 1000) = d.tdiv 1000 := by
  have c := cut_tdiv d
  unfold Cut at c
  generalize d.tdiv 1000 = m at c
  unfold wrap64
  omega

set_option maxHeartbeats 400000 in
/-- '(schedule).args' with a wait: the same two pointers, and a fresh cell that holds the wait in thousands, cut toward zero. -/
theorem args_some (p t : Option Addr) (k : Nat) (d : Int) (w : World) (hk : k < w.heap.size) (h : w.cell? ⟨k, 0, .none⟩ = some (.int .i64 d)) (hd : -9223372036854775808 ≤ d ∧ d ≤ 9223372036854775807) :
    Calls Try.prog 16 #[.agg #[.pointer p, .pointer t, .pointer (some ⟨k, 0, .none⟩)]] w fun e w' => ∃ m, e = .returned (.tuple #[.pointer p, .pointer t, .pointer (some ⟨w.heap.size + 1, 0, .none⟩)]) ∧ Cut d m ∧ Grown w w' ∧ w'.heap[w.heap.size + 1]? = some (.cells #[.int .i64 m] 2) ∧ (∀ b, b < w.heap.size → w'.heap[b]? = w.heap[b]?) := by
  have hw := wrap_cut d hd
  have hc := cut_tdiv d
  have H : Hid (wrap64 (d.tdiv 1000) = d.tdiv 1000) := hw
  clear hw
  go_enter Try.func16, Try.ntmps16
  go_wp2
  go_quiet (fail)
  go_wp2
  go_ret3
  refine ⟨d.tdiv 1000, rfl, hc, grown_drewN (((Grown.refl _).alloc _ _).alloc _ _) _, ?_, ?_⟩
  · rw [← H.out]
    have e := (MapKept.heap_alloc (w.alloc (.cells #[.pointer p, .pointer t, .pointer (some ⟨k, 0, .none⟩)] 40)) (.cells #[.int .i64 (wrap64 (d.tdiv 1000))] 2)).1
    simpa using e
  · intro b hb
    exact Below.block (B := w.heap.size) (((((Below.refl _ _).alloc (Nat.le_refl _) _).alloc (by simp) _)) : Below w.heap.size w _) b hb

set_option maxHeartbeats 400000 in
theorem args_none (p t : Option Addr) (w : World) :
    Calls Try.prog 16 #[.agg #[.pointer p, .pointer t, .pointer .none]] w fun e w' => e = .returned (.tuple #[.pointer p, .pointer t, .pointer .none]) ∧ Grown w w' ∧ (∀ b, b < w.heap.size → w'.heap[b]? = w.heap[b]?) := by
  go_enter Try.func16, Try.ntmps16
  go_wp2
  go_quiet (fail)
  go_wp2
  go_ret3
  refine ⟨rfl, grown_drewN ((Grown.refl _).alloc _ _) _, ?_⟩
  intro b hb
  exact Below.block (B := w.heap.size) ((Below.refl _ _).alloc (Nat.le_refl _) _ : Below w.heap.size w _) b hb

set_option maxHeartbeats 400000 in
theorem zz_some (p t : Option Addr) (k : Nat) (d : Int) (w : World) (hk : k < w.heap.size) (h : w.cell? ⟨k, 0, .none⟩ = some (.int .i64 d)) (hd : -9223372036854775808 ≤ d ∧ d ≤ 9223372036854775807) :
    Calls Try.prog 14 #[.pointer p, .pointer t, .pointer (some ⟨k, 0, .none⟩)] w fun e w' => ∃ m, e = .returned (.tuple #[.pointer p, .pointer t, .pointer (some ⟨w.heap.size + 1, 0, .none⟩)]) ∧ Cut d m ∧ Grown w w' ∧ w'.heap[w.heap.size + 1]? = some (.cells #[.int .i64 m] 2) ∧ (∀ b, b < w.heap.size → w'.heap[b]? = w.heap[b]?) := by
  go_enter Try.func14, Try.ntmps14
  go_wp2_with fail
  refine (args_some p t k d w hk h hd).mono ?_
  rintro e w' ⟨m, rfl, hr⟩
  go_wp2_with fail
  go_ret3
  exact ⟨m, rfl, hr⟩

set_option maxHeartbeats 400000 in
theorem zz_none (p t : Option Addr) (w : World) :
    Calls Try.prog 14 #[.pointer p, .pointer t, .pointer .none] w fun e w' => e = .returned (.tuple #[.pointer p, .pointer t, .pointer .none]) ∧ Grown w w' ∧ (∀ b, b < w.heap.size → w'.heap[b]? = w.heap[b]?) := by
  go_enter Try.func14, Try.ntmps14
  go_wp2_with fail
  refine (args_none p t w).mono ?_
  rintro e w' ⟨rfl, hr⟩
  go_wp2_with fail
  go_ret3
  exact ⟨rfl, hr⟩
end Go.Proofs.Qxb6604398a.Args
