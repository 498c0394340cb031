import Derived.Test.Qxb6604458aRows
import Derived.WalkKit
import Derived.ProofKit
import Derived.OpenShut
import Derived.ShutString
import Derived.Deep.QuietTactic
import Derived.BigQuiet
import Derived.Handy
namespace Go.Proofs.Qxb6604458a.Spent
open Go.ChangeShapes Go.WideShapes Go.ChangeAt Go.RowKit

theorem grown_trans {a b c : World} (h1 : Grown a b) (h2 : Grown b c) : Grown a c :=
  ⟨World.keptBut_trans h1.1 h2.1, fun x => (h2.2.1 x).trans (h1.2.1 x), Nat.le_trans h1.2.2 h2.2.2⟩

/-- A hierarchy of the shim's make lies in block 'k + 1', its allowance of 's' steps with 'l' left in block 'k'. -/
structure Bnd (w : World) (k : Nat) (s l : Int) : Prop where
  ptr : w.cell? ⟨k + 1, 10, .none⟩ = some (.pointer (some ⟨k, 0, .none⟩))
  steps : w.cell? ⟨k, 0, .none⟩ = some (.int .i64 s)
  left : w.cell? ⟨k, 1, .none⟩ = some (.int .i64 l)
  free : w.frozen? ⟨k, 1, .none⟩ = false

theorem Bnd.set {w : World} {k : Nat} {s l : Int} (h : Bnd w k s l) (l' : Int) : Bnd (w.setCell ⟨k, 1, .none⟩ (.int .i64 l')) k s l' :=
  ⟨(World.cell?_setCell_other _ _ _ _ (by simp)).trans h.ptr, (World.cell?_setCell_other _ _ _ _ (by simp)).trans h.steps, World.cell?_setCell_same _ _ _ h.left, (World.frozen?_setCell _ _ _ _).trans h.free⟩

theorem Bnd.other {w : World} {k j : Nat} {s l : Int} (h : Bnd w k s l) (hj : k + 1 < j) (v : Value) : Bnd (w.setCell ⟨j, 1, .none⟩ v) k s l :=
  ⟨(World.cell?_setCell_other _ _ _ _ (by simp)).trans h.ptr, (World.cell?_setCell_other _ _ _ _ (by simp)).trans h.steps, (World.cell?_setCell_other _ _ _ _ (by intro e; have := congrArg Addr.block e; simp at this; omega)).trans h.left, (World.frozen?_setCell _ _ _ _).trans h.free⟩

theorem Bnd.below {w w' : World} {k : Nat} {s l : Int} (h : Bnd w k s l) (hb : Below w.heap.size w w') : Bnd w' k s l := by
  have a := World.block_lt_of_cell? _ _ h.ptr
  have b := World.block_lt_of_cell? _ _ h.steps
  exact ⟨(hb.cell (p := ⟨k + 1, 10, .none⟩) a).trans h.ptr, (hb.cell (p := ⟨k, 0, .none⟩) b).trans h.steps, (hb.cell (p := ⟨k, 1, .none⟩) b).trans h.left, (hb.frozen (p := ⟨k, 1, .none⟩) b).trans h.free⟩

set_option maxHeartbeats 400000 in
theorem newH (s l : Int) (w : World) :
    Calls Try.prog 19 #[.int .i64 s, .int .i64 l] w fun e w' => e = .returned (.pointer (some ⟨w.heap.size + 1, 0, .none⟩)) ∧ Bnd w' w.heap.size s l ∧ Below w.heap.size w w' ∧ Grown w w' := by
  go_enter Try.func19, Try.ntmps19
  go_wp2
  go_ret
  refine ⟨rfl, ⟨?_, ?_, ?_, ?_⟩, ((Below.refl _ _).alloc (Nat.le_refl _) _).alloc (by simp) _, ((Grown.refl _).alloc _ _).alloc _ _⟩
  · simp [go_sem]
  · simp [go_sem]
  · simp [go_sem]
  · simp [go_sem]

set_option maxHeartbeats 400000 in
theorem spend (k : Nat) (s l x : Int) (w : World) (hb : Bnd w k s l) (h0 : 0 ≤ l - x) (h1 : l - x ≤ 9223372036854775807) :
    Calls Try.prog 28 #[.pointer (some ⟨k + 1, 0, .none⟩), .int .i64 x] w fun e w' => e = .returned (.tuple #[]) ∧ w' = w.setCell ⟨k, 1, .none⟩ (.int .i64 (l - x)) := by
  obtain ⟨c1, c2, c3, c4⟩ := hb
  go_enter Try.func28, Try.ntmps28
  go_wp2
  go_returns
  exact ⟨rfl, rfl⟩

set_option maxHeartbeats 400000 in
theorem zzspent (k : Nat) (s l x : Int) (f : Bool) (w : World) (hb : Bnd w k s l) (h0 : 0 ≤ l - x) (h1 : l - x ≤ 9223372036854775807) :
    Calls Try.prog 20 #[.pointer (some ⟨k + 1, 0, .none⟩), .bool f, .int .i64 x, .bool true] w fun e w' => e = .returned (.bool f) ∧ w' = w.setCell ⟨k, 1, .none⟩ (.int .i64 (l - x)) := by
  go_enter Try.func20, Try.ntmps20
  go_wp2_with fail
  go_enter Try.func26, Try.ntmps26
  go_wp2_with fail
  refine (spend k s l x _ hb h0 h1).mono ?_
  rintro e w' ⟨rfl, rfl⟩
  go_wp2_with fail
  go_ret
  exact ⟨rfl, rfl⟩

set_option maxHeartbeats 400000 in
theorem left (k : Nat) (s l : Int) (w : World) (hb : Bnd w k s l) :
    Calls Try.prog 21 #[.pointer (some ⟨k + 1, 0, .none⟩)] w fun e w' => e = .returned (.int .i64 l) ∧ w' = w := by
  obtain ⟨c1, c2, c3, c4⟩ := hb
  go_enter Try.func21, Try.ntmps21
  go_wp2
  go_ret
  exact ⟨rfl, rfl⟩

set_option maxHeartbeats 400000 in
theorem steps (k : Nat) (s l : Int) (w : World) (hb : Bnd w k s l) :
    Calls Try.prog 22 #[.pointer (some ⟨k + 1, 0, .none⟩)] w fun e w' => e = .returned (.int .i64 s) ∧ w' = w := by
  obtain ⟨c1, c2, c3, c4⟩ := hb
  go_enter Try.func22, Try.ntmps22
  go_wp2
  go_ret
  exact ⟨rfl, rfl⟩
end Go.Proofs.Qxb6604458a.Spent
