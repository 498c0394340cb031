import Derived.Test.Qxb6603675aDoorTxs
namespace Go.Proofs.Qxb6603675aDoor.Mem
open Go.ChangeShapes Go.WideShapes Go.ChangeAt Go.RowKit

theorem info42 : (Tryd.prog.info? 42).map (fun i => (i.zero, i.size, i.bytes)) = some (some (.agg #[.slice .none 0 0, .int .u64 0]), 2, 32) := by kernel_rfl

theorem make39 (n : Nat) (hn : n ≤ 65536) (w : World) : (Instr.makeSlice 39 (.int .i64 (n : Int)) (.int .i64 (n : Int))).run Tryd.prog w = .ok (.slice (some ⟨w.heap.size, 0, .none⟩) n n) (w.alloc (.cells (madeCells #[.slice .none 0 0, .int .u64 0] (n * 2)) 42)) := by
  obtain ⟨i, hi, hzz⟩ := Option.map_eq_some_iff.1 info42
  simp only [Prod.mk.injEq] at hzz
  obtain ⟨hz, hs, hby⟩ := hzz
  have h := run_make (P := Tryd.prog) w 39 42 i (.agg #[.slice .none 0 0, .int .u64 0]) Tryd.underlying39 hi hz .i64 .i64 (n : Int) (n : Int) (by omega) (Int.le_refl _) (by rw [hby]; omega) (by omega)
  simp only [Int.toNat_natCast, hs] at h
  exact h

/-- The watches' cells when the first k are laid. -/
def wRow (A : Nat → Option Addr) (C : Nat → Nat) (Z : Nat → List Int) (U : Nat → Nat) (k j : Nat) : Value :=
  if j / 2 < k then (if j % 2 = 0 then .slice (A (j / 2)) (Z (j / 2)).length (C (j / 2)) else .int .u64 (U (j / 2))) else (if j % 2 = 0 then .slice .none 0 0 else .int .u64 0)

structure WMid (w wr : World) (n k : Nat) (A : Nat → Option Addr) (C : Nat → Nat) (Z : Nat → List Int) (U : Nat → Nat) : Prop where
  row : wr.rowIs w.heap.size 42 (n * 2) (wRow A C Z U k)
  below : Below w.heap.size w wr

theorem WMid.start (w : World) (n : Nat) (A : Nat → Option Addr) (C : Nat → Nat) (Z : Nat → List Int) (U : Nat → Nat) : WMid w (w.alloc (.cells (madeCells #[.slice .none 0 0, .int .u64 0] (n * 2)) 42)) n 0 A C Z U := by
  refine ⟨⟨_, (MapKept.heap_alloc w _).1, size_madeCells _ _, fun i hi => ?_⟩, (Below.refl _ _).alloc (Nat.le_refl _) _⟩
  have e : i % 2 = 0 ∨ i % 2 = 1 := by omega
  rcases e with e | e <;> simp [madeCells, hi, wRow, e]

theorem WMid.step {w wr : World} {n k : Nat} {A : Nat → Option Addr} {C : Nat → Nat} {Z : Nat → List Int} {U : Nat → Nat} (h : WMid w wr n k A C Z U) :
    WMid w ((wr.setCell ⟨w.heap.size, k * 2, .none⟩ (.slice (A k) (Z k).length (C k))).setCell ⟨w.heap.size, k * 2 + 1, .none⟩ (.int .u64 (U k))) n (k + 1) A C Z U := by
  refine ⟨((h.row.set _ _).set _ _).congr (fun j _ => ?_), (h.below.setCell (Nat.le_refl _) _).setCell (Nat.le_refl _) _⟩
  unfold wRow
  by_cases e1 : j = k * 2 + 1
  · subst e1
    rw [if_pos rfl, if_pos (by omega), if_neg (by omega), show (k * 2 + 1) / 2 = k by omega]
  · rw [if_neg e1]
    by_cases e2 : j = k * 2
    · subst e2
      rw [if_pos rfl, if_pos (by omega), if_pos (by omega), show k * 2 / 2 = k by omega]
    · rw [if_neg e2]
      by_cases e3 : j / 2 < k
      · rw [if_pos e3, if_pos (show j / 2 < k + 1 by omega)]
      · rw [if_neg e3, if_neg (show ¬ j / 2 < k + 1 by omega)]

theorem WMid.rd {w wr : World} {n : Nat} {A : Nat → Option Addr} {C : Nat → Nat} {Z : Nat → List Int} {U : Nat → Nat} (h : WMid w wr n n A C Z U) (hr : ∀ i, i < n → RdB w (A i) (Z i)) : RdW wr (some ⟨w.heap.size, 0, .none⟩) n A C Z U := by
  refine ⟨fun _ => ⟨_, 0, rfl, fun i hi => ⟨?_, ?_⟩⟩, fun i hi => (hr i hi).below h.below⟩
  · rw [Nat.zero_add, h.row.cell (i := i * 2) (by omega)]
    unfold wRow
    rw [if_pos (by omega), if_pos (by omega), show i * 2 / 2 = i by omega]
  · rw [Nat.zero_add, h.row.cell (i := i * 2 + 1) (by omega)]
    unfold wRow
    rw [if_pos (by omega), if_neg (by omega), show (i * 2 + 1) / 2 = i by omega]

/-- 'v' is the transaction's strings. -/
def OutT (w w' : World) (n : Nat) (Z : Nat → List Int) (U : Nat → Nat) (v : Value) : Prop :=
  ∃ g c A' C', v = .slice (some ⟨g, 0, .none⟩) (2 + 2 * n) c ∧ RdAll w' (some ⟨g, 0, .none⟩) (2 + 2 * n) A' C' (outZ n Z U) ∧ Below w.heap.size w w'

theorem OutT.of {w w' : World} {n : Nat} {Z : Nat → List Int} {U : Nat → Nat} {v : Value} (h : SMid w w' n (outZ n Z U) v) : OutT w w' n Z U v := by
  obtain ⟨xs, A', C', ⟨hlen, ⟨_, h0⟩ | ⟨g, c, cur, rfl, hg, hrow, hle, hmx, hcur, htake⟩⟩, hget, hrd, hb⟩ := h
  · omega
  refine ⟨g, c, A', C', rfl, ⟨fun _ => ⟨g, 0, rfl, fun i hi => ?_⟩, fun i hi => (hrd i hi).rdB⟩, hb⟩
  have e := hget i hi
  rw [← htake, List.getElem?_take_of_lt (by omega)] at e
  rw [Nat.zero_add]
  simp only [World.cell?, hrow]
  simpa using e

theorem OutT.mono {w0 w w' : World} {n : Nat} {Z : Nat → List Int} {U : Nat → Nat} {v : Value} (h : OutT w w' n Z U v) (hb : Below w0.heap.size w0 w) : OutT w0 w' n Z U v := by
  obtain ⟨g, c, A', C', h1, h2, h3⟩ := h
  exact ⟨g, c, A', C', h1, h2, hb.trans (h3.mono hb.size)⟩

set_option maxHeartbeats 1000000 in
theorem strings9 (k : Nat) (V : Option Addr) (n Cv : Nat) (A : Nat → Option Addr) (C : Nat → Nat) (Z : Nat → List Int) (U : Nat → Nat) (w : World) (ht : TxAt w k V n Cv) (hr : RdW w V n A C Z U) (htab : Tab w) (hn : n ≤ 65536) (hU : ∀ i, i < n → U i < 18446744073709551616) :
    Calls Tryd.prog 9 #[txCmd k] w fun e w' => ∃ v, e = .returned v ∧ OutT w w' n Z U v := by
  have hb : Below w.heap.size w ((w.alloc (.cells #[.pointer .none, .slice .none 0 0, .pointer (some ⟨k, 0, .none⟩), .pointer .none, .slice .none 0 0] 31)).alloc (.cells #[.pointer .none, .slice .none 0 0, .pointer (some ⟨k, 0, .none⟩), .pointer .none, .slice .none 0 0] 31)) := ((Below.refl _ _).alloc (Nat.le_refl _) _).alloc (by simp) _
  have HC := hid (txStrings k V n Cv A C Z U _ (ht.below hb) (hr.below hb) (htab.below hb) hn hU)
  have HB := hid hb
  clear ht hr htab hU hb
  unfold txCmd
  go_enter Tryd.func9, Tryd.ntmps9
  go_wp2_with fail
  go_enter Tryd.func19, Tryd.ntmps19
  go_wp2_with fail
  refine HC.out.mono ?_
  rintro e w' ⟨v, rfl, ho⟩
  have hO := (OutT.of ho).mono HB.out
  clear HC ho
  go_wp2_with fail
  go_ret
  exact ⟨_, rfl, hO⟩

set_option maxHeartbeats 400000 in
theorem count11 (k : Nat) (V : Option Addr) (n Cv : Nat) (w : World) (ht : TxAt w k V n Cv) :
    Calls Tryd.prog 11 #[txCmd k] w fun e w' => e = .returned (.int .i64 (2 + 2 * (n : Int))) ∧ Below w.heap.size w w' := by
  have c3 := ht.c3
  have hk : k < w.heap.size := World.block_lt_of_cell? _ _ c3
  clear ht
  unfold txCmd
  go_enter Tryd.func11, Tryd.ntmps11
  go_wp2
  go_ret
  exact ⟨rfl, ((Below.refl _ _).alloc (Nat.le_refl _) _).alloc (by simp) _⟩
end Go.Proofs.Qxb6603675aDoor.Mem
