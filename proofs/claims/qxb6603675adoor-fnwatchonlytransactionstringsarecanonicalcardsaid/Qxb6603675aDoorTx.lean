import Derived.Test.Qxb6603675aDoorWords
import Derived.Test.Qxb6603675aDoorPlain
import Derived.Deep.RegionHeld
namespace Go.Proofs.Qxb6603675aDoor.Mem
open Go.ChangeShapes Go.WideShapes Go.ChangeAt Go.RowKit

/-- 'n' watches lie at 'V': number i: the key at 'A i' with capacity 'C i', reading 'Z i'; the index 'U i'. -/
def RdW (w : World) (V : Option Addr) (n : Nat) (A : Nat → Option Addr) (C : Nat → Nat) (Z : Nat → List Int) (U : Nat → Nat) : Prop :=
  (0 < n → ∃ b o, V = some ⟨b, o, .none⟩ ∧ ∀ i, i < n → w.cell? ⟨b, o + i * 2, .none⟩ = some (.slice (A i) (Z i).length (C i)) ∧ w.cell? ⟨b, o + i * 2 + 1, .none⟩ = some (.int .u64 (U i))) ∧ ∀ i, i < n → RdB w (A i) (Z i)

theorem RdW.below {w w' : World} {V : Option Addr} {n : Nat} {A : Nat → Option Addr} {C : Nat → Nat} {Z : Nat → List Int} {U : Nat → Nat} (h : RdW w V n A C Z U) (hb : Below w.heap.size w w') : RdW w' V n A C Z U := by
  refine ⟨fun hn => ?_, fun i hi => (h.2 i hi).below hb⟩
  obtain ⟨b, o, rfl, hc⟩ := h.1 hn
  exact ⟨b, o, rfl, fun i hi => ⟨cell_below hb (hc i hi).1, cell_below hb (hc i hi).2⟩⟩

/-- The transaction's four cells when k watches have been counted. -/
def txRow (V : Option Addr) (n Cv k : Nat) (j : Nat) : Value := if j = 0 then .slice .none 0 0 else if j = 1 then .slice V n Cv else if j = 2 then .bool false else .int .i64 (2 + 2 * (k : Int))
/-- The five cells of a command that holds nothing. -/
def cmd0 (j : Nat) : Value := if j = 1 ∨ j = 4 then .slice .none 0 0 else .pointer .none

theorem rowIs_below {w w' : World} {b t n : Nat} {f : Nat → Value} (h : w.rowIs b t n f) (hb : Below w.heap.size w w') : w'.rowIs b t n f := h.of_block (hb.block _ h.lt)

structure NT (w wr : World) (V : Option Addr) (n Cv k : Nat) : Prop where
  row1 : wr.rowIs (w.heap.size + 1) 60 4 (txRow V n Cv k)
  row0 : wr.rowIs w.heap.size 31 5 cmd0
  below : Below w.heap.size w wr

theorem NT.go {w wr w' : World} {V : Option Addr} {n Cv k : Nat} (h : NT w wr V n Cv k) (hb : Below wr.heap.size wr w') : NT w w' V n Cv k :=
  ⟨rowIs_below h.row1 hb, rowIs_below h.row0 hb, h.below.trans (hb.mono h.below.size)⟩

theorem NT.count {w wr : World} {V : Option Addr} {n Cv k : Nat} (h : NT w wr V n Cv k) (x : Int) (hx : x = 2 + 2 * ((k + 1 : Nat) : Int)) : NT w (wr.setCell ⟨w.heap.size + 1, 3, .none⟩ (.int .i64 x)) V n Cv (k + 1) := by
  refine ⟨(h.row1.set 3 _).congr (fun j hj => ?_), h.row0.setOther (by simp) _, h.below.setCell (by simp) _⟩
  unfold txRow
  by_cases e : j = 3
  · subst e; simp [hx]
  · rw [if_neg e]
    have : j = 0 ∨ j = 1 ∨ j = 2 := by omega
    rcases this with rfl | rfl | rfl <;> simp

theorem keep2 {w w' : World} {a1 a2 : Addr} {v1 v2 : Value} {T : World} (h : w.cell? a1 = some v1 ∧ w.cell? a2 = some v2 ∧ Below T.heap.size T w) (hb : Below w.heap.size w w') : w'.cell? a1 = some v1 ∧ w'.cell? a2 = some v2 ∧ Below T.heap.size T w' :=
  ⟨cell_below hb h.1, cell_below hb h.2.1, h.2.2.trans (hb.mono h.2.2.size)⟩

/-- The value of a command that is the transaction in block 'k'. -/
def txCmd (k : Nat) : Value := .agg #[.pointer .none, .slice .none 0 0, .pointer (some ⟨k, 0, .none⟩), .pointer .none, .slice .none 0 0]
def txCells (k : Nat) (j : Nat) : Value := if j = 2 then .pointer (some ⟨k, 0, .none⟩) else cmd0 j

theorem txStore {wr : World} {b k : Nat} (h : wr.rowIs b 31 5 cmd0) :
    (((((wr.setCell ⟨b, 0, .none⟩ (.pointer .none)).setCell ⟨b, 1, .none⟩ (.slice .none 0 0)).setCell ⟨b, 2, .none⟩ (.pointer (some ⟨k, 0, .none⟩))).setCell ⟨b, 3, .none⟩ (.pointer .none)).setCell ⟨b, 4, .none⟩ (.slice .none 0 0)).rowIs b 31 5 (txCells k) := by
  refine (((((h.set 0 _).set 1 _).set 2 _).set 3 _).set 4 _).congr (fun j hj => ?_)
  have : j = 0 ∨ j = 1 ∨ j = 2 ∨ j = 3 ∨ j = 4 := by omega
  rcases this with rfl | rfl | rfl | rfl | rfl <;> simp [txCells, cmd0]

/-- The transaction of n watches lies in block 'k'. -/
structure TxAt (w : World) (k : Nat) (V : Option Addr) (n Cv : Nat) : Prop where
  c0 : w.cell? ⟨k, 0, .none⟩ = some (.slice .none 0 0)
  c1 : w.cell? ⟨k, 1, .none⟩ = some (.slice V n Cv)
  c3 : w.cell? ⟨k, 3, .none⟩ = some (.int .i64 (2 + 2 * (n : Int)))

theorem TxAt.below {w w' : World} {k : Nat} {V : Option Addr} {n Cv : Nat} (h : TxAt w k V n Cv) (hb : Below w.heap.size w w') : TxAt w' k V n Cv := ⟨cell_below hb h.c0, cell_below hb h.c1, cell_below hb h.c3⟩

set_option maxHeartbeats 1000000 in
theorem newTx (V : Option Addr) (n Cv : Nat) (A : Nat → Option Addr) (C : Nat → Nat) (Z : Nat → List Int) (U : Nat → Nat) (w : World) (hr : RdW w V n A C Z U) (htab : Tab w) (hn : n ≤ 65536) (hs : sumLen Z n ≤ 1048576) (hU : ∀ i, i < n → U i < 18446744073709551616) :
    Calls Tryd.prog 14 #[.slice .none 0 0, .slice V n Cv] w fun e w' => ∃ k, e = .returned (.tuple #[txCmd k, .nilIface]) ∧ TxAt w' k V n Cv ∧ Below w.heap.size w w' := by
  have HR := hid hr
  have HT := hid htab
  have HU := hid hU
  have HS := hid hs
  clear hr htab hU hs
  go_enter Tryd.func14, Tryd.ntmps14
  go_wp2_with fail
  have h0 : NT w ((w.alloc (.cells #[.pointer .none, .slice .none 0 0, .pointer .none, .pointer .none, .slice .none 0 0] 31)).alloc (.cells #[.slice .none 0 0, .slice V n Cv, .bool false, .int .i64 2] 60)) V n Cv 0 := by
    refine ⟨?_, ?_, ((Below.refl _ _).alloc (Nat.le_refl _) _).alloc (by simp) _⟩
    · have r := World.rowIs_alloc (w.alloc (.cells #[.pointer .none, .slice .none 0 0, .pointer .none, .pointer .none, .slice .none 0 0] 31)) #[.slice .none 0 0, .slice V n Cv, .bool false, .int .i64 2] 60 (txRow V n Cv 0) (by
        intro i hi
        have : i = 0 ∨ i = 1 ∨ i = 2 ∨ i = 3 := by simp at hi; omega
        rcases this with rfl | rfl | rfl | rfl <;> simp [txRow])
      simpa using r
    · have r := World.rowIs_alloc w #[.pointer .none, .slice .none 0 0, .pointer .none, .pointer .none, .slice .none 0 0] 31 cmd0 (by
        intro i hi
        have : i = 0 ∨ i = 1 ∨ i = 2 ∨ i = 3 ∨ i = 4 := by simp at hi; omega
        rcases this with rfl | rfl | rfl | rfl | rfl <;> simp [cmd0])
      exact r.alloc _
  have HN0 := hid h0
  clear h0
  generalize (w.alloc (.cells #[.pointer .none, .slice .none 0 0, .pointer .none, .pointer .none, .slice .none 0 0] 31)).alloc (.cells #[.slice .none 0 0, .slice V n Cv, .bool false, .int .i64 2] 60) = w1 at HN0 ⊢
  refine (decimalLen n (by omega) w1 (HT.out.below HN0.out.below)).mono ?_
  rintro e w2 ⟨L, rfl, hL, hb2⟩
  have HN2 := hid (HN0.out.go hb2)
  clear HN0 hb2
  go_wp2_with fail
  go_loopw [7, 23] (fun sz i wr => ∃ (k : Nat) (x : Int), k ≤ n ∧ i = .int .i64 k ∧ sz = .int .i64 x ∧ 0 ≤ x ∧ x ≤ 3000000 ∧ Hid (x ≤ 25 + 20 * k + sumLen Z k) ∧ Hid (NT w wr V n Cv k)) (fun _ i _ => n - (intOf i).toNat)
  case atStart => exact ⟨0, _, Nat.zero_le _, rfl, rfl, by omega, by omega, hid (by simp [sumLen]; omega), HN2⟩
  case round =>
    obtain ⟨k, x, hk, rfl, rfl, hx0, hx1, HX, HN⟩ := hrel
    by_cases hlt : k < n
    · obtain ⟨b, o, rfl, hc⟩ := HR.out.1 (by omega)
      obtain ⟨d1, d2⟩ := hc k hlt
      have e1 : wr.cell? ⟨b, o + k * 2, .none⟩ = some (.slice (A k) (Z k).length (C k)) := (HN.out.below.cell (p := ⟨b, o + k * 2, .none⟩) (World.block_lt_of_cell? _ _ d1)).trans d1
      have e2 : wr.cell? ⟨b, o + k * 2 + 1, .none⟩ = some (.int .u64 (U k)) := (HN.out.below.cell (p := ⟨b, o + k * 2 + 1, .none⟩) (World.block_lt_of_cell? _ _ d2)).trans d2
      have e3 : wr.cell? ⟨w.heap.size + 1, 3, .none⟩ = some (.int .i64 (2 + 2 * (k : Int))) := HN.out.row1.cell (i := 3) (by omega)
      have e4 := HN.out.row1.frozen 3
      have e5 := HN.out.row1.lt
      clear hc d1 d2
      go_wp2_with fail
      have hN3 := (HN.out.count (2 + 2 * (k : Int) + 2) (by omega)).go (w' := (wr.setCell ⟨w.heap.size + 1, 3, .none⟩ (.int .i64 (2 + 2 * (k : Int) + 2))).alloc (.cells #[.slice (A k) (Z k).length (C k), .int .u64 (U k)] 42)) ((Below.refl _ _).alloc (Nat.le_refl _) _)
      have hc0 : ((wr.setCell ⟨w.heap.size + 1, 3, .none⟩ (.int .i64 (2 + 2 * (k : Int) + 2))).alloc (.cells #[.slice (A k) (Z k).length (C k), .int .u64 (U k)] 42)).cell? ⟨wr.heap.size, 0, .none⟩ = some (.slice (A k) (Z k).length (C k)) := by simp [go_sem]
      have hc1 : ((wr.setCell ⟨w.heap.size + 1, 3, .none⟩ (.int .i64 (2 + 2 * (k : Int) + 2))).alloc (.cells #[.slice (A k) (Z k).length (C k), .int .u64 (U k)] 42)).cell? ⟨wr.heap.size, 1, .none⟩ = some (.int .u64 (U k)) := by simp [go_sem]
      have hT := HT.out.below hN3.below
      have hz : (Z k).length ≤ 1048576 := Nat.le_trans (le_sumLen Z hlt) HS.out
      have hUk := HU.out k hlt
      have hw1 : ∀ l : Nat, l ≤ 20 → IntKind.i64.wrap (((Z k).length : Int) + (l : Int)) = ((Z k).length : Int) + (l : Int) := fun l h => wrap_in _ (by omega)
      have hw2 : ∀ l : Nat, l ≤ 20 → IntKind.i64.wrap (x + (((Z k).length : Int) + (l : Int))) = x + (((Z k).length : Int) + (l : Int)) := fun l h => wrap_in _ (by omega)
      have HN3 := hid hN3
      have HTk := hid hT
      have HUk := hid hUk
      clear hN3 hT hUk e1 e2 e3 e4 e5 HN
      generalize (wr.setCell ⟨w.heap.size + 1, 3, .none⟩ (.int .i64 (2 + 2 * (k : Int) + 2))).alloc (.cells #[.slice (A k) (Z k).length (C k), .int .u64 (U k)] 42) = W3 at hc0 hc1 HN3 HTk ⊢
      generalize wr.heap.size = kb at hc0 hc1 ⊢
      have S0 : W3.cell? ⟨kb, 0, .none⟩ = some (.slice (A k) (Z k).length (C k)) ∧ W3.cell? ⟨kb, 1, .none⟩ = some (.int .u64 (U k)) ∧ Below W3.heap.size W3 W3 := ⟨hc0, hc1, Below.refl _ _⟩
      clear hc0 hc1
      go_region_held (fun w' => w'.cell? ⟨kb, 0, .none⟩ = some (.slice (A k) (Z k).length (C k)) ∧ w'.cell? ⟨kb, 1, .none⟩ = some (.int .u64 (U k)) ∧ Below W3.heap.size W3 w')
        (first | exact keep2 S0 (Below.refl _ _).drew | exact keep2 (by assumption) (by assumption))
        ((go_at_call 21; refine (decimalLen (U k) HUk.out _ (HTk.out.below (by exact And.right (And.right (by assumption))))).mono ?_; rintro e w' ⟨L2, rfl, hL2, hb⟩))
      rename_i hH
      have HN4 := hid (HN3.out.go hH.2.2)
      have HX2 : Hid (x + (((Z k).length : Int) + (L2 : Int)) ≤ 25 + 20 * ((k + 1 : Nat) : Int) + (sumLen Z (k + 1) : Int)) := by
        have := HX.out
        show x + (((Z k).length : Int) + (L2 : Int)) ≤ 25 + 20 * ((k + 1 : Nat) : Int) + (sumLen Z (k + 1) : Int)
        rw [sumLen_succ]; omega
      have hx3 : x + (((Z k).length : Int) + (L2 : Int)) ≤ 3000000 := by
        have h1 := HX2.out
        have h2 := HS.out
        have h3 := sumLen_mono Z (j := k + 1) (k := n) hlt
        omega
      clear hH hb S0 HN3 HX
      go_wp2_with fail
      go_roundw
      case rel => exact ⟨k + 1, _, by omega, by go_num, rfl, by omega, hx3, HX2, HN4⟩
      case measure => simp [intOf]; omega
    · have hkn : k = n := by omega
      subst hkn
      have e3 : wr.cell? ⟨w.heap.size + 1, 3, .none⟩ = some (.int .i64 (2 + 2 * (k : Int))) := HN.out.row1.cell (i := 3) (by omega)
      have c0 : wr.cell? ⟨w.heap.size, 0, .none⟩ = some (.pointer .none) := HN.out.row0.cell (i := 0) (by omega)
      have c1 : wr.cell? ⟨w.heap.size, 1, .none⟩ = some (.slice .none 0 0) := HN.out.row0.cell (i := 1) (by omega)
      have c2 : wr.cell? ⟨w.heap.size, 2, .none⟩ = some (.pointer .none) := HN.out.row0.cell (i := 2) (by omega)
      have c3 : wr.cell? ⟨w.heap.size, 3, .none⟩ = some (.pointer .none) := HN.out.row0.cell (i := 3) (by omega)
      have c4 : wr.cell? ⟨w.heap.size, 4, .none⟩ = some (.slice .none 0 0) := HN.out.row0.cell (i := 4) (by omega)
      have f0 := HN.out.row0.frozen 0
      have f1 := HN.out.row0.frozen 1
      have f2 := HN.out.row0.frozen 2
      have f3 := HN.out.row0.frozen 3
      have f4 := HN.out.row0.frozen 4
      clear HX HN2
      go_wp2_with fail
      go_loopw [46, 7] (fun i sz w3 => i = .int .i64 0 ∧ sz = .int .i64 x ∧ w3 = wr) (fun _ _ _ => 0)
      case atStart => exact ⟨rfl, rfl, rfl⟩
      case round =>
        obtain ⟨rfl, rfl, rfl⟩ := hrel
        go_wp2_with fail
        have r5 := txStore (k := w.heap.size + 1) HN.out.row0
        have hb5 : Below w.heap.size w (((((wr.setCell ⟨w.heap.size, 0, .none⟩ (.pointer .none)).setCell ⟨w.heap.size, 1, .none⟩ (.slice .none 0 0)).setCell ⟨w.heap.size, 2, .none⟩ (.pointer (some ⟨w.heap.size + 1, 0, .none⟩))).setCell ⟨w.heap.size, 3, .none⟩ (.pointer .none)).setCell ⟨w.heap.size, 4, .none⟩ (.slice .none 0 0)) :=
          ((((HN.out.below.setCell (Nat.le_refl _) _).setCell (Nat.le_refl _) _).setCell (Nat.le_refl _) _).setCell (Nat.le_refl _) _).setCell (Nat.le_refl _) _
        have r6 := (((((HN.out.row1.setOther (a := ⟨w.heap.size, 0, .none⟩) (by simp) (.pointer .none)).setOther (a := ⟨w.heap.size, 1, .none⟩) (by simp) (.slice .none 0 0)).setOther (a := ⟨w.heap.size, 2, .none⟩) (by simp) (.pointer (some ⟨w.heap.size + 1, 0, .none⟩))).setOther (a := ⟨w.heap.size, 3, .none⟩) (by simp) (.pointer .none)).setOther (a := ⟨w.heap.size, 4, .none⟩) (by simp) (.slice .none 0 0))
        generalize ((((wr.setCell ⟨w.heap.size, 0, .none⟩ (.pointer .none)).setCell ⟨w.heap.size, 1, .none⟩ (.slice .none 0 0)).setCell ⟨w.heap.size, 2, .none⟩ (.pointer (some ⟨w.heap.size + 1, 0, .none⟩))).setCell ⟨w.heap.size, 3, .none⟩ (.pointer .none)).setCell ⟨w.heap.size, 4, .none⟩ (.slice .none 0 0) = W5 at r5 hb5 r6 ⊢
        have q0 := r5.cell (i := 0) (by omega)
        have q1 := r5.cell (i := 1) (by omega)
        have q2 := r5.cell (i := 2) (by omega)
        have q3 := r5.cell (i := 3) (by omega)
        have q4 := r5.cell (i := 4) (by omega)
        simp [txCells, cmd0] at q0 q1 q2 q3 q4
        refine bodyPost_ret (v := .tuple #[txCmd (w.heap.size + 1), .nilIface]) (by simp [results, Tryd.results14, go_sem, q0, q1, q2, q3, q4, txCmd]) rfl ⟨_, rfl, ⟨?_, ?_, ?_⟩, hb5⟩
        · simpa [txRow] using r6.cell (i := 0) (by omega)
        · simpa [txRow] using r6.cell (i := 1) (by omega)
        · simpa [txRow] using r6.cell (i := 3) (by omega)
end Go.Proofs.Qxb6603675aDoor.Mem
