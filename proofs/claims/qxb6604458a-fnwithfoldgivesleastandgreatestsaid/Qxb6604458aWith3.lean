import Derived.Test.Qxb6604458aWith2
namespace Go.Proofs.Qxb6604458a.Num
open Go.ChangeShapes Go.WideShapes Go.ChangeAt Go.RowKit

theorem below_dN {B : Nat} {a w : World} (h : Below B a w) (q : Nat) : Below B a (w.drewN q) := ⟨h.os, h.tape, h.output, h.size, h.block⟩

/-- Bounds lie in block 'g'. -/
def At7 (w : World) (g : Nat) (l h : N) (ok : Bool) : Prop := w.heap[g]? = some (.cells #[.bool l.neg, .string l.whole, .string l.frac, .bool h.neg, .string h.whole, .string h.frac, .bool ok] 28)

theorem At7.cells {w : World} {g : Nat} {l h : N} {ok : Bool} (a : At7 w g l h ok) :
    w.cell? ⟨g, 0, .none⟩ = some (.bool l.neg) ∧ w.cell? ⟨g, 1, .none⟩ = some (.string l.whole) ∧ w.cell? ⟨g, 2, .none⟩ = some (.string l.frac) ∧
    w.cell? ⟨g, 3, .none⟩ = some (.bool h.neg) ∧ w.cell? ⟨g, 4, .none⟩ = some (.string h.whole) ∧ w.cell? ⟨g, 5, .none⟩ = some (.string h.frac) ∧ w.cell? ⟨g, 6, .none⟩ = some (.bool ok) := by
  unfold At7 at a
  simp [World.cell?, a]

theorem At7.free {w : World} {g : Nat} {l h : N} {ok : Bool} (a : At7 w g l h ok) (i : Nat) : w.frozen? ⟨g, i, .none⟩ = false := by
  unfold At7 at a
  simp [World.frozen?, a]

theorem At7.below {w w' : World} {g : Nat} {l h : N} {ok : Bool} (a : At7 w g l h ok) (hb : Below w.heap.size w w') : At7 w' g l h ok := by
  unfold At7 at *
  have hl : g < w.heap.size := (Array.getElem?_eq_some_iff.1 a).1
  rw [hb.block g hl]; exact a

theorem At7.alloc (w : World) {g : Nat} (hg : g = w.heap.size) (l h : N) (ok : Bool) : At7 (w.alloc (.cells #[.bool l.neg, .string l.whole, .string l.frac, .bool h.neg, .string h.whole, .string h.frac, .bool ok] 28)) g l h ok := by
  subst hg
  exact (MapKept.heap_alloc _ _).1

/-- Bounds stored into block 'g'. -/
def set7 (w : World) (g : Nat) (l h : N) (ok : Bool) : World :=
  ((((((w.setCell ⟨g, 0, .none⟩ (.bool l.neg)).setCell ⟨g, 1, .none⟩ (.string l.whole)).setCell ⟨g, 2, .none⟩ (.string l.frac)).setCell ⟨g, 3, .none⟩ (.bool h.neg)).setCell ⟨g, 4, .none⟩ (.string h.whole)).setCell ⟨g, 5, .none⟩ (.string h.frac)).setCell ⟨g, 6, .none⟩ (.bool ok)

theorem At7.set {w : World} {g : Nat} {l h : N} {ok : Bool} (a : At7 w g l h ok) (l' h' : N) (ok' : Bool) : At7 (set7 w g l' h' ok') g l' h' ok' := by
  unfold At7 set7 at *
  have hl : g < w.heap.size := (Array.getElem?_eq_some_iff.1 a).1
  simp [World.setCell, Array.getElem?_modify, a]

theorem set7_below {B g : Nat} {w0 w : World} (hb : Below B w0 w) (hg : B ≤ g) (l h : N) (ok : Bool) : Below B w0 (set7 w g l h ok) :=
  ((((((hb.setCell hg _).setCell hg _).setCell hg _).setCell hg _).setCell hg _).setCell hg _).setCell hg _

set_option maxHeartbeats 400000 in
theorem zzWith (ok : Bool) (l h x : N) (w : World) :
    Calls Try.prog 11 #[bnd l h ok, num x] w fun e w' => e = .returned (bnd (widLow ok l x) (widHigh ok h x) true) ∧ Below w.heap.size w w' := by
  have HW := hid (with_ ok l h x)
  generalize widLow ok l x = l' at *
  generalize widHigh ok h x = h' at *
  unfold bnd num at HW ⊢
  go_enter Try.func11, Try.ntmps11
  go_wp2_with fail
  refine (HW.out _).mono ?_
  rintro e w1 ⟨rfl, hb⟩
  have ha : At7 w1 (w.heap.size + 1 + 1) ⟨false, ⟨#[]⟩, ⟨#[]⟩⟩ ⟨false, ⟨#[]⟩, ⟨#[]⟩⟩ false := by
    refine At7.below (At7.alloc _ ?_ _ _ _) hb
    simp
  have hbb := hid (Below.trans (below1 (below1 (below1 (Below.refl _ _) _) _) _) (hb.mono (B' := w.heap.size) (by simp; omega)))
  obtain ⟨c0, c1, c2, c3, c4, c5, c6⟩ := ha.cells
  have f0 := ha.free 0
  have f1 := ha.free 1
  have f2 := ha.free 2
  have f3 := ha.free 3
  have f4 := ha.free 4
  have f5 := ha.free 5
  have f6 := ha.free 6
  obtain ⟨w2, e2, a2, b2⟩ : ∃ w2, set7 w1 (w.heap.size + 1 + 1) l' h' true = w2 ∧ At7 w2 (w.heap.size + 1 + 1) l' h' true ∧ Hid (Below w.heap.size w w2) := ⟨_, rfl, ha.set _ _ _, hid (set7_below hbb.out (by omega) _ _ _)⟩
  have HE := hid e2
  have HA := hid a2
  clear hb ha HW e2 a2
  go_wp2_with fail
  have e3 := HE.out
  unfold set7 at e3
  rw [e3]
  clear c0 c1 c2 c3 c4 c5 c6 f0 f1 f2 f3 f4 f5 f6 e3
  obtain ⟨c0, c1, c2, c3, c4, c5, c6⟩ := HA.out.cells
  exact bodyPost_ret (v := bnd l' h' true) (by simp [results, Try.results11, go_sem, c0, c1, c2, c3, c4, c5, c6, bnd]) rfl ⟨rfl, b2.out⟩

set_option maxHeartbeats 400000 in
theorem zzNumber (x : N) (w : World) :
    Calls Try.prog 10 #[.bool x.neg, .string x.whole, .string x.frac] w fun e w' => e = .returned (num x) ∧ Below w.heap.size w w' := by
  unfold num
  go_enter Try.func10, Try.ntmps10
  go_wp2_with fail
  go_returns
  exact ⟨rfl, below1 (Below.refl _ _) _⟩

def zero : N := ⟨false, ⟨#[]⟩, ⟨#[]⟩⟩

set_option maxHeartbeats 400000 in
theorem zzNoBounds (w : World) :
    Calls Try.prog 18 #[] w fun e w' => e = .returned (bnd zero zero false) ∧ Below w.heap.size w w' := by
  unfold bnd zero
  go_enter Try.func18, Try.ntmps18
  go_wp2_with fail
  go_returns
  exact ⟨rfl, below1 (Below.refl _ _) _⟩

set_option maxHeartbeats 400000 in
theorem zzNumberOf (x : N) (w : World) :
    Calls Try.prog 13 #[num x] w fun e w' => e = .returned (.tuple #[.bool x.neg, .string x.whole, .string x.frac]) ∧ Below w.heap.size w w' := by
  unfold num
  go_enter Try.func13, Try.ntmps13
  go_wp2_with fail
  go_quiet (fail)
  go_wp2_with fail
  go_returns
  exact ⟨rfl, below_dN (below1 (Below.refl _ _) _) _⟩

set_option maxHeartbeats 400000 in
theorem zzBoundsOf (l h : N) (ok : Bool) (w : World) :
    Calls Try.prog 12 #[bnd l h ok] w fun e w' => e = .returned (.tuple #[num l, num h, .bool ok]) ∧ Below w.heap.size w w' := by
  unfold num bnd
  go_enter Try.func12, Try.ntmps12
  go_wp2_with fail
  go_region
  go_wp2_with fail
  go_returns
  exact ⟨rfl, (below1 (below1 (below1 (Below.refl _ _) _) _) _).drew⟩
end Go.Proofs.Qxb6604458a.Num
