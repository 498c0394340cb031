import Derived.Test.Qxb6604458aWith
namespace Go.Proofs.Qxb6604458a.Num
open Go.ChangeShapes Go.WideShapes Go.ChangeAt Go.RowKit

/-- The value of bounds. -/
def bnd (l h : N) (ok : Bool) : Value := .agg #[.bool l.neg, .string l.whole, .string l.frac, .bool h.neg, .string h.whole, .string h.frac, .bool ok]
def num (x : N) : Value := .agg #[.bool x.neg, .string x.whole, .string x.frac]

theorem below1 {w0 w : World} (h : Below w0.heap.size w0 w) (a : Obj) : Below w0.heap.size w0 (w.alloc a) := h.alloc h.size a

set_option maxHeartbeats 1000000 in
theorem with_empty (l h x : N) (w : World) :
    Calls Try.prog 25 #[bnd l h false, num x] w fun e w' => e = .returned (bnd x x true) ∧ Below w.heap.size w w' := by
  unfold bnd num
  go_enter Try.func25, Try.ntmps25
  go_wp2_with fail
  go_returns
  exact ⟨rfl, below1 (below1 (below1 (Below.refl _ _) _) _) _⟩

set_option maxHeartbeats 1000000 in
theorem with_tt (l h x : N) (w : World) (h1 : cmpN x l < 0) (h2 : cmpN x h > 0) :
    Calls Try.prog 25 #[bnd l h true, num x] w fun e w' => e = .returned (bnd x x true) ∧ Below w.heap.size w w' := by
  have HL := hid (numCompare x l)
  have HH := hid (numCompare x h)
  generalize cmpN x l = c1 at *
  generalize cmpN x h = c2 at *
  unfold bnd num
  go_enter Try.func25, Try.ntmps25
  go_wp2_with fail
  refine (HL.out _).mono ?_
  rintro e w1 ⟨rfl, rfl⟩
  go_wp2_with fail
  refine (HH.out _).mono ?_
  rintro e w1 ⟨rfl, rfl⟩
  go_wp2_with fail
  go_returns
  exact ⟨rfl, below1 (below1 (below1 (below1 (below1 (below1 (below1 (Below.refl _ _) _) _) _) _) _) _) _⟩

set_option maxHeartbeats 1000000 in
theorem with_tf (l h x : N) (w : World) (h1 : cmpN x l < 0) (h2 : ¬ cmpN x h > 0) :
    Calls Try.prog 25 #[bnd l h true, num x] w fun e w' => e = .returned (bnd x h true) ∧ Below w.heap.size w w' := by
  have HL := hid (numCompare x l)
  have HH := hid (numCompare x h)
  generalize cmpN x l = c1 at *
  generalize cmpN x h = c2 at *
  unfold bnd num
  go_enter Try.func25, Try.ntmps25
  go_wp2_with fail
  refine (HL.out _).mono ?_
  rintro e w1 ⟨rfl, rfl⟩
  go_wp2_with fail
  refine (HH.out _).mono ?_
  rintro e w1 ⟨rfl, rfl⟩
  go_wp2_with fail
  go_returns
  exact ⟨rfl, below1 (below1 (below1 (below1 (below1 (below1 (below1 (Below.refl _ _) _) _) _) _) _) _) _⟩

set_option maxHeartbeats 1000000 in
theorem with_ft (l h x : N) (w : World) (h1 : ¬ cmpN x l < 0) (h2 : cmpN x h > 0) :
    Calls Try.prog 25 #[bnd l h true, num x] w fun e w' => e = .returned (bnd l x true) ∧ Below w.heap.size w w' := by
  have HL := hid (numCompare x l)
  have HH := hid (numCompare x h)
  generalize cmpN x l = c1 at *
  generalize cmpN x h = c2 at *
  unfold bnd num
  go_enter Try.func25, Try.ntmps25
  go_wp2_with fail
  refine (HL.out _).mono ?_
  rintro e w1 ⟨rfl, rfl⟩
  go_wp2_with fail
  refine (HH.out _).mono ?_
  rintro e w1 ⟨rfl, rfl⟩
  go_wp2_with fail
  go_returns
  exact ⟨rfl, below1 (below1 (below1 (below1 (below1 (below1 (below1 (Below.refl _ _) _) _) _) _) _) _) _⟩

set_option maxHeartbeats 1000000 in
theorem with_ff (l h x : N) (w : World) (h1 : ¬ cmpN x l < 0) (h2 : ¬ cmpN x h > 0) :
    Calls Try.prog 25 #[bnd l h true, num x] w fun e w' => e = .returned (bnd l h true) ∧ Below w.heap.size w w' := by
  have HL := hid (numCompare x l)
  have HH := hid (numCompare x h)
  generalize cmpN x l = c1 at *
  generalize cmpN x h = c2 at *
  unfold bnd num
  go_enter Try.func25, Try.ntmps25
  go_wp2_with fail
  refine (HL.out _).mono ?_
  rintro e w1 ⟨rfl, rfl⟩
  go_wp2_with fail
  refine (HH.out _).mono ?_
  rintro e w1 ⟨rfl, rfl⟩
  go_wp2_with fail
  go_returns
  exact ⟨rfl, below1 (below1 (below1 (below1 (below1 (below1 (below1 (Below.refl _ _) _) _) _) _) _) _) _⟩

/-- What the bounds are after one more number. -/
def widLow (ok : Bool) (l x : N) : N := if ok then (if cmpN x l < 0 then x else l) else x
def widHigh (ok : Bool) (h x : N) : N := if ok then (if cmpN x h > 0 then x else h) else x

theorem with_ (ok : Bool) (l h x : N) (w : World) :
    Calls Try.prog 25 #[bnd l h ok, num x] w fun e w' => e = .returned (bnd (widLow ok l x) (widHigh ok h x) true) ∧ Below w.heap.size w w' := by
  unfold widLow widHigh
  cases ok with
  | false => exact with_empty l h x w
  | true =>
    simp only [if_true]
    by_cases h1 : cmpN x l < 0 <;> by_cases h2 : cmpN x h > 0
    · rw [if_pos h1, if_pos h2]; exact with_tt l h x w h1 h2
    · rw [if_pos h1, if_neg h2]; exact with_tf l h x w h1 h2
    · rw [if_neg h1, if_pos h2]; exact with_ft l h x w h1 h2
    · rw [if_neg h1, if_neg h2]; exact with_ff l h x w h1 h2

end Go.Proofs.Qxb6604458a.Num
