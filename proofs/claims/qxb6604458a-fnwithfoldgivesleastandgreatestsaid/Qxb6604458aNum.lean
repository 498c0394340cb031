import Derived.Lib.Bytealg
namespace Go.Proofs.Qxb6604458a.Num
open Go.Lib

/-! ### The order of numbers, with no Go in sight -/

theorem cb_anti : ∀ a b : List UInt8, compareBytes a b = - compareBytes b a
  | [], [] => rfl
  | [], _ :: _ => rfl
  | _ :: _, [] => rfl
  | x :: xs, y :: ys => by
    have ih := cb_anti xs ys
    simp only [compareBytes]
    by_cases h1 : x < y
    · have h2 : ¬ y < x := by simp only [UInt8.lt_iff_toNat_lt] at *; omega
      simp [h1, h2]
    · by_cases h2 : y < x
      · simp [h1, h2]
      · simp only [if_neg h1, if_neg h2]; exact ih

theorem cb_self : ∀ a : List UInt8, compareBytes a a = 0
  | [] => rfl
  | x :: xs => by
    have h : ¬ x < x := by simp only [UInt8.lt_iff_toNat_lt]; omega
    simp only [compareBytes, if_neg h]
    exact cb_self xs

theorem cb_trans : ∀ a b c : List UInt8, compareBytes a b ≤ 0 → compareBytes b c ≤ 0 → compareBytes a c ≤ 0
  | [], _, [] => fun _ _ => by simp [compareBytes]
  | [], _, _ :: _ => fun _ _ => by simp [compareBytes]
  | x :: xs, [], _ => fun h _ => by simp [compareBytes] at h
  | x :: xs, y :: ys, [] => fun _ h => by simp [compareBytes] at h
  | x :: xs, y :: ys, z :: zs => fun h1 h2 => by
    have ih := cb_trans xs ys zs
    simp only [compareBytes] at *
    simp only [UInt8.lt_iff_toNat_lt] at *
    by_cases a1 : x.toNat < z.toNat
    · simp [a1]
    · rw [if_neg a1]
      by_cases a2 : z.toNat < x.toNat
      · exfalso
        by_cases b1 : x.toNat < y.toNat
        · rw [if_neg (show ¬ y.toNat < z.toNat by omega), if_pos (show z.toNat < y.toNat by omega)] at h2
          omega
        · rw [if_neg b1] at h1
          by_cases b2 : y.toNat < x.toNat
          · rw [if_pos b2] at h1; omega
          · rw [if_neg (show ¬ y.toNat < z.toNat by omega), if_pos (show z.toNat < y.toNat by omega)] at h2
            omega
      · rw [if_neg a2]
        by_cases b1 : x.toNat < y.toNat
        · rw [if_neg (show ¬ y.toNat < z.toNat by omega), if_pos (show z.toNat < y.toNat by omega)] at h2
          omega
        · rw [if_neg b1] at h1
          by_cases b2 : y.toNat < x.toNat
          · rw [if_pos b2] at h1; omega
          · rw [if_neg b2] at h1
            rw [if_neg (show ¬ y.toNat < z.toNat by omega), if_neg (show ¬ z.toNat < y.toNat by omega)] at h2
            exact ih h1 h2

theorem cb_range : ∀ a b : List UInt8, -1 ≤ compareBytes a b ∧ compareBytes a b ≤ 1
  | [], [] => by simp [compareBytes]
  | [], _ :: _ => by simp [compareBytes]
  | _ :: _, [] => by simp [compareBytes]
  | x :: xs, y :: ys => by
    have ih := cb_range xs ys
    simp only [compareBytes]
    split
    · omega
    · split
      · omega
      · exact ih

/-- The first place where two strings part decides. -/
theorem cb_lt : ∀ (i : Nat) (a b : List UInt8) (y : UInt8), (∀ j, j < i → a[j]? = b[j]?) → b[i]? = some y → (∀ x, a[i]? = some x → x.toNat < y.toNat) → compareBytes a b = -1
  | 0, [], _ :: _, _ => fun _ _ _ => rfl
  | 0, x :: _, z :: _, y => fun _ h1 h2 => by
    simp at h1 h2
    subst h1
    simp only [compareBytes]
    rw [if_pos (by rw [UInt8.lt_iff_toNat_lt]; exact h2)]
  | 0, _, [], _ => fun _ h _ => by simp at h
  | i + 1, [], [], _ => fun _ h _ => by simp at h
  | i + 1, [], _ :: _, _ => fun _ _ _ => rfl
  | i + 1, _ :: _, [], _ => fun _ h _ => by simp at h
  | i + 1, x :: xs, z :: zs, y => fun h0 h1 h2 => by
    have e := h0 0 (Nat.succ_pos _)
    simp at e
    subst e
    have hn : ¬ x < x := by simp only [UInt8.lt_iff_toNat_lt]; omega
    simp only [compareBytes, if_neg hn]
    refine cb_lt i xs zs y (fun j hj => ?_) (by simpa using h1) (by simpa using h2)
    have := h0 (j + 1) (by omega)
    simpa using this

theorem cb_gt (i : Nat) (a b : List UInt8) (y : UInt8) (h0 : ∀ j, j < i → a[j]? = b[j]?) (h1 : a[i]? = some y) (h2 : ∀ x, b[i]? = some x → x.toNat < y.toNat) : compareBytes a b = 1 := by
  have := cb_lt i b a y (fun j hj => (h0 j hj).symm) h1 h2
  have e := cb_anti a b
  omega

/-! ### Comparison functions -/
structure Good {α : Type} (c : α → α → Int) : Prop where
  anti : ∀ x y, c x y = - c y x
  trans : ∀ x y z, c x y ≤ 0 → c y z ≤ 0 → c x z ≤ 0

def thenC {α : Type} (c d : α → α → Int) (x y : α) : Int := if c x y = 0 then d x y else c x y

theorem Good.then {α : Type} {c d : α → α → Int} (hc : Good c) (hd : Good d) : Good (thenC c d) := by
  constructor
  · intro x y
    unfold thenC
    have h1 := hc.anti x y
    have h2 := hd.anti x y
    by_cases h : c x y = 0
    · rw [if_pos h, if_pos (by omega)]; exact h2
    · rw [if_neg h, if_neg (by omega)]; exact h1
  · intro x y z h1 h2
    unfold thenC at *
    have a1 := hc.anti x y
    have a2 := hc.anti y z
    have a3 := hc.anti x z
    have c1 : c x y ≤ 0 := by by_cases h : c x y = 0 <;> simp [h] at h1 ⊢; omega
    have c2 : c y z ≤ 0 := by by_cases h : c y z = 0 <;> simp [h] at h2 ⊢; omega
    have c3 := hc.trans x y z c1 c2
    by_cases h : c x z = 0
    · have c4 := hc.trans y z x c2 (by omega)
      have c5 := hc.trans z x y (by omega) c1
      have e1 : c x y = 0 := by omega
      have e2 : c y z = 0 := by omega
      rw [if_pos e1] at h1
      rw [if_pos e2] at h2
      rw [if_pos h]
      exact hd.trans x y z h1 h2
    · rw [if_neg h]; exact c3

/-- What cmp.Compare says of two integers. -/
def cmpI (a b : Int) : Int := if a < b then -1 else if a > b then 1 else 0

/-- A number: whether it is negative, its whole digits, its fraction's. -/
structure N where
  neg : Bool
  whole : ByteArray
  frac : ByteArray

theorem good_len : Good (fun a b : N => cmpI (a.whole.size : Int) (b.whole.size : Int)) := by
  constructor
  · intro x y
    simp only [cmpI]
    split <;> split <;> (try split) <;> (try split) <;> omega
  · intro x y z
    simp only [cmpI]
    intro h1 h2
    split at h1 <;> split at h2 <;> (try split at h1) <;> (try split at h2) <;> split <;> (try split) <;> omega

theorem good_whole : Good (fun a b : N => compareBytes a.whole.data.toList b.whole.data.toList) := ⟨fun _ _ => cb_anti _ _, fun _ _ _ => cb_trans _ _ _⟩
theorem good_frac : Good (fun a b : N => compareBytes a.frac.data.toList b.frac.data.toList) := ⟨fun _ _ => cb_anti _ _, fun _ _ _ => cb_trans _ _ _⟩

/-- How two magnitudes compare. -/
def mag : N → N → Int := thenC (thenC (fun a b : N => cmpI (a.whole.size : Int) (b.whole.size : Int)) (fun a b : N => compareBytes a.whole.data.toList b.whole.data.toList)) (fun a b : N => compareBytes a.frac.data.toList b.frac.data.toList)

theorem good_mag : Good mag := (good_len.then good_whole).then good_frac

/-- How two numbers compare. -/
def cmpN (a b : N) : Int := if a.neg = b.neg then (if a.neg then - mag a b else mag a b) else if a.neg then -1 else 1

theorem good_cmpN : Good cmpN := by
  constructor
  · intro x y
    have h := good_mag.anti x y
    unfold cmpN
    cases x.neg <;> cases y.neg <;> simp <;> omega
  · intro x y z
    have h1 := good_mag.trans x y z
    have h2 := good_mag.trans z y x
    have a1 := good_mag.anti x y
    have a2 := good_mag.anti y z
    have a3 := good_mag.anti x z
    unfold cmpN
    cases x.neg <;> cases y.neg <;> cases z.neg <;> simp <;> omega

theorem cmpN_self (x : N) : cmpN x x = 0 := by have := good_cmpN.anti x x; omega

theorem cmpI_range (a b : Int) : -1 ≤ cmpI a b ∧ cmpI a b ≤ 1 := by unfold cmpI; split <;> (try split) <;> omega

theorem mag_range (a b : N) : -1 ≤ mag a b ∧ mag a b ≤ 1 := by
  unfold mag thenC
  have h1 := cmpI_range (a.whole.size : Int) (b.whole.size : Int)
  have h2 := cb_range a.whole.data.toList b.whole.data.toList
  have h3 := cb_range a.frac.data.toList b.frac.data.toList
  simp only
  split <;> (try split) <;> (first | exact h1 | exact h2 | exact h3)

/-! ### The fold -/
/-- 'l' is the least, and 'h' the greatest, of the first 'k' numbers. -/
structure Ext (X : Nat → N) (k : Nat) (l h : N) : Prop where
  lowIn : ∃ j, j < k ∧ X j = l
  highIn : ∃ j, j < k ∧ X j = h
  low : ∀ j, j < k → cmpN l (X j) ≤ 0
  high : ∀ j, j < k → 0 ≤ cmpN h (X j)

theorem Ext.one (X : Nat → N) : Ext X 1 (X 0) (X 0) := by
  have h0 : ∀ j, j < 1 → cmpN (X 0) (X j) = 0 := fun j hj => by
    have e : j = 0 := by omega
    rw [e]; exact cmpN_self _
  exact ⟨⟨0, Nat.one_pos, rfl⟩, ⟨0, Nat.one_pos, rfl⟩, fun j hj => Int.le_of_eq (h0 j hj), fun j hj => Int.le_of_eq (h0 j hj).symm⟩

theorem Ext.step {X : Nat → N} {k : Nat} {l h : N} (e : Ext X k l h) :
    Ext X (k + 1) (if cmpN (X k) l < 0 then X k else l) (if cmpN (X k) h > 0 then X k else h) := by
  obtain ⟨jl, hl, el⟩ := e.lowIn
  obtain ⟨jh, hh, eh⟩ := e.highIn
  refine ⟨?_, ?_, ?_, ?_⟩
  · split
    · exact ⟨k, by omega, rfl⟩
    · exact ⟨jl, by omega, el⟩
  · split
    · exact ⟨k, by omega, rfl⟩
    · exact ⟨jh, by omega, eh⟩
  · intro j hj
    by_cases hk : j = k
    · subst hk
      split
      · rw [cmpN_self]; omega
      · have := good_cmpN.anti (X j) l; omega
    · have h1 := e.low j (by omega)
      split
      · exact good_cmpN.trans _ _ _ (by omega) h1
      · exact h1
  · intro j hj
    by_cases hk : j = k
    · subst hk
      split
      · rw [cmpN_self]; omega
      · have := good_cmpN.anti (X j) h; omega
    · have h1 := e.high j (by omega)
      split
      · rename_i hlt
        have a1 := good_cmpN.anti (X k) h
        have a2 := good_cmpN.anti h (X j)
        have a3 := good_cmpN.anti (X k) (X j)
        have := good_cmpN.trans (X j) h (X k) (by omega) (by omega)
        omega
      · exact h1

/-! ### Padded fractions -/
def pad (s : ByteArray) (i : Nat) : UInt8 := (s.data.toList[i]?).getD 48

theorem frac_lt (a b : ByteArray) (i : Nat) (ha : ∀ (j : Nat) (y : UInt8), a.data.toList[j]? = some y → 48 ≤ y.toNat) (h : ∀ j, j < i → pad a j = pad b j) (hi : (pad a i).toNat < (pad b i).toNat) :
    compareBytes a.data.toList b.data.toList = -1 := by
  unfold pad at h hi
  generalize a.data.toList = A at *
  generalize b.data.toList = B at *
  have hA : 48 ≤ ((A[i]?).getD 48).toNat := by
    cases e : A[i]? with
    | none => simp
    | some y => simpa using ha i y e
  obtain ⟨y, hy⟩ : ∃ y, B[i]? = some y := by
    cases e : B[i]? with
    | none => rw [e] at hi; simp at hi; omega
    | some y => exact ⟨y, rfl⟩
  have hBi : i < B.length := by
    have := List.getElem?_eq_some_iff.1 hy
    exact this.1
  by_cases hl : i ≤ A.length
  · refine cb_lt i A B y (fun j hj => ?_) hy (fun x hx => by rw [hx, hy] at hi; simpa using hi)
    have := h j hj
    rw [List.getElem?_eq_getElem (by omega), List.getElem?_eq_getElem (by omega)] at this ⊢
    simpa using this
  · refine cb_lt A.length A B B[A.length] (fun j hj => ?_) (List.getElem?_eq_getElem (by omega)) (fun x hx => by simp at hx)
    have := h j (by omega)
    rw [List.getElem?_eq_getElem (by omega), List.getElem?_eq_getElem (by omega)] at this ⊢
    simpa using this

theorem frac_eq (a b : ByteArray) (la : ∀ y, 0 < a.size → a.data.toList[a.size - 1]? = some y → y ≠ 48) (lb : ∀ y, 0 < b.size → b.data.toList[b.size - 1]? = some y → y ≠ 48) (i : Nat) (h : ∀ j, j < i → pad a j = pad b j) (h1 : a.size ≤ i) (h2 : b.size ≤ i) :
    a.data.toList = b.data.toList := by
  have sa : a.data.toList.length = a.size := by simp
  have sb : b.data.toList.length = b.size := by simp
  unfold pad at h
  generalize a.data.toList = A at *
  generalize b.data.toList = B at *
  have hlen : A.length = B.length := by
    by_cases c1 : A.length < B.length
    · exfalso
      have := h (b.size - 1) (by omega)
      rw [List.getElem?_eq_none (l := A) (by omega), List.getElem?_eq_getElem (l := B) (by omega)] at this
      exact lb _ (by omega) (List.getElem?_eq_getElem (by omega)) (by simpa using this.symm)
    · by_cases c2 : B.length < A.length
      · exfalso
        have := h (a.size - 1) (by omega)
        rw [List.getElem?_eq_none (l := B) (by omega), List.getElem?_eq_getElem (l := A) (by omega)] at this
        exact la _ (by omega) (List.getElem?_eq_getElem (by omega)) (by simpa using this)
      · omega
  refine List.ext_getElem hlen (fun j p q => ?_)
  have := h j (by omega)
  rw [List.getElem?_eq_getElem p, List.getElem?_eq_getElem q] at this
  simpa using this

end Go.Proofs.Qxb6604458a.Num
