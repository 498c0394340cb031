import Derived.Test.Qxb6604458aLeaf2
namespace Go.Proofs.Qxb6604458a.Num
open Go.ChangeShapes Go.WideShapes Go.ChangeAt Go.RowKit

theorem mag_lt {a b : N} (h : a.whole.size < b.whole.size) : mag a b = -1 := by
  have : cmpI (a.whole.size : Int) (b.whole.size : Int) = -1 := by unfold cmpI; rw [if_pos (by omega)]
  simp [mag, thenC, this]

theorem mag_gt {a b : N} (h : b.whole.size < a.whole.size) : mag a b = 1 := by
  have : cmpI (a.whole.size : Int) (b.whole.size : Int) = 1 := by unfold cmpI; rw [if_neg (by omega), if_pos (by omega)]
  simp [mag, thenC, this]

theorem mag_whole {a b : N} (h : a.whole.size = b.whole.size) (hc : Lib.compareBytes a.whole.data.toList b.whole.data.toList ≠ 0) : mag a b = Lib.compareBytes a.whole.data.toList b.whole.data.toList := by
  have : cmpI (a.whole.size : Int) (b.whole.size : Int) = 0 := by unfold cmpI; rw [if_neg (by omega), if_neg (by omega)]
  simp [mag, thenC, this, hc]

theorem mag_frac {a b : N} (h : a.whole = b.whole) : mag a b = Lib.compareBytes a.frac.data.toList b.frac.data.toList := by
  have : cmpI (a.whole.size : Int) (b.whole.size : Int) = 0 := by rw [h]; unfold cmpI; rw [if_neg (by omega), if_neg (by omega)]
  have e : Lib.compareBytes a.whole.data.toList b.whole.data.toList = 0 := by rw [h]; exact cb_self _
  simp [mag, thenC, this, e]

theorem whole_ext {a b : ByteArray} (h : a.size = b.size) (he : ∀ j, j < a.size → a.data.toList[j]? = b.data.toList[j]?) : a = b := by
  have e : a.data.toList = b.data.toList := by
    refine List.ext_getElem? (fun j => ?_)
    by_cases hj : j < a.size
    · exact he j hj
    · rw [List.getElem?_eq_none (by simpa using hj), List.getElem?_eq_none (by simp; omega)]
  cases a; cases b; simp_all

theorem pad_in (s : ByteArray) (i : Nat) (h : i < s.size) : pad s i = s[i] := by unfold pad; rw [get_some s i h]; rfl
theorem pad_out (s : ByteArray) (i : Nat) (h : s.size ≤ i) : pad s i = 48 := by unfold pad; rw [List.getElem?_eq_none (by simpa using h)]; rfl

set_option maxHeartbeats 400000 in
theorem magCmp_lt (a b : N) (w : World) (cb : Canon b) (ha : a.whole.size < b.whole.size) (hb : b.whole.size ≤ 1048576) :
    Calls Try.prog 24 #[.string a.whole, .string a.frac, .string b.whole, .string b.frac] w fun e w' => e = .returned (.int .i64 (mag a b)) ∧ w' = w := by
  rw [mag_lt ha]
  obtain ⟨an, aw, af⟩ := a
  obtain ⟨bn, bw, bf⟩ := b
  simp only at ha hb ⊢
  have h0 : 0 < bw.size := by omega
  have g := get_some bw 0 h0
  have c1 := cb.wd 0 _ g
  have c2 := cb.lead _ g
  have c3 : 48 < bw[0].toNat := by
    have : bw[0].toNat ≠ 48 := fun h => c2 (UInt8.toNat.inj h)
    omega
  clear cb g c1 c2
  go_enter Try.func24, Try.ntmps24
  go_wp2_with fail
  go_loop [10] (fun i => i = .int .i64 0) (fun _ => 0)
  case atStart => exact rfl
  case round =>
    subst hrel
    go_wp2_with fail
    go_ret
    exact ⟨rfl, rfl⟩

set_option maxHeartbeats 400000 in
theorem magCmp_gt (a b : N) (w : World) (ca : Canon a) (ha : b.whole.size < a.whole.size) (hb : a.whole.size ≤ 1048576) :
    Calls Try.prog 24 #[.string a.whole, .string a.frac, .string b.whole, .string b.frac] w fun e w' => e = .returned (.int .i64 (mag a b)) ∧ w' = w := by
  rw [mag_gt ha]
  obtain ⟨an, aw, af⟩ := a
  obtain ⟨bn, bw, bf⟩ := b
  simp only at ha hb ⊢
  have h0 : 0 < aw.size := by omega
  have g := get_some aw 0 h0
  have c1 := ca.wd 0 _ g
  have c2 := ca.lead _ g
  have c3 : 48 < aw[0].toNat := by
    have : aw[0].toNat ≠ 48 := fun h => c2 (UInt8.toNat.inj h)
    omega
  clear ca g c1 c2
  go_enter Try.func24, Try.ntmps24
  go_wp2_with fail
  go_loop [10] (fun i => i = .int .i64 0) (fun _ => 0)
  case atStart => exact rfl
  case round =>
    subst hrel
    go_wp2_with fail
    go_ret
    exact ⟨rfl, rfl⟩
end Go.Proofs.Qxb6604458a.Num
