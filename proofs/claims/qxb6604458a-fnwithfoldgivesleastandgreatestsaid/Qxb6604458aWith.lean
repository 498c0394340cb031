import Derived.Test.Qxb6604458aCmp
namespace Go.Proofs.Qxb6604458a.Num
open Go.ChangeShapes Go.WideShapes Go.ChangeAt Go.RowKit

theorem cmpN_same {a b : N} (h : a.neg = b.neg) : cmpN a b = if a.neg then - mag a b else mag a b := by unfold cmpN; rw [if_pos h]

set_option maxHeartbeats 1000000 in
theorem numCompare (a b : N) (w : World) :
    Calls Try.prog 27 #[.agg #[.bool a.neg, .string a.whole, .string a.frac], .agg #[.bool b.neg, .string b.whole, .string b.frac]] w fun e w' => e = .returned (.int .i64 (cmpN a b)) ∧ w' = (w.alloc (.cells #[.bool a.neg, .string a.whole, .string a.frac] 26)).alloc (.cells #[.bool b.neg, .string b.whole, .string b.frac] 26) := by
  obtain ⟨an, aw, af⟩ := a
  obtain ⟨bn, bw, bf⟩ := b
  have hr := mag_range ⟨an, aw, af⟩ ⟨bn, bw, bf⟩
  have hm : mag ⟨an, aw, af⟩ ⟨bn, bw, bf⟩ = if (if cmpI (aw.size : Int) (bw.size : Int) = 0 then Lib.compareBytes aw.data.toList bw.data.toList else cmpI (aw.size : Int) (bw.size : Int)) = 0 then Lib.compareBytes af.data.toList bf.data.toList else (if cmpI (aw.size : Int) (bw.size : Int) = 0 then Lib.compareBytes aw.data.toList bw.data.toList else cmpI (aw.size : Int) (bw.size : Int)) := rfl
  have HW := hid (stringsCompare aw bw)
  have HF := hid (stringsCompare af bf)
  have HC := hid (cmpCompare (aw.size : Int) (bw.size : Int))
  unfold cmpN
  generalize mag ⟨an, aw, af⟩ ⟨bn, bw, bf⟩ = m at *
  generalize cmpI (aw.size : Int) (bw.size : Int) = c1 at *
  generalize Lib.compareBytes aw.data.toList bw.data.toList = c2 at *
  generalize Lib.compareBytes af.data.toList bf.data.toList = c3 at *
  cases an <;> cases bn <;> simp only [if_true]
  · by_cases k1 : c1 = 0
    · by_cases k2 : c2 = 0
      · rw [if_pos k1, if_pos k2] at hm
        subst hm
        go_enter Try.func27, Try.ntmps27
        go_wp2_with fail
        refine (HC.out _).mono ?_
        rintro e w1 ⟨rfl, rfl⟩
        go_wp2_with fail
        refine (HW.out _).mono ?_
        rintro e w1 ⟨rfl, rfl⟩
        go_wp2_with fail
        refine (HF.out _).mono ?_
        rintro e w1 ⟨rfl, rfl⟩
        go_wp2_with fail
        go_ret
        exact ⟨by simp, rfl⟩
      · rw [if_pos k1, if_neg k2] at hm
        subst hm
        go_enter Try.func27, Try.ntmps27
        go_wp2_with fail
        refine (HC.out _).mono ?_
        rintro e w1 ⟨rfl, rfl⟩
        go_wp2_with fail
        refine (HW.out _).mono ?_
        rintro e w1 ⟨rfl, rfl⟩
        go_wp2_with fail
        go_ret
        exact ⟨by simp, rfl⟩
    · rw [if_neg k1, if_neg k1] at hm
      subst hm
      go_enter Try.func27, Try.ntmps27
      go_wp2_with fail
      refine (HC.out _).mono ?_
      rintro e w1 ⟨rfl, rfl⟩
      go_wp2_with fail
      go_ret
      exact ⟨by simp, rfl⟩
  · clear hm hr
    go_enter Try.func27, Try.ntmps27
    go_wp2_with fail
    go_ret
    exact ⟨by simp, rfl⟩
  · clear hm hr
    go_enter Try.func27, Try.ntmps27
    go_wp2_with fail
    go_ret
    exact ⟨by simp, rfl⟩
  · by_cases k1 : c1 = 0
    · by_cases k2 : c2 = 0
      · rw [if_pos k1, if_pos k2] at hm
        subst hm
        go_enter Try.func27, Try.ntmps27
        go_wp2_with fail
        refine (HC.out _).mono ?_
        rintro e w1 ⟨rfl, rfl⟩
        go_wp2_with fail
        refine (HW.out _).mono ?_
        rintro e w1 ⟨rfl, rfl⟩
        go_wp2_with fail
        refine (HF.out _).mono ?_
        rintro e w1 ⟨rfl, rfl⟩
        go_wp2_with fail
        go_ret
        exact ⟨by simp, rfl⟩
      · rw [if_pos k1, if_neg k2] at hm
        subst hm
        go_enter Try.func27, Try.ntmps27
        go_wp2_with fail
        refine (HC.out _).mono ?_
        rintro e w1 ⟨rfl, rfl⟩
        go_wp2_with fail
        refine (HW.out _).mono ?_
        rintro e w1 ⟨rfl, rfl⟩
        go_wp2_with fail
        go_ret
        exact ⟨by simp, rfl⟩
    · rw [if_neg k1, if_neg k1] at hm
      subst hm
      go_enter Try.func27, Try.ntmps27
      go_wp2_with fail
      refine (HC.out _).mono ?_
      rintro e w1 ⟨rfl, rfl⟩
      go_wp2_with fail
      go_ret
      exact ⟨by simp, rfl⟩

end Go.Proofs.Qxb6604458a.Num
