import Derived.Test.Qxb6604458aMag2
namespace Go.Proofs.Qxb6604458a.Num
open Go.ChangeShapes Go.WideShapes Go.ChangeAt Go.RowKit

set_option maxHeartbeats 1000000 in
set_option maxRecDepth 100000 in
theorem compareString (a b : ByteArray) (w : World) :
    Calls Try.prog 32 #[.string a, .string b] w fun e w' => e = .returned (.int .i64 (Lib.compareBytes a.data.toList b.data.toList)) ∧ w' = w := by
  go_enter Try.func32, Try.ntmps32
  go_wp2
  rw [run_callFunc_extern Try.func33 (by kernel_rfl) (by kernel_rfl) (by kernel_rfl) (e := Extern.BytealgCompare.compare) (by kernel_rfl), Lib.run_compareString]
  simp only [Result.andThen]
  rw [Oper.upon_value]
  go_wp2
  go_ret
  exact ⟨rfl, rfl⟩

theorem stringsCompare (a b : ByteArray) (w : World) :
    Calls Try.prog 30 #[.string a, .string b] w fun e w' => e = .returned (.int .i64 (Lib.compareBytes a.data.toList b.data.toList)) ∧ w' = w := by
  go_enter Try.func30, Try.ntmps30
  go_wp2_with fail
  refine (compareString a b _).mono ?_
  rintro e w1 ⟨rfl, rfl⟩
  go_wp2_with fail
  go_ret
  exact ⟨rfl, rfl⟩

theorem nanOfInt (a : Int) (w : World) : Calls Try.prog 31 #[.int .i64 a] w fun e w' => e = .returned (.bool false) ∧ w' = w := by
  go_enter Try.func31, Try.ntmps31
  go_wp2_with fail
  go_ret
  exact ⟨by simp, rfl⟩

theorem cmpCompare (a b : Int) (w : World) :
    Calls Try.prog 29 #[.int .i64 a, .int .i64 b] w fun e w' => e = .returned (.int .i64 (cmpI a b)) ∧ w' = w := by
  unfold cmpI
  by_cases h1 : a < b
  · rw [if_pos h1]
    go_enter Try.func29, Try.ntmps29
    go_wp2_with fail
    refine (nanOfInt a _).mono ?_
    rintro e w1 ⟨rfl, rfl⟩
    go_wp2_with fail
    refine (nanOfInt b _).mono ?_
    rintro e w1 ⟨rfl, rfl⟩
    go_wp2_with fail
    go_ret
    exact ⟨rfl, rfl⟩
  · rw [if_neg h1]
    by_cases h2 : a > b
    · rw [if_pos h2]
      go_enter Try.func29, Try.ntmps29
      go_wp2_with fail
      refine (nanOfInt a _).mono ?_
      rintro e w1 ⟨rfl, rfl⟩
      go_wp2_with fail
      refine (nanOfInt b _).mono ?_
      rintro e w1 ⟨rfl, rfl⟩
      go_wp2_with fail
      go_ret
      exact ⟨rfl, rfl⟩
    · rw [if_neg h2]
      go_enter Try.func29, Try.ntmps29
      go_wp2_with fail
      refine (nanOfInt a _).mono ?_
      rintro e w1 ⟨rfl, rfl⟩
      go_wp2_with fail
      refine (nanOfInt b _).mono ?_
      rintro e w1 ⟨rfl, rfl⟩
      go_wp2_with fail
      go_ret
      exact ⟨rfl, rfl⟩

theorem magCmp (a b : N) (w : World) (ca : Canon a) (cb : Canon b) (h1 : a.whole.size ≤ 1048576) (h2 : b.whole.size ≤ 1048576) (h3 : a.frac.size ≤ 1048576) (h4 : b.frac.size ≤ 1048576) :
    Calls Try.prog 24 #[.string a.whole, .string a.frac, .string b.whole, .string b.frac] w fun e w' => e = .returned (.int .i64 (mag a b)) ∧ w' = w := by
  by_cases c1 : a.whole.size < b.whole.size
  · exact magCmp_lt a b w cb c1 h2
  by_cases c2 : b.whole.size < a.whole.size
  · exact magCmp_gt a b w ca c2 h1
  exact magCmp_eq a b w ca cb (by omega) h2 h3 h4

set_option maxHeartbeats 400000 in
theorem valueCmp (a b : N) (w : World) (ca : Canon a) (cb : Canon b) (h1 : a.whole.size ≤ 1048576) (h2 : b.whole.size ≤ 1048576) (h3 : a.frac.size ≤ 1048576) (h4 : b.frac.size ≤ 1048576) :
    Calls Try.prog 8 #[.bool a.neg, .string a.whole, .string a.frac, .bool b.neg, .string b.whole, .string b.frac] w fun e w' => e = .returned (.int .i64 (cmpN a b)) ∧ w' = w := by
  have hm := magCmp a b w ca cb h1 h2 h3 h4
  have hr := mag_range a b
  have HM := hid hm
  clear hm ca cb
  unfold cmpN
  generalize mag a b = m at *
  obtain ⟨an, aw, af⟩ := a
  obtain ⟨bn, bw, bf⟩ := b
  cases an <;> cases bn <;> simp only [if_true]
  · go_enter Try.func8, Try.ntmps8
    go_wp2_with fail
    refine HM.out.mono ?_
    rintro e w1 ⟨rfl, rfl⟩
    go_wp2_with fail
    go_ret
    exact ⟨by simp, rfl⟩
  · go_enter Try.func8, Try.ntmps8
    go_wp2_with fail
    go_ret
    exact ⟨by simp, rfl⟩
  · go_enter Try.func8, Try.ntmps8
    go_wp2_with fail
    go_ret
    exact ⟨by simp, rfl⟩
  · go_enter Try.func8, Try.ntmps8
    go_wp2_with fail
    refine HM.out.mono ?_
    rintro e w1 ⟨rfl, rfl⟩
    go_wp2_with fail
    go_ret
    exact ⟨by simp, rfl⟩

set_option maxHeartbeats 400000 in
theorem sameNumber (a b : N) (w : World) :
    Calls Try.prog 14 #[.bool a.neg, .string a.whole, .string a.frac, .bool b.neg, .string b.whole, .string b.frac] w fun e w' => boolOf e (b = a) ∧ w' = w := by
  by_cases h : b = a
  · subst h
    obtain ⟨an, aw, af⟩ := b
    go_enter Try.func14, Try.ntmps14
    go_wp2_with fail
    go_ret
    exact ⟨⟨_, rfl, fun _ => by simp⟩, rfl⟩
  · obtain ⟨an, aw, af⟩ := a
    obtain ⟨bn, bw, bf⟩ := b
    go_enter Try.func14, Try.ntmps14
    go_wp2_with fail
    all_goals (go_ret; exact ⟨⟨_, rfl, fun e => absurd e (by assumption)⟩, rfl⟩)
end Go.Proofs.Qxb6604458a.Num
