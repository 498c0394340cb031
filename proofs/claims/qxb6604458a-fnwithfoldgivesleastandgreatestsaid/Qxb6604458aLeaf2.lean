import Derived.Test.Qxb6604458aLeaf
namespace Go.Proofs.Qxb6604458a.Num
open Go.ChangeShapes Go.WideShapes Go.ChangeAt Go.RowKit

set_option maxHeartbeats 400000 in
theorem canonNumber (x : N) (w : World) (h1 : x.whole.size ≤ 1048576) (h2 : x.frac.size ≤ 1048576) :
    Calls Try.prog 7 #[.bool x.neg, .string x.whole, .string x.frac] w fun e w' => boolIf e (Canon x) ∧ w' = w := by
  obtain ⟨ng, wh, fr⟩ := x
  simp only at h1 h2 ⊢
  go_enter Try.func7, Try.ntmps7
  go_wp2_with fail
  refine (isDigits wh _ h1).mono ?_
  rintro e w1 ⟨⟨b1, rfl, hb1⟩, rfl⟩
  have HB1 := hid hb1
  clear hb1
  cases b1 with
  | false =>
    go_wp2_with fail
    go_ret
    exact ⟨⟨_, rfl, fun h => by cases h⟩, rfl⟩
  | true =>
    go_wp2_with fail
    refine (isDigits fr _ h2).mono ?_
    rintro e w1 ⟨⟨b2, rfl, hb2⟩, rfl⟩
    have HB2 := hid hb2
    clear hb2
    cases b2 with
    | false =>
      go_wp2_with fail
      go_ret
      exact ⟨⟨_, rfl, fun h => by cases h⟩, rfl⟩
    | true =>
      have lead : Hid (wh.size = 0 ∨ (∃ h : 0 < wh.size, wh[0].toNat ≠ 48) → ∀ y, wh.data.toList[0]? = some y → y ≠ 48) := hid (fun h y hy => by
        rcases h with h | ⟨h, hn⟩
        · have := get_lt hy; omega
        · have := (get_some wh 0 h).symm.trans hy
          simp only [Option.some.injEq] at this
          subst this
          intro e
          exact hn (by rw [e]; rfl))
      have last : Hid (fr.size = 0 ∨ (∃ h : 0 < fr.size, fr[fr.size - 1].toNat ≠ 48) → ∀ y, 0 < fr.size → fr.data.toList[fr.size - 1]? = some y → y ≠ 48) := hid (fun h y h0 hy => by
        rcases h with h | ⟨h, hn⟩
        · omega
        · have := (get_some fr (fr.size - 1) (by omega)).symm.trans hy
          simp only [Option.some.injEq] at this
          subst this
          intro e
          exact hn (by rw [e]; rfl))
      rcases Nat.eq_zero_or_pos wh.size with hw | hw
      · rcases Nat.eq_zero_or_pos fr.size with hf | hf
        · cases ng
          · go_wp2_with fail
            all_goals (go_ret; exact ⟨⟨_, rfl, fun _ => ⟨HB1.out (by trivial), HB2.out (by trivial), lead.out (.inl hw), last.out (.inl hf)⟩⟩, rfl⟩)
          · go_wp2_with fail
            go_ret
            exact ⟨⟨_, rfl, fun h => by cases h⟩, rfl⟩
        · have hi1 : ((fr.size : Int) - 1).toNat = fr.size - 1 := by omega
          by_cases hq : fr[fr.size - 1].toNat = 48
          · go_wp2_with fail
            go_ret
            exact ⟨⟨_, rfl, fun h => by cases h⟩, rfl⟩
          · go_wp2_with fail
            all_goals (go_ret; exact ⟨⟨_, rfl, fun _ => ⟨HB1.out (by trivial), HB2.out (by trivial), lead.out (.inl hw), last.out (.inr ⟨hf, hq⟩)⟩⟩, rfl⟩)
      · by_cases hp : wh[0].toNat = 48
        · go_wp2_with fail
          go_ret
          exact ⟨⟨_, rfl, fun h => by cases h⟩, rfl⟩
        · rcases Nat.eq_zero_or_pos fr.size with hf | hf
          · go_wp2_with fail
            all_goals (go_ret; exact ⟨⟨_, rfl, fun _ => ⟨HB1.out (by trivial), HB2.out (by trivial), lead.out (.inr ⟨hw, hp⟩), last.out (.inl hf)⟩⟩, rfl⟩)
          · have hi1 : ((fr.size : Int) - 1).toNat = fr.size - 1 := by omega
            by_cases hq : fr[fr.size - 1].toNat = 48
            · go_wp2_with fail
              go_ret
              exact ⟨⟨_, rfl, fun h => by cases h⟩, rfl⟩
            · go_wp2_with fail
              all_goals (go_ret; exact ⟨⟨_, rfl, fun _ => ⟨HB1.out (by trivial), HB2.out (by trivial), lead.out (.inr ⟨hw, hp⟩), last.out (.inr ⟨hf, hq⟩)⟩⟩, rfl⟩)
end Go.Proofs.Qxb6604458a.Num
