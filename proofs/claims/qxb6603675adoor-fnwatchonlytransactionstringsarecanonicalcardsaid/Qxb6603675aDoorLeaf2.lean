import Derived.Test.Qxb6603675aDoorLeaf
namespace Go.Proofs.Qxb6603675aDoor.Mem
open Go.ChangeShapes Go.WideShapes Go.ChangeAt Go.RowKit

/-- The call returned a bool. -/
def isBool (e : Ending) : Prop := ∃ b, e = .returned (.bool b)
/-- The call returned a bool, and if it is true, p holds. -/
def boolIf (e : Ending) (p : Prop) : Prop := ∃ b, e = .returned (.bool b) ∧ (b = true → p)

set_option maxHeartbeats 400000 in
theorem nameByte (x : Int) (w : World) : Calls Tryd.prog 6 #[.int .u8 x] w fun e w' => isBool e ∧ w' = w := by
  go_enter Tryd.func6, Tryd.ntmps6
  go_wp2
  all_goals
    go_ret
    exact ⟨⟨_, rfl⟩, rfl⟩

set_option maxHeartbeats 1000000 in
theorem zzBytes (s : ByteArray) (V : Option Addr) (n Cv : Nat) (A : Nat → Option Addr) (C : Nat → Nat) (Z : Nat → List Int) (w : World) (hr : RdAll w V n A C Z) (hs : s.size ≤ maxLen) (hn : n ≤ maxLen) (hz : ∀ i, i < n → (Z i).length ≤ maxLen) :
    Calls Tryd.prog 5 #[.string s, .slice V n Cv] w fun e w' => boolIf e (∀ i, i < n → (Z i).length ≤ 1048576) ∧ w' = w := by
  have HR := hid hr
  have HZ := hid hz
  clear hr hz
  unfold maxLen at hs hn
  by_cases h1 : 1048576 < (s.size : Int)
  · go_enter Tryd.func5, Tryd.ntmps5
    go_wp2
    go_ret
    exact ⟨⟨_, rfl, fun h => by cases h⟩, rfl⟩
  by_cases h2 : 1048576 < (n : Int)
  · go_enter Tryd.func5, Tryd.ntmps5
    go_wp2
    go_ret
    exact ⟨⟨_, rfl, fun h => by cases h⟩, rfl⟩
  by_cases h3 : 1048576 < (s.size : Int) + (n : Int)
  · go_enter Tryd.func5, Tryd.ntmps5
    go_wp2
    go_ret
    exact ⟨⟨_, rfl, fun h => by cases h⟩, rfl⟩
  go_enter Tryd.func5, Tryd.ntmps5
  go_wp2
  go_loop [5, 6] (fun t i => ∃ (k : Nat) (x : Int), k ≤ n ∧ i = .int .i64 k ∧ t = .int .i64 x ∧ 0 ≤ x ∧ x ≤ 1048576 ∧ Hid (∀ j, j < k → (Z j).length ≤ 1048576)) (fun _ i => n - (intOf i).toNat)
  case atStart => exact ⟨0, _, Nat.zero_le _, rfl, rfl, by omega, by omega, hid (fun j h => absurd h (Nat.not_lt_zero _))⟩
  case round =>
    obtain ⟨k, x, hk, rfl, rfl, hx0, hx1, HL⟩ := hrel
    by_cases hlt : k < n
    · obtain ⟨b, o, rfl, hc⟩ := HR.out.1 (by omega)
      have e1 := hc k hlt
      have z1 := HZ.out k hlt
      unfold maxLen at z1
      clear hc
      by_cases h4 : 1048576 < ((Z k).length : Int)
      · go_wp2
        go_ret
        exact ⟨⟨_, rfl, fun h => by cases h⟩, rfl⟩
      by_cases h5 : 1048576 < x + ((Z k).length : Int)
      · go_wp2
        go_ret
        exact ⟨⟨_, rfl, fun h => by cases h⟩, rfl⟩
      · go_wp2
        go_round
        case rel => exact ⟨k + 1, _, by omega, by go_num, rfl, by omega, by omega, hid (fun j hj => by by_cases e : j = k; (subst e; omega); exact HL.out j (by omega))⟩
        case measure => simp [intOf]; omega
    · go_wp2
      go_ret
      exact ⟨⟨_, rfl, fun _ i hi => HL.out i (by omega)⟩, rfl⟩
end Go.Proofs.Qxb6603675aDoor.Mem
