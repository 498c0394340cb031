import Derived.Test.Qxb6604458aRows
import Derived.WalkKit
import Derived.ProofKit
import Derived.OpenShut
import Derived.ShutString
import Derived.Deep.QuietTactic
import Derived.BigQuiet
import Derived.Handy
import Derived.Deep.OwnRows
import Derived.Lib.SliceRun
import Derived.Test.Qxb6604458aNum
namespace Go.Proofs.Qxb6604458a.Num
open Go.ChangeShapes Go.WideShapes Go.ChangeAt Go.RowKit

theorem hid {p : Prop} (h : p) : Hid p := h
def boolIf (e : Ending) (p : Prop) : Prop := ∃ b, e = .returned (.bool b) ∧ (b = true → p)
/-- Where 'p' holds, the answer is yes. -/
def boolOf (e : Ending) (p : Prop) : Prop := ∃ b, e = .returned (.bool b) ∧ (p → b = true)

def Digits (s : ByteArray) : Prop := ∀ (j : Nat) (y : UInt8), s.data.toList[j]? = some y → 48 ≤ y.toNat

theorem get_some (s : ByteArray) (i : Nat) (h : i < s.size) : s.data.toList[i]? = some s[i] := by
  have h' : i < s.data.toList.length := by simpa using h
  rw [List.getElem?_eq_getElem h']
  rfl

theorem get_lt {s : ByteArray} {i : Nat} {y : UInt8} (h : s.data.toList[i]? = some y) : i < s.size := by
  have := (List.getElem?_eq_some_iff.1 h).1
  simpa using this

structure Canon (x : N) : Prop where
  wd : Digits x.whole
  fd : Digits x.frac
  lead : ∀ y, x.whole.data.toList[0]? = some y → y ≠ 48
  last : ∀ y, 0 < x.frac.size → x.frac.data.toList[x.frac.size - 1]? = some y → y ≠ 48

set_option maxHeartbeats 400000 in
theorem isDigits (s : ByteArray) (w : World) (hs : s.size ≤ 1048576) :
    Calls Try.prog 23 #[.string s] w fun e w' => boolIf e (Digits s) ∧ w' = w := by
  go_enter Try.func23, Try.ntmps23
  go_wp2_with fail
  go_loop [3] (fun i => ∃ k : Nat, k ≤ s.size ∧ i = .int .i64 k ∧ Hid (∀ j y, j < k → s.data.toList[j]? = some y → 48 ≤ y.toNat)) (fun i => s.size - (intOf i).toNat)
  case atStart => exact ⟨0, Nat.zero_le _, rfl, hid (fun _ _ h => absurd h (Nat.not_lt_zero _))⟩
  case round =>
    obtain ⟨k, hk, rfl, HD⟩ := hrel
    by_cases hlt : k < s.size
    · have hg := hid (get_some s k hlt)
      by_cases h1 : s[k].toNat < 48
      · go_wp2_with fail
        go_ret
        exact ⟨⟨_, rfl, fun h => by cases h⟩, rfl⟩
      by_cases h2 : 57 < s[k].toNat
      · go_wp2_with fail
        go_ret
        exact ⟨⟨_, rfl, fun h => by cases h⟩, rfl⟩
      go_wp2_with fail
      go_round
      case rel =>
        refine ⟨k + 1, by omega, by go_num, hid (fun j y hj hy => ?_)⟩
        by_cases e : j = k
        · subst e
          have := hg.out.symm.trans hy
          simp only [Option.some.injEq] at this
          rw [← this]; omega
        · exact HD.out j y (by omega) hy
      case measure => simp [intOf]; omega
    · go_wp2_with fail
      go_ret
      exact ⟨⟨_, rfl, fun _ j y hy => HD.out j y (by have := get_lt hy; omega) hy⟩, rfl⟩
end Go.Proofs.Qxb6604458a.Num
