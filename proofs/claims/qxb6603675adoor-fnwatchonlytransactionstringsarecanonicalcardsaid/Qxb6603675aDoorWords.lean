import Derived.Test.Qxb6603675aDoorDec
namespace Go.Proofs.Qxb6603675aDoor.Mem
open Go.ChangeShapes Go.WideShapes Go.ChangeAt Go.RowKit

/-- 'm' words lie at 'A'. -/
def RdU (w : World) (A : Option Addr) (m : Nat) (U : Nat → Nat) : Prop :=
  0 < m → ∃ b o, A = some ⟨b, o, .none⟩ ∧ ∀ i, i < m → w.cell? ⟨b, o + i, .none⟩ = some (.int .u64 (U i))

theorem RdU.below {w w' : World} {A : Option Addr} {m : Nat} {U : Nat → Nat} (h : RdU w A m U) (hb : Below w.heap.size w w') : RdU w' A m U := fun hz => by
  obtain ⟨b, o, rfl, hc⟩ := h hz
  refine ⟨b, o, rfl, fun i hi => ?_⟩
  have := hc i hi
  exact (hb.cell (p := ⟨b, o + i, .none⟩) (World.block_lt_of_cell? _ _ this)).trans this

theorem info40 : (Tryd.prog.info? 40).map (fun i => (i.zero, i.size, i.bytes)) = some (some (.int .u64 0), 1, 8) := by kernel_rfl
theorem nil36 (w : World) (a : Option Addr) (n c : Nat) : (binOp .eql 36 (.slice a n c) (.slice .none 0 0)).run Tryd.prog w = .ok (.bool a.isNone) w :=
  Lib.run_eql_slice_nil w 36 40 a n c 0 0 Tryd.underlying36

/-- The first 'k' words are copied. -/
def partU (U : Nat → Nat) (k : Nat) (j : Nat) : Value := .int .u64 (if j < k then (U j : Int) else 0)

/-- 'v' is a clone of m words. -/
def ClonedU (w w' : World) (m : Nat) (U : Nat → Nat) (v : Value) : Prop := ∃ A' C', v = .slice A' m C' ∧ RdU w' A' m U ∧ Below w.heap.size w w'

set_option maxHeartbeats 400000 in
theorem cloneWords (A : Option Addr) (m C : Nat) (U : Nat → Nat) (w : World) (hA : RdU w A m U) (hn : A = .none → m = 0 ∧ C = 0) (hm : m ≤ 65536) :
    Calls Tryd.prog 13 #[.slice A m C] w fun e w' => ∃ v, e = .returned v ∧ ClonedU w w' m U v := by
  have hnil := nil36
  cases A with
  | none =>
    obtain ⟨h1, rfl⟩ := hn rfl
    subst h1
    clear hA hn
    go_enter Tryd.func13, Tryd.ntmps13
    go_wp2
    go_ret
    exact ⟨_, rfl, .none, 0, rfl, (fun h => by omega), Below.refl _ _⟩
  | some a =>
    clear hn
    have hmk := run_make_row' (P := Tryd.prog) 36 40 (.int .u64 0) 8 Tryd.underlying36 info40 rfl .i64 .i64 m (by omega) (by omega)
    have HA := hid hA
    clear hA
    go_enter Tryd.func13, Tryd.ntmps13
    go_wp2
    clear hmk
    go_loopw [4] (fun i wr => ∃ k : Nat, k ≤ m ∧ i = .int .i64 k ∧ Hid (wr.rowIs w.heap.size 40 m (partU U k)) ∧ Hid (Below w.heap.size w wr)) (fun i _ => m - (intOf i).toNat)
    case atStart => exact ⟨0, Nat.zero_le _, rfl, hid ((World.rowIs_made _ _ _ _).congr (fun i _ => by simp [partU])), hid ((Below.refl _ _).alloc (Nat.le_refl _) _)⟩
    case round =>
      obtain ⟨k, hk, rfl, HR, HB⟩ := hrel
      by_cases hlt : k < m
      · obtain ⟨b, o, he, ha⟩ := HA.out (by omega)
        obtain rfl : a = ⟨b, o, .none⟩ := Option.some.inj he
        have e1 := ha k (by omega)
        have e2 : wr.cell? ⟨b, o + k, .none⟩ = some (.int .u64 (U k)) := (HB.out.cell (p := ⟨b, o + k, .none⟩) (World.block_lt_of_cell? _ _ e1)).trans e1
        have e3 := HR.out.cell hlt
        have e4 := HR.out.frozen k
        obtain ⟨x, hx⟩ : ∃ x : Int, x = (U k : Int) := ⟨_, rfl⟩
        rw [← hx] at e2
        have HX := hid hx
        clear e1 he ha hx
        go_wp2
        go_roundw
        case rel =>
          refine ⟨k + 1, by omega, by go_num, hid ((HR.out.set k _).congr (fun j hj => ?_)), hid (HB.out.setCell (Nat.le_refl _) _)⟩
          by_cases e : j = k
          · subst e; simp only [if_true, partU]; rw [if_pos (by omega), HX.out]
          · rw [if_neg e]; unfold partU; congr 1
            by_cases e2 : j < k
            · rw [if_pos e2, if_pos (by omega)]
            · rw [if_neg e2, if_neg (by omega)]
        case measure => simp [intOf]; omega
      · go_wp2
        go_ret
        refine ⟨_, rfl, _, _, rfl, ?_, HB.out⟩
        intro _
        refine ⟨_, 0, rfl, fun i hi => ?_⟩
        have e := HR.out.cell (i := i) (by omega)
        rw [Nat.zero_add, e]
        unfold partU
        rw [if_pos (by omega)]

/-- The lengths of the first k rows, added up. -/
def sumLen (Z : Nat → List Int) : Nat → Nat
  | 0 => 0
  | k + 1 => sumLen Z k + (Z k).length

theorem sumLen_succ (Z : Nat → List Int) (k : Nat) : sumLen Z (k + 1) = sumLen Z k + (Z k).length := rfl

theorem sumLen_mono (Z : Nat → List Int) {j k : Nat} (h : j ≤ k) : sumLen Z j ≤ sumLen Z k := by
  induction k with
  | zero => have : j = 0 := by omega
            subst this; exact Nat.le_refl _
  | succ k ih =>
    by_cases e : j = k + 1
    · subst e; exact Nat.le_refl _
    · have := ih (by omega)
      rw [sumLen_succ]; omega

theorem le_sumLen (Z : Nat → List Int) {j k : Nat} (h : j < k) : (Z j).length ≤ sumLen Z k := by
  have := sumLen_mono Z (j := j + 1) (k := k) h
  rw [sumLen_succ] at this
  omega

set_option maxHeartbeats 1000000 in
theorem zzBytes2 (V : Option Addr) (n Cv : Nat) (A : Nat → Option Addr) (C : Nat → Nat) (Z : Nat → List Int) (X : Option Addr) (m Cx : Nat) (w : World) (hr : RdAll w V n A C Z) (hn : n ≤ maxLen) (hm : m ≤ maxLen) (hz : ∀ i, i < n → (Z i).length ≤ maxLen) :
    Calls Tryd.prog 12 #[.slice V n Cv, .slice X m Cx] w fun e w' => boolIf e (sumLen Z n ≤ 1048576) ∧ w' = w := by
  have HR := hid hr
  have HZ := hid hz
  clear hr hz
  unfold maxLen at hn hm
  by_cases h2 : 1048576 < (n : Int)
  · go_enter Tryd.func12, Tryd.ntmps12
    go_wp2
    go_ret
    exact ⟨⟨_, rfl, fun h => by cases h⟩, rfl⟩
  go_enter Tryd.func12, Tryd.ntmps12
  go_wp2
  go_loop [5, 6] (fun t i => ∃ (k : Nat) (x : Int), k ≤ n ∧ i = .int .i64 k ∧ t = .int .i64 x ∧ 0 ≤ x ∧ x ≤ 1048576 ∧ Hid (x = n + sumLen Z k)) (fun _ i => n - (intOf i).toNat)
  case atStart => exact ⟨0, _, Nat.zero_le _, rfl, rfl, by omega, by omega, hid (by simp [sumLen])⟩
  case round =>
    obtain ⟨k, x, hk, rfl, rfl, hx0, hx1, HL⟩ := hrel
    by_cases hlt : k < n
    · obtain ⟨b, o, rfl, hc⟩ := HR.out.1 (by omega)
      have e1 := hc k hlt
      have z1 := HZ.out k hlt
      unfold maxLen at z1
      clear hc
      by_cases h4 : 1048576 < ((Z k).length : Int)
      · go_wp2
        go_ret
        exact ⟨⟨_, rfl, fun h => by cases h⟩, rfl⟩
      by_cases h5 : 1048576 < x + ((Z k).length : Int)
      · go_wp2
        go_ret
        exact ⟨⟨_, rfl, fun h => by cases h⟩, rfl⟩
      · go_wp2
        go_round
        case rel => exact ⟨k + 1, _, by omega, by go_num, rfl, by omega, by omega, hid (by have := HL.out; simp only [sumLen]; omega)⟩
        case measure => simp [intOf]; omega
    · have hkn : k = n := by omega
      have HS : Hid (sumLen Z n ≤ 1048576) := by have := HL.out; rw [hkn] at this; show sumLen Z n ≤ 1048576; omega
      clear HL HR HZ
      by_cases h6 : 1048576 < (m : Int)
      · go_wp2
        go_ret
        exact ⟨⟨_, rfl, fun h => by cases h⟩, rfl⟩
      by_cases h7 : 1048576 < x + (m : Int)
      · go_wp2
        go_ret
        exact ⟨⟨_, rfl, fun h => by cases h⟩, rfl⟩
      · go_wp2
        go_ret
        exact ⟨⟨_, rfl, fun _ => HS.out⟩, rfl⟩
end Go.Proofs.Qxb6603675aDoor.Mem
