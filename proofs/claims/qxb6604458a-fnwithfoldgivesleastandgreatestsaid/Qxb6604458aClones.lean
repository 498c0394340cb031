import Derived.Test.Qxb6604458aWith3
namespace Go.Proofs.Qxb6604458a.Num
open Go.ChangeShapes Go.WideShapes Go.ChangeAt Go.RowKit

/-- 'n' values lie at 'A'. -/
def Rd (w : World) (A : Option Addr) (n : Nat) (f : Nat → Value) : Prop :=
  0 < n → ∃ b o, A = some ⟨b, o, .none⟩ ∧ ∀ i, i < n → w.cell? ⟨b, o + i, .none⟩ = some (f i)

theorem Rd.below {w w' : World} {A : Option Addr} {n : Nat} {f : Nat → Value} (h : Rd w A n f) (hb : Below w.heap.size w w') : Rd w' A n f := fun hz => by
  obtain ⟨b, o, rfl, hc⟩ := h hz
  refine ⟨b, o, rfl, fun i hi => ?_⟩
  have := hc i hi
  exact (hb.cell (p := ⟨b, o + i, .none⟩) (World.block_lt_of_cell? _ _ this)).trans this

theorem info4 : (Try.prog.info? 4).map (fun i => (i.zero, i.size, i.bytes)) = some (some (.bool false), 1, 1) := by kernel_rfl
theorem info9 : (Try.prog.info? 9).map (fun i => (i.zero, i.size, i.bytes)) = some (some (.string ⟨#[]⟩), 1, 16) := by kernel_rfl
theorem nil37 (w : World) (a : Option Addr) (n c : Nat) : (binOp .eql 37 (.slice a n c) (.slice .none 0 0)).run Try.prog w = .ok (.bool a.isNone) w :=
  Lib.run_eql_slice_nil w 37 4 a n c 0 0 Try.underlying37
theorem nil38 (w : World) (a : Option Addr) (n c : Nat) : (binOp .eql 38 (.slice a n c) (.slice .none 0 0)).run Try.prog w = .ok (.bool a.isNone) w :=
  Lib.run_eql_slice_nil w 38 9 a n c 0 0 Try.underlying38

/-- The first 'k' values are copied. -/
def partF (z : Value) (f : Nat → Value) (k : Nat) (j : Nat) : Value := if j < k then f j else z

/-- 'v' is a clone of n values. -/
def Cloned (w w' : World) (n : Nat) (f : Nat → Value) (v : Value) : Prop := ∃ A' C', v = .slice A' n C' ∧ Rd w' A' n f ∧ Below w.heap.size w w'

set_option maxHeartbeats 400000 in
theorem cloneBools (A : Option Addr) (n C : Nat) (f : Nat → Bool) (w : World) (hA : Rd w A n (fun i => .bool (f i))) (hn : A = .none → n = 0 ∧ C = 0) (hm : n ≤ 65536) :
    Calls Try.prog 16 #[.slice A n C] w fun e w' => ∃ v, e = .returned v ∧ Cloned w w' n (fun i => .bool (f i)) v := by
  have hnil := nil37
  cases A with
  | none =>
    obtain ⟨h1, rfl⟩ := hn rfl
    subst h1
    clear hA hn
    go_enter Try.func16, Try.ntmps16
    go_wp2
    go_ret
    exact ⟨_, rfl, .none, 0, rfl, (fun h => by omega), Below.refl _ _⟩
  | some a =>
    clear hn
    have hmk := run_make_row' (P := Try.prog) 37 4 (.bool false) 1 Try.underlying37 info4 rfl .i64 .i64 n (by omega) (by omega)
    have HA := hid hA
    clear hA
    go_enter Try.func16, Try.ntmps16
    go_wp2
    clear hmk
    go_loopw [4] (fun i wr => ∃ k : Nat, k ≤ n ∧ i = .int .i64 k ∧ Hid (wr.rowIs w.heap.size 4 n (partF (.bool false) (fun i => .bool (f i)) k)) ∧ Hid (Below w.heap.size w wr)) (fun i _ => n - (intOf i).toNat)
    case atStart => exact ⟨0, Nat.zero_le _, rfl, hid ((World.rowIs_made _ _ _ _).congr (fun i _ => by simp [partF])), hid ((Below.refl _ _).alloc (Nat.le_refl _) _)⟩
    case round =>
      obtain ⟨k, hk, rfl, HR, HB⟩ := hrel
      by_cases hlt : k < n
      · obtain ⟨b, o, he, ha⟩ := HA.out (by omega)
        obtain rfl : a = ⟨b, o, .none⟩ := Option.some.inj he
        have e1 := ha k (by omega)
        have e2 : wr.cell? ⟨b, o + k, .none⟩ = some (.bool (f k)) := (HB.out.cell (p := ⟨b, o + k, .none⟩) (World.block_lt_of_cell? _ _ e1)).trans e1
        have e3 := HR.out.cell hlt
        have e4 := HR.out.frozen k
        clear e1 he ha
        go_wp2
        go_roundw
        case rel =>
          refine ⟨k + 1, by omega, by go_num, hid ((HR.out.set k _).congr (fun j hj => ?_)), hid (HB.out.setCell (Nat.le_refl _) _)⟩
          by_cases e : j = k
          · subst e; simp only [if_true, partF]; rw [if_pos (by omega)]
          · rw [if_neg e]; unfold partF
            by_cases e2 : j < k
            · rw [if_pos e2, if_pos (by omega)]
            · rw [if_neg e2, if_neg (by omega)]
        case measure => simp [intOf]; omega
      · go_wp2
        go_ret
        refine ⟨_, rfl, _, _, rfl, ?_, HB.out⟩
        intro _
        refine ⟨_, 0, rfl, fun i hi => ?_⟩
        have e := HR.out.cell (i := i) (by omega)
        rw [Nat.zero_add, e]
        unfold partF
        rw [if_pos (by omega)]

set_option maxHeartbeats 400000 in
theorem cloneStrings (A : Option Addr) (n C : Nat) (f : Nat → ByteArray) (w : World) (hA : Rd w A n (fun i => .string (f i))) (hn : A = .none → n = 0 ∧ C = 0) (hm : n ≤ 65536) :
    Calls Try.prog 17 #[.slice A n C] w fun e w' => ∃ v, e = .returned v ∧ Cloned w w' n (fun i => .string (f i)) v := by
  have hnil := nil38
  cases A with
  | none =>
    obtain ⟨h1, rfl⟩ := hn rfl
    subst h1
    clear hA hn
    go_enter Try.func17, Try.ntmps17
    go_wp2
    go_ret
    exact ⟨_, rfl, .none, 0, rfl, (fun h => by omega), Below.refl _ _⟩
  | some a =>
    clear hn
    have hmk := run_make_row' (P := Try.prog) 38 9 (.string ⟨#[]⟩) 16 Try.underlying38 info9 rfl .i64 .i64 n (by omega) (by omega)
    have HA := hid hA
    clear hA
    go_enter Try.func17, Try.ntmps17
    go_wp2
    clear hmk
    go_loopw [4] (fun i wr => ∃ k : Nat, k ≤ n ∧ i = .int .i64 k ∧ Hid (wr.rowIs w.heap.size 9 n (partF (.string ⟨#[]⟩) (fun i => .string (f i)) k)) ∧ Hid (Below w.heap.size w wr)) (fun i _ => n - (intOf i).toNat)
    case atStart => exact ⟨0, Nat.zero_le _, rfl, hid ((World.rowIs_made _ _ _ _).congr (fun i _ => by simp [partF])), hid ((Below.refl _ _).alloc (Nat.le_refl _) _)⟩
    case round =>
      obtain ⟨k, hk, rfl, HR, HB⟩ := hrel
      by_cases hlt : k < n
      · obtain ⟨b, o, he, ha⟩ := HA.out (by omega)
        obtain rfl : a = ⟨b, o, .none⟩ := Option.some.inj he
        have e1 := ha k (by omega)
        have e2 : wr.cell? ⟨b, o + k, .none⟩ = some (.string (f k)) := (HB.out.cell (p := ⟨b, o + k, .none⟩) (World.block_lt_of_cell? _ _ e1)).trans e1
        have e3 := HR.out.cell hlt
        have e4 := HR.out.frozen k
        clear e1 he ha
        go_wp2
        go_roundw
        case rel =>
          refine ⟨k + 1, by omega, by go_num, hid ((HR.out.set k _).congr (fun j hj => ?_)), hid (HB.out.setCell (Nat.le_refl _) _)⟩
          by_cases e : j = k
          · subst e; simp only [if_true, partF]; rw [if_pos (by omega)]
          · rw [if_neg e]; unfold partF
            by_cases e2 : j < k
            · rw [if_pos e2, if_pos (by omega)]
            · rw [if_neg e2, if_neg (by omega)]
        case measure => simp [intOf]; omega
      · go_wp2
        go_ret
        refine ⟨_, rfl, _, _, rfl, ?_, HB.out⟩
        intro _
        refine ⟨_, 0, rfl, fun i hi => ?_⟩
        have e := HR.out.cell (i := i) (by omega)
        rw [Nat.zero_add, e]
        unfold partF
        rw [if_pos (by omega)]

def anyBool (e : Ending) : Prop := ∃ b, e = .returned (.bool b)

set_option maxHeartbeats 1000000 in
theorem zzBytes (A B F : Option Addr) (na nb nf ca cb cf : Nat) (X Y : Nat → ByteArray) (w : World) (hB : Rd w B nb (fun i => .string (X i))) (hF : Rd w F nf (fun i => .string (Y i)))
    (ha : na ≤ maxLen) (hb : nb ≤ maxLen) (hf : nf ≤ maxLen) (hX : ∀ i, i < nb → (X i).size ≤ maxLen) (hY : ∀ i, i < nf → (Y i).size ≤ maxLen) :
    Calls Try.prog 15 #[.slice A na ca, .slice B nb cb, .slice F nf cf] w fun e w' => anyBool e ∧ w' = w := by
  have HB := hid hB
  have HF := hid hF
  have HX := hid hX
  have HY := hid hY
  clear hB hF hX hY
  unfold maxLen at ha hb hf
  by_cases h1 : 1048576 < (na : Int)
  · go_enter Try.func15, Try.ntmps15
    go_wp2
    go_ret
    exact ⟨⟨_, rfl⟩, rfl⟩
  by_cases h2 : 1048576 < (nb : Int)
  · go_enter Try.func15, Try.ntmps15
    go_wp2
    go_ret
    exact ⟨⟨_, rfl⟩, rfl⟩
  by_cases h3 : 1048576 < (na : Int) + (nb : Int)
  · go_enter Try.func15, Try.ntmps15
    go_wp2
    go_ret
    exact ⟨⟨_, rfl⟩, rfl⟩
  go_enter Try.func15, Try.ntmps15
  go_wp2
  go_loop [7, 8] (fun t i => ∃ (k : Nat) (x : Int), k ≤ nb ∧ i = .int .i64 k ∧ t = .int .i64 x ∧ 0 ≤ x ∧ x ≤ 1048576) (fun _ i => nb - (intOf i).toNat)
  case atStart => exact ⟨0, _, Nat.zero_le _, rfl, rfl, by omega, by omega⟩
  case round =>
    obtain ⟨k, x, hk, rfl, rfl, hx0, hx1⟩ := hrel
    by_cases hlt : k < nb
    · obtain ⟨b, o, rfl, hc⟩ := HB.out (by omega)
      have e1 := hc k hlt
      have z1 := HX.out k hlt
      unfold maxLen at z1
      clear hc
      by_cases h4 : 1048576 < ((X k).size : Int)
      · go_wp2
        go_ret
        exact ⟨⟨_, rfl⟩, rfl⟩
      by_cases h5 : 1048576 < x + ((X k).size : Int)
      · go_wp2
        go_ret
        exact ⟨⟨_, rfl⟩, rfl⟩
      · go_wp2
        go_round
        case rel => exact ⟨k + 1, _, by omega, by go_num, rfl, by omega, by omega⟩
        case measure => simp [intOf]; omega
    · by_cases h6 : 1048576 < (nf : Int)
      · go_wp2
        go_ret
        exact ⟨⟨_, rfl⟩, rfl⟩
      by_cases h7 : 1048576 < x + (nf : Int)
      · go_wp2
        go_ret
        exact ⟨⟨_, rfl⟩, rfl⟩
      go_wp2
      go_loop [7, 9] (fun t i => ∃ (k : Nat) (x : Int), k ≤ nf ∧ i = .int .i64 k ∧ t = .int .i64 x ∧ 0 ≤ x ∧ x ≤ 1048576) (fun _ i => nf - (intOf i).toNat)
      case atStart => exact ⟨0, _, Nat.zero_le _, rfl, rfl, by omega, by omega⟩
      case round =>
        clear hx0 hx1 hk hlt h6 h7 h1 h2 h3
        obtain ⟨k, x, hk, rfl, rfl, hx0, hx1⟩ := hrel
        by_cases hlt : k < nf
        · obtain ⟨b, o, rfl, hc⟩ := HF.out (by omega)
          have e1 := hc k hlt
          have z1 := HY.out k hlt
          unfold maxLen at z1
          clear hc
          by_cases h4 : 1048576 < ((Y k).size : Int)
          · go_wp2
            go_ret
            exact ⟨⟨_, rfl⟩, rfl⟩
          by_cases h5 : 1048576 < x + ((Y k).size : Int)
          · go_wp2
            go_ret
            exact ⟨⟨_, rfl⟩, rfl⟩
          · go_wp2
            go_round
            case rel => exact ⟨k + 1, _, by omega, by go_num, rfl, by omega, by omega⟩
            case measure => simp [intOf]; omega
        · go_wp2
          go_ret
          exact ⟨⟨_, rfl⟩, rfl⟩
end Go.Proofs.Qxb6604458a.Num
