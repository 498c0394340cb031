import Derived.Test.Qxb6603675aDoorNum
namespace Go.Proofs.Qxb6603675aDoor.Mem
open Go.ChangeShapes Go.WideShapes Go.ChangeAt Go.RowKit

theorem digits_small (c : Nat) (h : c < 10) : digits c = [48 + (c : Int)] := by
  unfold digits
  rw [Lib.decDigits, dif_pos h]
  simp
  omega

theorem digits_big (c : Nat) (h : ¬ c < 10) : digits c = digits (c / 10) ++ [48 + ((c % 10 : Nat) : Int)] := by
  unfold digits
  rw [Lib.decDigits, dif_neg h]
  simp
  omega

theorem digits_pos (u : Nat) : 1 ≤ (digits u).length := by rw [digits_len]; exact Lib.nDigits_pos u

/-- The buffer while its last places hold 'low'. -/
def bufAt (low : List Int) (t : Nat) : Value := .int .u8 (if 20 - low.length ≤ t then low.getD (t - (20 - low.length)) 0 else 0)

theorem bufAt_cons (v : Int) (low : List Int) (h : low.length ≤ 19) (t : Nat) : (if t = 19 - low.length then .int .u8 v else bufAt low t) = bufAt (v :: low) t := by
  unfold bufAt
  rw [List.length_cons]
  by_cases e : t = 19 - low.length
  · rw [if_pos e, if_pos (by omega), show t - (20 - (low.length + 1)) = 0 by omega]
    rfl
  · rw [if_neg e]
    by_cases e2 : 20 - low.length ≤ t
    · rw [if_pos e2, if_pos (by omega), show t - (20 - (low.length + 1)) = (t - (20 - low.length)) + 1 by omega, List.getD_cons_succ]
    · rw [if_neg e2, if_neg (by omega)]

/-- The buffer's block, the digits so far, what is left. -/
structure DecMid (w wr : World) (u c : Nat) (low : List Int) : Prop where
  row : wr.rowIs w.heap.size 64 20 (bufAt low)
  eq : digits u = digits c ++ low
  below : Below w.heap.size w wr

theorem DecMid.len {w wr : World} {u c : Nat} {low : List Int} (h : DecMid w wr u c low) (hu : u < 18446744073709551616) : low.length ≤ 19 := by
  have e := congrArg List.length h.eq
  rw [List.length_append] at e
  have h1 := digits_pos c
  have h2 := nDigits_le u hu
  rw [← digits_len] at h2
  omega

theorem zeros20 (i : Nat) (hi : i < 20) : (#[Value.int .u8 0, .int .u8 0, .int .u8 0, .int .u8 0, .int .u8 0, .int .u8 0, .int .u8 0, .int .u8 0, .int .u8 0, .int .u8 0, .int .u8 0, .int .u8 0, .int .u8 0, .int .u8 0, .int .u8 0, .int .u8 0, .int .u8 0, .int .u8 0, .int .u8 0, .int .u8 0] : Array Value)[i]? = some (bufAt [] i) := by
  have e : (#[Value.int .u8 0, .int .u8 0, .int .u8 0, .int .u8 0, .int .u8 0, .int .u8 0, .int .u8 0, .int .u8 0, .int .u8 0, .int .u8 0, .int .u8 0, .int .u8 0, .int .u8 0, .int .u8 0, .int .u8 0, .int .u8 0, .int .u8 0, .int .u8 0, .int .u8 0, .int .u8 0] : Array Value) = Array.replicate 20 (.int .u8 0) := rfl
  rw [e, Array.getElem?_replicate, if_pos hi]
  simp [bufAt]

/-- One digit more. -/
theorem DecMid.step {w wr : World} {u c : Nat} {low : List Int} (h : DecMid w wr u c low) (hl : low.length ≤ 19) (hc : ¬ c < 10) : DecMid w (wr.setCell ⟨w.heap.size, 19 - low.length, .none⟩ (.int .u8 (48 + ((c % 10 : Nat) : Int)))) u (c / 10) ((48 + ((c % 10 : Nat) : Int)) :: low) := by
  refine ⟨(h.row.set _ _).congr (fun t _ => bufAt_cons _ _ hl t), ?_, h.below.setCell (Nat.le_refl _) _⟩
  rw [h.eq, digits_big c hc, List.append_assoc]
  rfl

/-- The last digit: the buffer's tail is the numeral. -/
theorem DecMid.last {w wr : World} {u c : Nat} {low : List Int} (h : DecMid w wr u c low) (hl : low.length ≤ 19) (hc : c < 10) :
    (wr.setCell ⟨w.heap.size, 19 - low.length, .none⟩ (.int .u8 (48 + (c : Int)))).rowIs w.heap.size 64 20 (bufAt (digits u)) ∧ (digits u).length = low.length + 1 := by
  have e : digits u = (48 + (c : Int)) :: low := by rw [h.eq, digits_small c hc]; rfl
  rw [e]
  exact ⟨(h.row.set _ _).congr (fun t _ => bufAt_cons _ _ hl t), rfl⟩

set_option maxHeartbeats 1000000 in
theorem isDecimal (A : Option Addr) (C u : Nat) (hu : u < 18446744073709551616) (w : World) (hr : RdB w A (digits u)) :
    Calls Tryd.prog 16 #[.slice A (digits u).length C, .int .u64 u] w fun e w' => e = .returned (.bool true) ∧ Below w.heap.size w w' := by
  have hL1 := digits_pos u
  have hL2 : (digits u).length ≤ 20 := by rw [digits_len]; exact nDigits_le u hu
  obtain ⟨b, o, rfl, hcell⟩ := hr hL1
  have HR := hid hcell
  have hu0 : (0 : Int) ≤ (u : Int) := by omega
  have hu1 : (u : Int) ≤ 18446744073709551615 := by omega
  have HU := hid hu
  obtain ⟨x, hx⟩ : ∃ x : Int, x = (u : Int) := ⟨_, rfl⟩
  rw [← hx] at hu0 hu1 ⊢
  have HX := hid hx
  obtain ⟨L, hL⟩ : ∃ L : Nat, L = (digits u).length := ⟨_, rfl⟩
  rw [← hL] at hL1 hL2 ⊢
  have HL := hid hL
  clear hr hx hu hcell hL
  go_enter Tryd.func16, Tryd.ntmps16
  go_wp2
  go_loopw [6, 1] (fun i n wr => ∃ (c p : Nat) (low : List Int) (y : Int), i = .int .i64 p ∧ 1 ≤ p ∧ p ≤ 20 ∧ Hid (p + low.length = 20) ∧ n = .int .u64 y ∧ Hid (y = (c : Int)) ∧ 0 ≤ y ∧ y ≤ 18446744073709551615 ∧ Hid (DecMid w wr u c low)) (fun i _ _ => (intOf i).toNat)
  case atStart =>
    refine ⟨u, 20, [], x, rfl, by omega, by omega, hid rfl, rfl, HX, hu0, hu1, hid ⟨?_, by simp, (Below.refl _ _).alloc (Nat.le_refl _) _⟩⟩
    exact World.rowIs_alloc w _ 64 (bufAt []) (fun i hi => zeros20 i hi)
  case round =>
    obtain ⟨c, p, low, y, rfl, hp1, hp2, HP, rfl, HY, hy0, hy1, HM⟩ := hrel
    have hl : low.length ≤ 19 := HM.out.len HU.out
    have hp : p - 1 = 19 - low.length := by have := HP.out; omega
    have e3 := HM.out.row.cell (i := p - 1) (by omega)
    have e4 := HM.out.row.frozen (p - 1)
    by_cases h10 : y < 10
    · have hc : c < 10 := by have := HY.out; omega
      obtain ⟨r1, r2⟩ := HM.out.last hl hc
      rw [← hp, ← HY.out] at r1
      have hb := HM.out.below.setCell (p := ⟨w.heap.size, p - 1, .none⟩) (Nat.le_refl _) (.int .u8 (48 + y))
      have k1 : (L : Int) ≤ 21 - (p : Int) := by have := HL.out; have := HP.out; omega
      have k2 : 21 - (p : Int) ≤ (L : Int) := by have := HL.out; have := HP.out; omega
      have hy10 : y % 10 = y := by omega
      have HR1 := hid r1
      have HB1 := hid hb
      clear r1 r2 hb HM hp hl hc
      go_wp2
      generalize wr.setCell ⟨w.heap.size, p - 1, .none⟩ (.int .u8 (48 + y)) = W1 at HR1 HB1 ⊢
      clear e3 e4 HY HP h10 hy10 hy0 hy1
      go_loopw [7] (fun j wr2 => ∃ k q : Nat, k ≤ L ∧ j = .int .i64 k ∧ wr2 = W1.drewN q) (fun j _ => L - (intOf j).toNat)
      case atStart => exact ⟨0, 0, Nat.zero_le _, rfl, rfl⟩
      case round =>
        obtain ⟨k, q, hk, rfl, rfl⟩ := hrel
        by_cases hlt : k < L
        · have e0 := HR.out k (by have := HL.out; omega)
          have e1 : W1.cell? ⟨b, o + k, .none⟩ = some (.int .u8 ((digits u).getD k 0)) := (HB1.out.cell (p := ⟨b, o + k, .none⟩) (World.block_lt_of_cell? _ _ e0)).trans e0
          have e2 : W1.cell? ⟨w.heap.size, p - 1 + k, .none⟩ = some (.int .u8 ((digits u).getD k 0)) := by
            rw [HR1.out.cell (i := p - 1 + k) (by omega)]
            unfold bufAt
            rw [if_pos (by have := HL.out; omega), show p - 1 + k - (20 - (digits u).length) = k by have := HL.out; omega]
          generalize (digits u).getD k 0 = dk at e1 e2
          have hw := wrap_in ((p : Int) - 1 + (k : Int)) (by omega)
          have hi1 : (0 : Int) ≤ (p : Int) - 1 + (k : Int) := by omega
          have hi2 : (p : Int) - 1 + (k : Int) < 20 := by omega
          have hi3 : ((p : Int) - 1 + (k : Int)).toNat = p - 1 + k := by omega
          clear e0
          go_wp2
          go_quiet (fail)
          go_wp2
          go_roundw
          case rel => exact ⟨k + 1, _, by omega, by go_num, rfl⟩
          case measure => simp [intOf]; omega
        · go_wp2
          go_ret
          exact ⟨rfl, below_drewN HB1.out _⟩
    · have hc : ¬ c < 10 := by have := HY.out; omega
      have hst := HM.out.step hl hc
      have ey : ((c % 10 : Nat) : Int) = y % 10 := by have := HY.out; omega
      rw [← hp, ey] at hst
      have HS := hid hst
      clear hst hp HM
      go_wp2
      go_roundw
      case rel => exact ⟨c / 10, p - 1, _, _, by go_num, by have h1 := HS.out.len HU.out; have h2 := HP.out; rw [List.length_cons] at h1; omega, by omega, hid (by have := HP.out; simp; omega), rfl, hid (by have := HY.out; omega), by omega, by omega, HS⟩
      case measure => simp [intOf]; omega
end Go.Proofs.Qxb6603675aDoor.Mem
