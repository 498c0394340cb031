import Derived.Test.Qxb6603675aDoorStr
namespace Go.Proofs.Qxb6603675aDoor.Mem
open Go.ChangeShapes Go.WideShapes Go.ChangeAt Go.RowKit

theorem wrap_in (x : Int) (h : -9223372036854775808 ≤ x ∧ x ≤ 9223372036854775807) : IntKind.i64.wrap x = x := by
  rw [IntKind.wrap_i64]
  omega

theorem hid {p : Prop} (h : p) : Hid p := h

set_option maxHeartbeats 1000000 in
theorem strings (s : ByteArray) (k : Nat) (V : Option Addr) (n C : Nat) (A : Nat → Option Addr) (Cs : Nat → Nat) (Z : Nat → List Int) (w : World) (hs : w.cell? ⟨k, 0, .none⟩ = some (.string s)) (hr : RdAll w V n A Cs Z) (hn : n ≤ 65536) :
    Calls Tryd.prog 9 #[cmd k V n C] w fun e w' => ∃ v, e = .returned v ∧ OutIs w w' (bytes s) n Z v := by
  have hb : Below w.heap.size w (w.alloc (.cells #[.pointer (some ⟨k, 0, .none⟩), .slice V n C, .pointer .none, .pointer .none, .slice .none 0 0] 31)) := (Below.refl _ _).alloc (Nat.le_refl _) _
  have c := strings19 s k V n C A Cs Z _ ((hb.cell (p := ⟨k, 0, .none⟩) (World.block_lt_of_cell? _ _ hs)).trans hs) (hr.below hb) hn
  have HC := hid c
  clear c hs hr
  unfold cmd at HC ⊢
  go_enter Tryd.func9, Tryd.ntmps9
  go_wp2_with fail
  refine HC.out.mono ?_
  rintro e w' ⟨v, rfl, ho⟩
  go_wp2_with fail
  go_ret
  exact ⟨_, rfl, ho.of hb⟩

set_option maxHeartbeats 400000 in
theorem isNameThenArgs (s : ByteArray) (g c : Nat) (V : Option Addr) (n Cv : Nat) (A' A : Nat → Option Addr) (C' C : Nat → Nat) (Z : Nat → List Int) (w : World) (ho : RdAll w (some ⟨g, 0, .none⟩) (n + 1) A' C' (fun j => if j = 0 then bytes s else Z (j - 1)))
    (hr : RdAll w V n A C Z) (hn : n ≤ 65536) (hz : ∀ i, i < n → (Z i).length ≤ 1048576) (h1 : 0 < s.size) (h2 : s.size ≤ 1048576) :
    Calls Tryd.prog 10 #[.slice (some ⟨g, 0, .none⟩) (n + 1) c, .string s, .slice V n Cv] w fun e w' => e = .returned (.bool true) ∧ ∃ q, w' = w.drewN q := by
  obtain ⟨g', o', he, hout⟩ := ho.1 (by omega)
  simp only [Option.some.injEq, Addr.mk.injEq] at he
  obtain ⟨rfl, rfl, -⟩ := he
  have c0 := hout 0 (by omega)
  simp only [Nat.add_zero, if_true, bytes_len] at c0
  have r0 := ho.2 0 (by omega)
  simp only [if_true] at r0
  have HO : Hid (∀ i, i < n + 1 → w.cell? ⟨g, 0 + i, .none⟩ = some (.slice (A' i) (if i = 0 then bytes s else Z (i - 1)).length (C' i))) := hout
  have HR := hid hr
  have HZ := hid hz
  have HQ := hid ho.2
  clear hr hout ho hz
  go_enter Tryd.func10, Tryd.ntmps10
  go_wp2_with fail
  refine (bytesIsString _ _ s _ r0 h2 h1).mono ?_
  rintro e w1 ⟨rfl, q0, rfl⟩
  go_wp2_with fail
  clear c0 r0
  go_loopw [7] (fun i wr => ∃ k q : Nat, k ≤ n ∧ i = .int .i64 k ∧ wr = w.drewN q) (fun i _ => n - (intOf i).toNat)
  case atStart => exact ⟨0, q0, Nat.zero_le _, rfl, rfl⟩
  case round =>
    obtain ⟨k, q, hk, rfl, hq⟩ := hrel
    by_cases hlt : k < n
    · obtain ⟨b, o, rfl, hc⟩ := HR.out.1 (by omega)
      have e1 : wr.cell? ⟨b, o + k, .none⟩ = some (.slice (A k) (Z k).length (C k)) := by rw [hq]; exact hc k hlt
      have e2 : wr.cell? ⟨g, 0 + (k + 1), .none⟩ = some (.slice (A' (k + 1)) (if k + 1 = 0 then bytes s else Z (k + 1 - 1)).length (C' (k + 1))) := by rw [hq]; exact HO.out (k + 1) (by omega)
      simp only [Nat.succ_ne_zero, if_false, Nat.add_sub_cancel, Nat.zero_add] at e2
      have r1 : RdB wr (A k) (Z k) := by rw [hq]; exact (HR.out.2 k hlt).drewN q
      have r2 : RdB wr (A' (k + 1)) (if k + 1 = 0 then bytes s else Z (k + 1 - 1)) := by rw [hq]; exact (HQ.out (k + 1) (by omega)).drewN q
      simp only [Nat.succ_ne_zero, if_false, Nat.add_sub_cancel] at r2
      have z1 := HZ.out k hlt
      have hw := wrap_in ((k : Int) + 1) (by omega)
      have hi1 : (0 : Int) ≤ (k : Int) + 1 := by omega
      have hi2 : (k : Int) + 1 < (n : Int) + 1 := by omega
      have hi3 : ((k : Int) + 1).toNat = k + 1 := by omega
      have HW := hid hq
      clear hc hq
      go_wp2_with fail
      go_quiet ((go_at_call 17; refine Calls.quiet_of (bytesEqual _ _ _ _ (Z k) _ ?_ ?_ z1); exact r2.drewN _; exact r1.drewN _))
      go_wp2_with fail
      go_roundw
      case rel => exact ⟨k + 1, _, by omega, by go_num, by rw [HW.out, World.drewN_drewN]⟩
      case measure => simp [intOf]; omega
    · go_wp2_with fail
      go_ret
      exact ⟨rfl, q, rfl⟩
end Go.Proofs.Qxb6603675aDoor.Mem
