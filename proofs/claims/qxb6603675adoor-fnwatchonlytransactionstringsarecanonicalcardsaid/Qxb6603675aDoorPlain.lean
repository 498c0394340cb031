import Derived.Test.Qxb6603675aDoorLeaf2
namespace Go.Proofs.Qxb6603675aDoor.Mem
open Go.ChangeShapes Go.WideShapes Go.ChangeAt Go.RowKit

/-- The command lies, as a variable, in block 'kc'. -/
structure CmdAt (w : World) (kc k : Nat) (V : Option Addr) (n C : Nat) : Prop where
  c0 : w.cell? ⟨kc, 0, .none⟩ = some (.pointer (some ⟨k, 0, .none⟩))
  c1 : w.cell? ⟨kc, 1, .none⟩ = some (.slice V n C)
  c2 : w.cell? ⟨kc, 2, .none⟩ = some (.pointer .none)
  c3 : w.cell? ⟨kc, 3, .none⟩ = some (.pointer .none)
  c4 : w.cell? ⟨kc, 4, .none⟩ = some (.slice .none 0 0)

theorem cell_below {w w' : World} (hb : Below w.heap.size w w') {a : Addr} {v : Value} (h : w.cell? a = some v) : w'.cell? a = some v := (hb.cell (World.block_lt_of_cell? _ _ h)).trans h

theorem CmdAt.below {w w' : World} {kc k : Nat} {V : Option Addr} {n C : Nat} (h : CmdAt w kc k V n C) (hb : Below w.heap.size w w') : CmdAt w' kc k V n C :=
  ⟨cell_below hb h.c0, cell_below hb h.c1, cell_below hb h.c2, cell_below hb h.c3, cell_below hb h.c4⟩

/-- While the list that came out is overwritten: the first k are done. -/
structure Over (w3 wr : World) (g n k : Nat) : Prop where
  below : Below w3.heap.size w3 wr
  cells : ∀ j, k ≤ j → j < n + 1 → ∃ A L C, wr.cell? ⟨g, j, .none⟩ = some (.slice A L C) ∧ L ≤ 1048576
  free : ∀ j, j < n + 1 → wr.frozen? ⟨g, j, .none⟩ = false
  new : w3.heap.size ≤ g
  there : g < wr.heap.size

theorem Over.step {w3 wr : World} {g n k : Nat} (h : Over w3 wr g n k) (o : Obj) (v : Value) : Over w3 ((wr.setCell ⟨g, k, .none⟩ v).alloc o) g n (k + 1) := by
  have hb : Below (wr.setCell ⟨g, k, .none⟩ v).heap.size (wr.setCell ⟨g, k, .none⟩ v) ((wr.setCell ⟨g, k, .none⟩ v).alloc o) := (Below.refl _ _).alloc (Nat.le_refl _) _
  have hs : (wr.setCell ⟨g, k, .none⟩ v).heap.size = wr.heap.size := by simp
  refine ⟨((h.below.setCell h.new v).alloc (by rw [hs]; exact h.below.size) o), fun j h1 h2 => ?_, fun j h1 => ?_, h.new, by simp; have := h.there; omega⟩
  · obtain ⟨A, L, C, h3, h4⟩ := h.cells j (by omega) h2
    refine ⟨A, L, C, cell_below hb ?_, h4⟩
    rw [World.cell?_setCell_other _ _ _ _ (by intro e; have := congrArg Addr.off e; simp at this; omega)]
    exact h3
  · rw [hb.frozen (p := ⟨g, j, .none⟩) (by rw [hs]; exact h.there), World.frozen?_setCell]
    exact h.free j h1

theorem Over.start {w3 w4 w6 : World} {nm : List Int} {n g : Nat} {A' : Nat → Option Addr} {C' : Nat → Nat} {Z : Nat → List Int} (hg : w3.heap.size ≤ g) (hf : ∀ j, j < n + 1 → w4.frozen? ⟨g, j, .none⟩ = false)
    (hr : RdAll w4 (some ⟨g, 0, .none⟩) (n + 1) A' C' (fun j => if j = 0 then nm else Z (j - 1))) (hb : Below w3.heap.size w3 w4) (hb2 : Below w4.heap.size w4 w6) (hnm : nm.length ≤ 1048576) (hz : ∀ i, i < n → (Z i).length ≤ 1048576) : Over w3 w6 g n 0 := by
  obtain ⟨g', o', he, hc⟩ := hr.1 (by omega)
  simp only [Option.some.injEq, Addr.mk.injEq] at he
  obtain ⟨rfl, rfl, -⟩ := he
  have c0 := hc 0 (by omega)
  have hlt : g < w4.heap.size := World.block_lt_of_cell? _ _ c0
  refine ⟨hb.trans (hb2.mono hb.size), fun j _ h2 => ?_, fun j h1 => (hb2.frozen (p := ⟨g, j, .none⟩) hlt).trans (hf j h1), hg, Nat.lt_of_lt_of_le hlt hb2.size⟩
  have c := hc j h2
  rw [Nat.zero_add] at c
  refine ⟨_, _, _, cell_below hb2 c, ?_⟩
  by_cases e : j = 0
  · simp [e, hnm]
  · simp only [if_neg e]
    exact hz _ (by omega)

set_option maxHeartbeats 2000000 in
theorem plain (s : ByteArray) (V : Option Addr) (n Cv : Nat) (A : Nat → Option Addr) (C : Nat → Nat) (Z : Nat → List Int) (w : World) (hr : RdAll w V n A C Z) (hV : V = .none → n = 0 ∧ Cv = 0)
    (hA : ∀ i, i < n → A i = .none → (Z i).length = 0 ∧ C i = 0) (hs : s.size ≤ maxLen) (hn : n ≤ maxLen) (hz : ∀ i, i < n → (Z i).length ≤ maxLen) :
    Calls Tryd.prog 3 #[.string s, .slice V n Cv] w fun e w' => e = .returned (.bool true) ∧ Below w.heap.size w w' := by
  have HC := hid (zzBytes s V n Cv A C Z w hr hs hn hz)
  have HR := hid hr
  have HZ := hid hz
  have HV := hid hV
  have HA := hid hA
  clear hr hV hA hz
  unfold maxLen at hs hn
  go_enter Tryd.func3, Tryd.ntmps3
  go_wp2_with fail
  refine HC.out.mono ?_
  rintro e w' ⟨⟨b, rfl, hL0⟩, rfl⟩
  have HL2 := hid hL0
  clear HC hL0
  cases b
  · go_wp2_with fail
    go_ret
    exact ⟨rfl, Below.refl _ _⟩
  replace HL2 : Hid (∀ i, i < n → (Z i).length ≤ 1048576) := HL2.out rfl
  by_cases h1 : 1048576 < (s.size : Int)
  · go_wp2_with fail
    go_ret
    exact ⟨rfl, Below.refl _ _⟩
  by_cases h2 : 65536 < (n : Int)
  · go_wp2_with fail
    go_ret
    exact ⟨rfl, Below.refl _ _⟩
  by_cases h3 : 1048576 < (s.size : Int) + 24 * (n : Int)
  · go_wp2_with fail
    go_ret
    exact ⟨rfl, Below.refl _ _⟩
  go_wp2_with fail
  go_loop [5, 6] (fun t i => ∃ (k : Nat) (x : Int), k ≤ n ∧ i = .int .i64 k ∧ t = .int .i64 x ∧ 0 ≤ x ∧ x ≤ 1048576) (fun _ i => n - (intOf i).toNat)
  case atStart => exact ⟨0, _, Nat.zero_le _, rfl, rfl, by omega, by omega⟩
  case round =>
    obtain ⟨k, x, hk, rfl, rfl, hx0, hx1⟩ := hrel
    by_cases hlt : k < n
    · obtain ⟨b, o, rfl, hc⟩ := HR.out.1 (by omega)
      have e1 := hc k hlt
      have z1 := HL2.out k hlt
      clear hc
      by_cases h5 : 1048576 < x + ((Z k).length : Int)
      · go_wp2_with fail
        go_ret
        exact ⟨rfl, Below.refl _ _⟩
      · go_wp2_with fail
        go_round
        case rel => exact ⟨k + 1, _, by omega, by go_num, rfl, by omega, by omega⟩
        case measure => simp [intOf]; omega
    · by_cases h0 : (s.size : Int) ≤ 0
      · go_wp2_with fail
        go_ret
        exact ⟨rfl, Below.refl _ _⟩
      go_wp2_with fail
      clear hx0 hx1 hk hlt HZ
      go_loop [7] (fun i => ∃ (k : Nat), k ≤ s.size ∧ i = .int .i64 k) (fun i => s.size - (intOf i).toNat)
      case atStart => exact ⟨0, Nat.zero_le _, rfl⟩
      case round =>
        obtain ⟨k2, hk2, rfl⟩ := hrel
        by_cases hlt : k2 < s.size
        · go_wp2_with fail
          refine (nameByte _ _).mono ?_
          rintro e w' ⟨⟨b, rfl⟩, rfl⟩
          cases b
          · go_wp2_with fail
            go_ret
            exact ⟨rfl, Below.refl _ _⟩
          · go_wp2_with fail
            go_round
            case rel => exact ⟨k2 + 1, by omega, by go_num⟩
            case measure => simp [intOf]; omega
        · go_wp2_with fail
          clear hk2 hlt
          refine (cloneAll V n Cv A C Z _ HR.out HV.out HA.out (by omega) HL2.out).mono ?_
          rintro e w1 ⟨v, rfl, V1, Cv1, A1, C1, rfl, r1, -, -, -, -, b1⟩
          have HB1 := hid b1
          have HR1 := hid r1
          have HRb := hid (HR.out.below b1)
          clear b1 r1 HR
          go_wp2_with fail
          refine (cloneAll V n Cv A C Z _ HRb.out HV.out HA.out (by omega) HL2.out).mono ?_
          rintro e w2 ⟨v, rfl, V2, Cv2, A2, C2, rfl, r2, -, -, -, -, b2⟩
          have HB2 := hid (HB1.out.trans (b2.mono HB1.out.size))
          have HR2 := hid (HR1.out.below b2)
          have HA2 := hid r2
          clear b2 r2 HRb HR1 HB1 HA HV
          go_wp2_with fail
          refine (newCommand s V2 n Cv2 _).mono ?_
          rintro e w3 ⟨rfl, n3, b3⟩
          have HB3 := hid (HB2.out.trans (b3.mono HB2.out.size))
          have HR3 := hid (HR2.out.below b3)
          have HA3 := hid (HA2.out.below b3)
          have HN3 := hid n3
          clear b3 n3 HR2 HA2 HB2
          unfold cmd
          generalize w2.heap.size + 1 = ks at HN3 ⊢
          go_wp2_with fail
          have b4 : Below w3.heap.size w3 (w3.alloc (.cells #[.pointer (some ⟨ks, 0, .none⟩), .slice V2 n Cv2, .pointer .none, .pointer .none, .slice .none 0 0] 31)) := (Below.refl _ _).alloc (Nat.le_refl _) _
          have HM4 : Hid (CmdAt (w3.alloc (.cells #[.pointer (some ⟨ks, 0, .none⟩), .slice V2 n Cv2, .pointer .none, .pointer .none, .slice .none 0 0] 31)) w3.heap.size ks V2 n Cv2) :=
            ⟨by simp [go_sem], by simp [go_sem], by simp [go_sem], by simp [go_sem], by simp [go_sem]⟩
          have HB4 := hid (HB3.out.trans (b4.mono HB3.out.size))
          have HR4 := hid (HR3.out.below b4)
          have HA4 := hid (HA3.out.below b4)
          have HN4 := hid (cell_below b4 HN3.out)
          clear b4 HB3 HR3 HA3 HN3
          generalize w3.alloc (.cells #[.pointer (some ⟨ks, 0, .none⟩), .slice V2 n Cv2, .pointer .none, .pointer .none, .slice .none 0 0] 31) = w4 at HM4 HB4 HR4 HA4 HN4 ⊢
          generalize w3.heap.size = kc at HM4 ⊢
          have cc := strings s ks V2 n Cv2 A2 C2 Z w4 HN4.out HA4.out (by omega)
          unfold cmd at cc
          refine cc.mono ?_
          clear cc
          rintro e w5 ⟨v, rfl, g, c', A', C', rfl, hg, hf, ro, b5⟩
          have HO5 := hid ro
          have HG5 := hid hg
          have HF5 := hid hf
          have HB5 := hid b5
          have HM5 := hid (HM4.out.below b5)
          have HR5 := hid (HR4.out.below b5)
          clear ro hg hf b5
          go_wp2_with fail
          refine (isNameThenArgs s g c' V1 n Cv1 A' A1 C' C1 Z w5 HO5.out HR5.out (by omega) HL2.out (by omega) (by omega)).mono ?_
          rintro e w6 ⟨rfl, q6, hq6⟩
          have b6 : Below w5.heap.size w5 w6 := by rw [hq6]; exact below_drewN (Below.refl _ _) _
          obtain ⟨m0, m1, m2, m3, m4⟩ := HM5.out.below b6
          have HB6 := hid b6
          clear hq6 b6 HM5 HR5
          go_wp2_with fail
          have cc := count ks V2 n Cv2 w6 (by omega)
          unfold cmd at cc
          refine cc.mono ?_
          clear cc m0 m1 m2 m3 m4
          rintro e w7 ⟨rfl, b7⟩
          have HV7 := hid (Over.start HG5.out HF5.out HO5.out HB5.out (HB6.out.trans (b7.mono HB6.out.size)) (by rw [bytes_len]; omega) HL2.out)
          clear b7 HB6 HG5 HF5 HO5 HB5
          go_wp2_with fail
          go_loopw [11] (fun i wr => ∃ k : Nat, k ≤ n + 1 ∧ i = .int .i64 k ∧ Hid (Over w4 wr g n k)) (fun i _ => n + 1 - (intOf i).toNat)
          case atStart => exact ⟨0, Nat.zero_le _, rfl, HV7⟩
          case round =>
            obtain ⟨k3, hk3, rfl, HV⟩ := hrel
            by_cases hlt : k3 < n + 1
            · obtain ⟨A3, L3, C3, e1, hl3⟩ := HV.out.cells k3 (Nat.le_refl _) hlt
              have e2 := HV.out.free k3 hlt
              have e3 := HV.out.there
              have hmk := run_make_row' (P := Tryd.prog) 24 5 (.int .u8 0) 1 Tryd.underlying24 info5 rfl .i64 .i64 (L3 + 1) (by omega) (by omega)
              rw [show ((L3 + 1 : Nat) : Int) = (L3 : Int) + 1 by omega] at hmk
              go_wp2_with fail
              go_roundw
              case rel => exact ⟨k3 + 1, by omega, by go_num, hid (HV.out.step _ _)⟩
              case measure => simp [intOf]; omega
            · have hb := HV.out.below
              obtain ⟨m0, m1, m2, m3, m4⟩ := HM4.out.below hb
              have HB8 := hid (HB4.out.trans (hb.mono HB4.out.size))
              have HR8 := hid (HR4.out.below hb)
              have HA8 := hid (HA4.out.below hb)
              have HN8 := hid (cell_below hb HN4.out)
              clear hb HB4 HR4 HA4 HN4 HM4 HV HV7
              go_wp2_with fail
              have cc := strings s ks V2 n Cv2 A2 C2 Z wr HN8.out HA8.out (by omega)
              unfold cmd at cc
              refine cc.mono ?_
              clear cc m0 m1 m2 m3 m4
              rintro e w9 ⟨v, rfl, g9, c9, A9, C9, rfl, -, -, ro, b9⟩
              have HO9 := hid ro
              have HR9 := hid (HR8.out.below b9)
              have HB9 := hid (HB8.out.trans (b9.mono HB8.out.size))
              clear ro b9 HR8 HA8 HN8 HB8
              go_wp2_with fail
              refine (isNameThenArgs s g9 c9 V1 n Cv1 A9 A1 C9 C1 Z w9 HO9.out HR9.out (by omega) HL2.out (by omega) (by omega)).mono ?_
              rintro e w10 ⟨rfl, q10, rfl⟩
              go_wp2_with fail
              go_ret
              exact ⟨rfl, below_drewN HB9.out _⟩
end Go.Proofs.Qxb6603675aDoor.Mem
