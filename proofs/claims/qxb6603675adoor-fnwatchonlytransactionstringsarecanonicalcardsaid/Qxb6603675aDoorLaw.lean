import Derived.Test.Qxb6603675aDoorWatch
namespace Go.Proofs.Qxb6603675aDoor.Mem
open Go.ChangeShapes Go.WideShapes Go.ChangeAt Go.RowKit

theorem keep5 {w : World} {a1 a2 : Addr} {v1 v2 : Value} {N i j : Nat} (x y : Value) (h : w.cell? a1 = some v1 ∧ w.cell? a2 = some v2) (n1 : a1.block ≠ N) (n2 : a2.block ≠ N) :
    ((w.setCell ⟨N, i, .none⟩ x).setCell ⟨N, j, .none⟩ y).cell? a1 = some v1 ∧ ((w.setCell ⟨N, i, .none⟩ x).setCell ⟨N, j, .none⟩ y).cell? a2 = some v2 := by
  refine ⟨?_, ?_⟩
  · rw [World.cell?_setCell_other _ _ _ _ (fun e => n1 (congrArg Addr.block e).symm), World.cell?_setCell_other _ _ _ _ (fun e => n1 (congrArg Addr.block e).symm)]; exact h.1
  · rw [World.cell?_setCell_other _ _ _ _ (fun e => n2 (congrArg Addr.block e).symm), World.cell?_setCell_other _ _ _ _ (fun e => n2 (congrArg Addr.block e).symm)]; exact h.2

/-- The transaction's command lies, as a variable, in block 'kc'. -/
structure TxVar (w : World) (kc k : Nat) : Prop where
  c0 : w.cell? ⟨kc, 0, .none⟩ = some (.pointer .none)
  c1 : w.cell? ⟨kc, 1, .none⟩ = some (.slice .none 0 0)
  c2 : w.cell? ⟨kc, 2, .none⟩ = some (.pointer (some ⟨k, 0, .none⟩))
  c3 : w.cell? ⟨kc, 3, .none⟩ = some (.pointer .none)
  c4 : w.cell? ⟨kc, 4, .none⟩ = some (.slice .none 0 0)

theorem TxVar.below {w w' : World} {kc k : Nat} (h : TxVar w kc k) (hb : Below w.heap.size w w') : TxVar w' kc k :=
  ⟨cell_below hb h.c0, cell_below hb h.c1, cell_below hb h.c2, cell_below hb h.c3, cell_below hb h.c4⟩

theorem keep6 {w w' W : World} {a1 a2 a3 a4 : Addr} {v1 v2 v3 v4 : Value} (h : w.cell? a1 = some v1 ∧ w.cell? a2 = some v2 ∧ w.cell? a3 = some v3 ∧ w.cell? a4 = some v4 ∧ Below W.heap.size W w) (hb : Below w.heap.size w w') :
    w'.cell? a1 = some v1 ∧ w'.cell? a2 = some v2 ∧ w'.cell? a3 = some v3 ∧ w'.cell? a4 = some v4 ∧ Below W.heap.size W w' :=
  ⟨cell_below hb h.1, cell_below hb h.2.1, cell_below hb h.2.2.1, cell_below hb h.2.2.2.1, h.2.2.2.2.trans (hb.mono h.2.2.2.2.size)⟩

theorem multi_bytes : bytes ⟨#[77, 85, 76, 84, 73]⟩ = multi := rfl

set_option maxRecDepth 10000 in
set_option maxHeartbeats 4000000 in
theorem watch (V : Option Addr) (n Cv : Nat) (A : Nat → Option Addr) (C : Nat → Nat) (Z : Nat → List Int) (X : Option Addr) (m Cx : Nat) (U : Nat → Nat) (w : World) (hr : RdAll w V n A C Z) (hV : V = .none → n = 0 ∧ Cv = 0)
    (hA : ∀ i, i < n → A i = .none → (Z i).length = 0 ∧ C i = 0) (hx : RdU w X m U) (hX : X = .none → m = 0 ∧ Cx = 0) (hn : n ≤ maxLen) (hm : m ≤ maxLen) (hz : ∀ i, i < n → (Z i).length ≤ maxLen) (hU : ∀ i, i < m → U i < 18446744073709551616) (htab : Tab w) :
    Calls Tryd.prog 4 #[.slice V n Cv, .slice X m Cx] w fun e w' => e = .returned (.bool true) ∧ Below w.heap.size w w' := by
  have HC := hid (zzBytes2 V n Cv A C Z X m Cx w hr hn hm hz)
  have HR := hid hr
  have HV := hid hV
  have HA := hid hA
  have HX := hid hx
  have HXn := hid hX
  have HU := hid hU
  have HT := hid htab
  clear hr hV hA hx hX hz hU htab
  unfold maxLen at hn hm
  go_enter Tryd.func4, Tryd.ntmps4
  go_wp2_with fail
  refine HC.out.mono ?_
  rintro e w' ⟨⟨b, rfl, hL0⟩, rfl⟩
  have HL0 := hid hL0
  clear HC hL0
  cases b
  · go_wp2_with fail
    go_ret
    exact ⟨rfl, Below.refl _ _⟩
  have HL : Hid (sumLen Z n ≤ 1048576) := HL0.out rfl
  clear HL0
  by_cases h1 : 65536 < (n : Int)
  · go_wp2_with fail
    go_ret
    exact ⟨rfl, Below.refl _ _⟩
  by_cases h2 : 65536 < (m : Int)
  · go_wp2_with fail
    go_ret
    exact ⟨rfl, Below.refl _ _⟩
  by_cases h3 : 1048576 < 24 * (n : Int) + 8 * (m : Int)
  · go_wp2_with fail
    go_ret
    exact ⟨rfl, Below.refl _ _⟩
  go_wp2_with fail
  go_loop [5, 6] (fun t i => ∃ (k : Nat) (x : Int), k ≤ n ∧ i = .int .i64 k ∧ t = .int .i64 x ∧ 0 ≤ x ∧ x ≤ 1048576) (fun _ i => n - (intOf i).toNat)
  case atStart => exact ⟨0, _, Nat.zero_le _, rfl, rfl, by omega, by omega⟩
  case round =>
    obtain ⟨k, x, hk, rfl, rfl, hx0, hx1⟩ := hrel
    by_cases hlt : k < n
    · obtain ⟨b, o, rfl, hc⟩ := HR.out.1 (by omega)
      have e1 := hc k hlt
      have z1 : (Z k).length ≤ 1048576 := Nat.le_trans (le_sumLen Z hlt) HL.out
      clear hc
      by_cases h5 : 1048576 < x + ((Z k).length : Int)
      · go_wp2_with fail
        go_ret
        exact ⟨rfl, Below.refl _ _⟩
      · go_wp2_with fail
        go_round
        case rel => exact ⟨k + 1, _, by omega, by go_num, rfl, by omega, by omega⟩
        case measure => simp [intOf]; omega
    · by_cases hne : (n : Int) < (m : Int) ∨ (m : Int) < (n : Int)
      · have hd : ((n : Int) != (m : Int)) = true := by simp; omega
        go_wp2_with fail
        go_ret
        exact ⟨rfl, Below.refl _ _⟩
      have hd : ((n : Int) != (m : Int)) = false := by simp; omega
      have hnm : n = m := by omega
      have HNM := hid hnm
      clear hne hx0 hx1 hk hnm
      go_wp2_with fail
      clear hlt
      obtain rfl : n = m := HNM.out
      clear HNM hd
      refine (cloneAll V n Cv A C Z _ HR.out HV.out HA.out (by omega) (fun i hi => Nat.le_trans (le_sumLen Z hi) HL.out)).mono ?_
      rintro e w1 ⟨v, rfl, V1, Cv1, A1, C1, rfl, r1, -, -, -, -, b1⟩
      have HB1 := hid b1
      have HR1 := hid r1
      have HX1 := hid (HX.out.below b1)
      clear b1 r1 HR HX HV HA
      go_wp2_with fail
      refine (cloneWords X n Cx U _ HX1.out HXn.out (by omega)).mono ?_
      rintro e w2 ⟨v, rfl, X2, Cx2, rfl, x2, b2⟩
      have HB2 := hid (HB1.out.trans (b2.mono HB1.out.size))
      have HR2 := hid (HR1.out.below b2)
      have HX2 := hid x2
      clear b2 x2 HB1 HR1 HX1 HXn
      have hmk := make39 n (by omega)
      go_wp2_with fail
      clear hmk
      go_loopw [8] (fun i wr => ∃ k : Nat, k ≤ n ∧ i = .int .i64 k ∧ Hid (WMid w2 wr n k A1 C1 Z U)) (fun i _ => n - (intOf i).toNat)
      case atStart => exact ⟨0, Nat.zero_le _, rfl, hid (WMid.start w2 n A1 C1 Z U)⟩
      case round =>
        obtain ⟨k2, hk2, rfl, HM⟩ := hrel
        by_cases hlt : k2 < n
        · obtain ⟨bk, ok, rfl, hck⟩ := HR2.out.1 (by omega)
          obtain ⟨bu, ou, rfl, hcu⟩ := HX2.out (by omega)
          have d1 := hck k2 hlt
          have d2 := hcu k2 hlt
          have n1 : bk ≠ w2.heap.size := Nat.ne_of_lt (World.block_lt_of_cell? _ _ d1)
          have n2 : bu ≠ w2.heap.size := Nat.ne_of_lt (World.block_lt_of_cell? _ _ d2)
          have S0 : wr.cell? ⟨bk, ok + k2, .none⟩ = some (.slice (A1 k2) (Z k2).length (C1 k2)) ∧ wr.cell? ⟨bu, ou + k2, .none⟩ = some (.int .u64 (U k2)) := ⟨cell_below HM.out.below d1, cell_below HM.out.below d2⟩
          have q1 := HM.out.row.cell (i := k2 * 2) (by omega)
          have q2 := HM.out.row.cell (i := k2 * 2 + 1) (by omega)
          have f1 := HM.out.row.frozen (k2 * 2)
          have f2 := HM.out.row.frozen (k2 * 2 + 1)
          have HM2 := hid HM.out.step
          clear hck hcu d1 d2
          go_wp2_with fail
          go_region_held (fun w' => w'.cell? ⟨bk, ok + k2, .none⟩ = some (.slice (A1 k2) (Z k2).length (C1 k2)) ∧ w'.cell? ⟨bu, ou + k2, .none⟩ = some (.int .u64 (U k2)))
            (first | exact S0 | exact keep5 _ _ (by assumption) n1 n2) (fail)
          rename_i hH
          clear hH q1 q2 f1 f2 S0 HM n1 n2
          go_wp2_with fail
          go_roundw
          case rel => exact ⟨k2 + 1, by omega, by go_num, hid ⟨HM2.out.row.drew, HM2.out.below.drew⟩⟩
          case measure => simp [intOf]; omega
        · obtain rfl : k2 = n := by omega
          have HW := hid (HM.out.rd HR2.out.2)
          have HB3 := hid (HB2.out.trans (HM.out.below.mono HB2.out.size))
          have HR3 := hid (HR2.out.below HM.out.below)
          have HX3 := hid (HX2.out.below HM.out.below)
          have HT3 := hid (HT.out.below HB3.out)
          clear HM HB2 HR2 HX2
          go_wp2_with fail
          refine (newTx _ k2 k2 A1 C1 Z U wr HW.out HT3.out (by omega) HL.out HU.out).mono ?_
          rintro e w4 ⟨kt, rfl, ht4, b4⟩
          have HB4 := hid (HB3.out.trans (b4.mono HB3.out.size))
          have HR4 := hid (HR3.out.below b4)
          have HX4 := hid (HX3.out.below b4)
          have HT4 := hid (HT3.out.below b4)
          have HW4 := hid (HW.out.below b4)
          have HK4 := hid ht4
          clear b4 ht4 HB3 HR3 HX3 HT3 HW
          unfold txCmd
          go_wp2_with fail
          have b5 : Below w4.heap.size w4 (w4.alloc (.cells #[.pointer .none, .slice .none 0 0, .pointer (some ⟨kt, 0, .none⟩), .pointer .none, .slice .none 0 0] 31)) := (Below.refl _ _).alloc (Nat.le_refl _) _
          have HV5 : Hid (TxVar (w4.alloc (.cells #[.pointer .none, .slice .none 0 0, .pointer (some ⟨kt, 0, .none⟩), .pointer .none, .slice .none 0 0] 31)) w4.heap.size kt) :=
            ⟨by simp [go_sem], by simp [go_sem], by simp [go_sem], by simp [go_sem], by simp [go_sem]⟩
          have HB5 := hid (HB4.out.trans (b5.mono HB4.out.size))
          have HR5 := hid (HR4.out.below b5)
          have HX5 := hid (HX4.out.below b5)
          have HT5 := hid (HT4.out.below b5)
          have HW5 := hid (HW4.out.below b5)
          have HK5 := hid (HK4.out.below b5)
          clear b5 HB4 HR4 HX4 HT4 HW4 HK4
          generalize w4.alloc (.cells #[.pointer .none, .slice .none 0 0, .pointer (some ⟨kt, 0, .none⟩), .pointer .none, .slice .none 0 0] 31) = w5 at HV5 HB5 HR5 HX5 HT5 HW5 HK5 ⊢
          generalize w4.heap.size = kc at HV5 ⊢
          have cc := strings9 kt _ k2 k2 A1 C1 Z U w5 HK5.out HW5.out HT5.out (by omega) HU.out
          unfold txCmd at cc
          refine cc.mono ?_
          clear cc
          rintro e w6 ⟨v, rfl, g, c', A6, C6, rfl, ro, b6⟩
          have HO6 := hid ro
          have HB6 := hid (HB5.out.trans (b6.mono HB5.out.size))
          have HV6 := hid (HV5.out.below b6)
          have HR6 := hid (HR5.out.below b6)
          have HX6 := hid (HX5.out.below b6)
          have HK6 := hid (HK5.out.below b6)
          have HC6 : Hid (∀ j, j < 2 + 2 * k2 → w6.cell? ⟨g, j, .none⟩ = some (.slice (A6 j) (outZ k2 Z U j).length (C6 j))) := by
            obtain ⟨g', o', he, hc⟩ := ro.1 (by omega)
            simp only [Option.some.injEq, Addr.mk.injEq] at he
            obtain ⟨rfl, rfl, -⟩ := he
            intro j hj
            have := hc j hj
            rwa [Nat.zero_add] at this
          have o0 : w6.cell? ⟨g, 0, .none⟩ = some (.slice (A6 0) 5 (C6 0)) := HC6.out 0 (by omega)
          have o1 : w6.cell? ⟨g, 1, .none⟩ = some (.slice (A6 1) (digits k2).length (C6 1)) := HC6.out 1 (by omega)
          clear ro b6 HV5 HB5 HR5 HX5 HT5 HW5 HK5
          go_wp2_with fail
          refine (bytesIsString (A6 0) (C6 0) ⟨#[77, 85, 76, 84, 73]⟩ w6 (by rw [multi_bytes]; exact HO6.out.2 0 (by omega)) (by decide) (by decide)).mono ?_
          rintro e w7 ⟨rfl, q7, hq7⟩
          have b7 : Below w6.heap.size w6 w7 := by rw [hq7]; exact below_drewN (Below.refl _ _) _
          have o2 := cell_below b7 o1
          have HB7 := hid b7
          clear b7 hq7 o0 o1
          go_wp2_with fail
          refine (isDecimal (A6 1) (C6 1) k2 (by omega) w7 ((HO6.out.2 1 (by omega)).below HB7.out)).mono ?_
          rintro e w8 ⟨rfl, b8⟩
          have HB8 := hid (HB7.out.trans (b8.mono HB7.out.size))
          clear b8 o2 HB7
          go_wp2_with fail
          go_loopw [12] (fun i wr => ∃ k3 : Nat, k3 ≤ k2 ∧ i = .int .i64 k3 ∧ Hid (Below w6.heap.size w6 wr)) (fun i _ => k2 - (intOf i).toNat)
          case atStart => exact ⟨0, Nat.zero_le _, rfl, HB8⟩
          case round =>
            obtain ⟨k3, hk3, rfl, HB⟩ := hrel
            clear HB8
            by_cases hlt : k3 < k2
            · obtain ⟨bk, ok, rfl, hck⟩ := HR6.out.1 (by omega)
              obtain ⟨bu, ou, rfl, hcu⟩ := HX6.out (by omega)
              have t1 := cell_below HB.out (HC6.out (2 + 2 * k3) (by omega))
              have t2 := cell_below HB.out (HC6.out (3 + 2 * k3) (by omega))
              have t3 := cell_below HB.out (hck k3 hlt)
              have t4 := cell_below HB.out (hcu k3 hlt)
              have r1 := (HO6.out.2 (2 + 2 * k3) (by omega)).below HB.out
              have r2 := (HO6.out.2 (3 + 2 * k3) (by omega)).below HB.out
              have r3 := (HR6.out.2 k3 hlt).below HB.out
              rw [outZ_key] at t1 r1
              rw [outZ_num] at t2 r2
              have z3 : (Z k3).length ≤ 1048576 := Nat.le_trans (le_sumLen Z hlt) HL.out
              have HUk := hid (HU.out k3 hlt)
              generalize A6 (2 + 2 * k3) = a1 at t1 r1
              generalize C6 (2 + 2 * k3) = q1 at t1
              generalize A6 (3 + 2 * k3) = a2 at t2 r2
              generalize C6 (3 + 2 * k3) = q2 at t2
              have S0 : wr.cell? ⟨g, 2 + 2 * k3, .none⟩ = some (.slice a1 (Z k3).length q1) ∧ wr.cell? ⟨g, 3 + 2 * k3, .none⟩ = some (.slice a2 (digits (U k3)).length q2) ∧ wr.cell? ⟨bk, ok + k3, .none⟩ = some (.slice (A1 k3) (Z k3).length (C1 k3)) ∧ wr.cell? ⟨bu, ou + k3, .none⟩ = some (.int .u64 (U k3)) ∧ Below wr.heap.size wr wr := ⟨t1, t2, t3, t4, Below.refl _ _⟩
              have G1 := hid r1
              have G2 := hid r2
              have G3 := hid r3
              have hw1 := wrap_in (2 * (k3 : Int)) (by omega)
              have hw2 := wrap_in (2 + 2 * (k3 : Int)) (by omega)
              have hw3 := wrap_in (3 + 2 * (k3 : Int)) (by omega)
              have i1 : (0 : Int) ≤ 2 + 2 * (k3 : Int) := by omega
              have i2 : 2 + 2 * (k3 : Int) < 2 + 2 * (k2 : Int) := by omega
              have i3 : (2 + 2 * (k3 : Int)).toNat = 2 + 2 * k3 := by omega
              have i4 : (0 : Int) ≤ 3 + 2 * (k3 : Int) := by omega
              have i5 : 3 + 2 * (k3 : Int) < 2 + 2 * (k2 : Int) := by omega
              have i6 : (3 + 2 * (k3 : Int)).toNat = 3 + 2 * k3 := by omega
              clear hck hcu t1 t2 t3 t4 r1 r2 r3
              go_wp2_with fail
              go_region_held (fun w' => w'.cell? ⟨g, 2 + 2 * k3, .none⟩ = some (.slice a1 (Z k3).length q1) ∧ w'.cell? ⟨g, 3 + 2 * k3, .none⟩ = some (.slice a2 (digits (U k3)).length q2) ∧ w'.cell? ⟨bk, ok + k3, .none⟩ = some (.slice (A1 k3) (Z k3).length (C1 k3)) ∧ w'.cell? ⟨bu, ou + k3, .none⟩ = some (.int .u64 (U k3)) ∧ Below wr.heap.size wr w')
                (first | exact keep6 S0 (Below.refl _ _).drew | exact keep6 (by assumption) (below_drewN (Below.refl _ _) _) | exact keep6 (by assumption) (by assumption))
                ((first
                  | (go_at_call 17; refine (bytesEqual a1 (A1 k3) q1 (C1 k3) (Z k3) _ (G1.out.below (Below.refl _ _).drew) (G3.out.below (Below.refl _ _).drew) z3).mono ?_; rintro e w9 ⟨rfl, q9, rfl⟩)
                  | (go_at_call 16; refine (isDecimal a2 q2 (U k3) HUk.out _ (G2.out.drewN _)).mono ?_; rintro e w10 ⟨rfl, hb10⟩)))
              rename_i hH
              have HB11 := hid (HB.out.trans (hH.2.2.2.2.mono HB.out.size))
              clear hH hb10 S0 G1 G2 G3 HB hw1 hw2 hw3 i1 i2 i3 i4 i5 i6
              go_wp2_with fail
              go_roundw
              case rel => exact ⟨k3 + 1, by omega, by go_num, HB11⟩
              case measure => simp [intOf]; omega
            · obtain ⟨m0, m1, m2, m3, m4⟩ := HV6.out.below HB.out
              have HK9 := hid (HK6.out.below HB.out)
              have HB9 := hid (HB6.out.trans (HB.out.mono HB6.out.size))
              clear HV6 HK6 HB HB6 HO6 HR6 HX6 HC6
              go_wp2_with fail
              have cc := count11 kt _ k2 k2 wr HK9.out
              unfold txCmd at cc
              refine cc.mono ?_
              clear cc m0 m1 m2 m3 m4
              rintro e w11 ⟨rfl, b11⟩
              have HB12 := hid (HB9.out.trans (b11.mono HB9.out.size))
              clear b11 HK9 HB9
              go_wp2_with fail
              go_ret
              exact ⟨by simp, HB12.out⟩
end Go.Proofs.Qxb6603675aDoor.Mem
