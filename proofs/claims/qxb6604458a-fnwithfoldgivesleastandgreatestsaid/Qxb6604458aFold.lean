import Derived.Test.Qxb6604458aClones
import Derived.Deep.RegionHeld
namespace Go.Proofs.Qxb6604458a.Num
open Go.ChangeShapes Go.WideShapes Go.ChangeAt Go.RowKit

theorem Rd.at {w w' : World} {b o n : Nat} {f : Nat → Value} {k : Nat} (h : ∀ i, i < n → w.cell? ⟨b, o + i, .none⟩ = some (f i)) (hk : k < n) (hb : Below w.heap.size w w') : w'.cell? ⟨b, o + k, .none⟩ = some (f k) := by
  have := h k hk
  exact (hb.cell (p := ⟨b, o + k, .none⟩) (World.block_lt_of_cell? _ _ this)).trans this

theorem ext_next {X : Nat → N} {k : Nat} {l h : N} {ok : Bool} (ho : ok = true ↔ 0 < k) (he : 0 < k → Ext X k l h) : Ext X (k + 1) (widLow ok l (X k)) (widHigh ok h (X k)) := by
  cases ok with
  | false =>
    have hk : k = 0 := by
      by_cases c : 0 < k
      · exact absurd (ho.2 c) (by simp)
      · omega
    subst hk
    exact Ext.one X
  | true => exact (he (ho.1 rfl)).step

theorem seen_next {X : Nat → N} {k : Nat} {l : N} {s : Bool} (h : (∃ j, j < k ∧ X j = l) → s = true) (hk : X k = l → false = true) : (∃ j, j < k + 1 ∧ X j = l) → s = true := by
  rintro ⟨j, hj, e⟩
  by_cases c : j = k
  · subst c; exact absurd (hk e) (by simp)
  · exact h ⟨j, by omega, e⟩

set_option maxHeartbeats 40000000 in
set_option maxRecDepth 10000 in
theorem law (A B F : Option Addr) (na nb nf ca cb cf : Nat) (P : Nat → Bool) (Q R : Nat → ByteArray) (w : World) (hA : Rd w A na (fun i => .bool (P i))) (hB : Rd w B nb (fun i => .string (Q i))) (hF : Rd w F nf (fun i => .string (R i)))
    (zA : A = .none → na = 0 ∧ ca = 0) (zB : B = .none → nb = 0 ∧ cb = 0) (zF : F = .none → nf = 0 ∧ cf = 0)
    (ha : na ≤ maxLen) (hb : nb ≤ maxLen) (hf : nf ≤ maxLen) (hX : ∀ i, i < nb → (Q i).size ≤ maxLen) (hY : ∀ i, i < nf → (R i).size ≤ maxLen) :
    Calls Try.prog 4 #[.slice A na ca, .slice B nb cb, .slice F nf cf] w fun e w' => e = .returned (.bool true) ∧ Below w.heap.size w w' := by
  have HZ := hid (zzBytes A B F na nb nf ca cb cf Q R w hB hF ha hb hf hX hY)
  have HA := hid hA
  have HB := hid hB
  have HF := hid hF
  have HX := hid hX
  have HY := hid hY
  have YA := hid zA
  have YB := hid zB
  have YF := hid zF
  clear hA hB hF hX hY zA zB zF
  unfold maxLen at ha hb hf
  go_enter Try.func4, Try.ntmps4
  go_wp2_with fail
  refine HZ.out.mono ?_
  rintro e w1 ⟨⟨b, rfl⟩, rfl⟩
  clear HZ
  cases b with
  | false =>
    go_wp2_with fail
    go_ret
    exact ⟨rfl, Below.refl _ _⟩
  | true =>
  by_cases l1 : 4096 < (na : Int)
  · go_wp2_with fail
    go_ret
    exact ⟨rfl, Below.refl _ _⟩
  by_cases l2 : 4096 < (nb : Int)
  · go_wp2_with fail
    go_ret
    exact ⟨rfl, Below.refl _ _⟩
  by_cases l3 : 4096 < (nf : Int)
  · go_wp2_with fail
    go_ret
    exact ⟨rfl, Below.refl _ _⟩
  by_cases l4 : ¬ nb = na
  · have l4' : ¬ (nb : Int) = (na : Int) := by omega
    go_wp2_with fail
    go_ret
    exact ⟨rfl, Below.refl _ _⟩
  obtain rfl : nb = na := by omega
  clear l4
  by_cases l5 : ¬ nf = nb
  · have l5' : ¬ (nf : Int) = (nb : Int) := by omega
    go_wp2_with fail
    go_ret
    exact ⟨rfl, Below.refl _ _⟩
  obtain rfl : nf = nb := by omega
  clear l5
  clear l2 l3 ha hb hf
  have hn : (nf : Int) ≤ 4096 := by omega
  clear l1
  go_wp2_with fail
  go_loopw [7, 8] (fun t i wr => ∃ (k : Nat) (x : Int), k ≤ nf ∧ i = .int .i64 k ∧ t = .int .i64 x ∧ 0 ≤ x ∧ x ≤ 1048576 ∧ Hid (∀ j, j < k → (Q j).size ≤ 1048576 ∧ (R j).size ≤ 1048576) ∧ Hid (Below w1.heap.size w1 wr)) (fun _ i _ => nf - (intOf i).toNat)
  case atStart => exact ⟨0, _, Nat.zero_le _, rfl, rfl, by omega, by omega, hid (fun _ h => absurd h (Nat.not_lt_zero _)), hid (Below.refl _ _)⟩
  case round =>
    obtain ⟨k, x, hk, rfl, rfl, hx0, hx1, HS, HW⟩ := hrel
    by_cases hlt : k < nf
    · obtain ⟨b, o, rfl, hc⟩ := HB.out (by omega)
      obtain ⟨b', o', rfl, hc'⟩ := HF.out (by omega)
      have e1 := Rd.at hc hlt HW.out
      have e2 := Rd.at hc' hlt HW.out
      have z1 := HX.out k hlt
      have z2 := HY.out k hlt
      unfold maxLen at z1 z2
      clear hc hc'
      by_cases h4 : 1048576 < ((Q k).size : Int)
      · go_wp2_with fail
        go_ret
        exact ⟨rfl, HW.out⟩
      by_cases h5 : 1048576 < ((R k).size : Int)
      · go_wp2_with fail
        go_ret
        exact ⟨rfl, HW.out⟩
      by_cases h6 : 1048576 < x + (((Q k).size : Int) + ((R k).size : Int))
      · go_wp2_with fail
        go_quiet (fail)
        go_wp2_with fail
        go_ret
        exact ⟨rfl, below_dN HW.out _⟩
      · go_wp2_with fail
        go_quiet (fail)
        go_wp2_with fail
        go_roundw
        case rel =>
          refine ⟨k + 1, _, by omega, by go_num, rfl, by omega, by omega, hid (fun j hj => ?_), hid (below_dN HW.out _)⟩
          by_cases e : j = k
          · subst e; omega
          · exact HS.out j (by omega)
        case measure => simp [intOf]; omega
    · have hkn : nf = k := by omega
      subst hkn
      clear hk hx0 hx1 hlt HX HY
      go_wp2_with fail
      go_loopw [9] (fun i wr => ∃ (k : Nat), k ≤ nf ∧ i = .int .i64 k ∧ Hid (∀ j, j < k → Canon ⟨P j, Q j, R j⟩) ∧ Hid (Below w1.heap.size w1 wr)) (fun i _ => nf - (intOf i).toNat)
      case atStart => exact ⟨0, Nat.zero_le _, rfl, hid (fun _ h => absurd h (Nat.not_lt_zero _)), HW⟩
      case round =>
        clear HW
        obtain ⟨k, hk, rfl, HC, HW⟩ := hrel
        by_cases hlt : k < nf
        · obtain ⟨b, o, rfl, hc⟩ := HB.out (by omega)
          obtain ⟨b', o', rfl, hc'⟩ := HF.out (by omega)
          obtain ⟨b'', o'', rfl, hc''⟩ := HA.out (by omega)
          have S0 : wr.cell? ⟨b'', o'' + k, .none⟩ = some (.bool (P k)) ∧ wr.cell? ⟨b, o + k, .none⟩ = some (.string (Q k)) ∧ wr.cell? ⟨b', o' + k, .none⟩ = some (.string (R k)) := ⟨Rd.at hc'' hlt HW.out, Rd.at hc hlt HW.out, Rd.at hc' hlt HW.out⟩
          have hs := HS.out k hlt
          clear hc hc' hc''
          go_wp2_with fail
          go_region_held (fun w' => w'.cell? ⟨b'', o'' + k, .none⟩ = some (.bool (P k)) ∧ w'.cell? ⟨b, o + k, .none⟩ = some (.string (Q k)) ∧ w'.cell? ⟨b', o' + k, .none⟩ = some (.string (R k)))
            (first | exact S0) ((first | (go_at_call 7; refine (canonNumber ⟨P k, Q k, R k⟩ _ hs.1 hs.2).mono ?_; rintro e w9 ⟨⟨bb, rfl, hbb⟩, rfl⟩)))
          rename_i hH
          clear hH S0 hs
          cases bb with
          | false =>
            clear hbb
            go_wp2_with fail
            go_ret
            exact ⟨rfl, HW.out.drew⟩
          | true =>
            have HK := hid (hbb rfl)
            clear hbb
            go_wp2_with fail
            go_roundw
            case rel =>
              refine ⟨k + 1, by omega, by go_num, hid (fun j hj => ?_), hid HW.out.drew⟩
              by_cases e : j = k
              · subst e; exact HK.out
              · exact HC.out j (by omega)
            case measure => simp [intOf]; omega
        · have hkn : nf = k := by omega
          subst hkn
          clear hk
          have RA := hid (HA.out.below HW.out)
          have RB := hid (HB.out.below HW.out)
          have RF := hid (HF.out.below HW.out)
          clear HA HB HF
          go_wp2_with fail
          refine (cloneBools A nf ca P _ RA.out YA.out (by omega)).mono ?_
          rintro e w2 ⟨v, rfl, A2, C2, rfl, ra2, b2⟩
          have HA2 := hid ra2
          have RB2 := hid (RB.out.below b2)
          have RF2 := hid (RF.out.below b2)
          have BW2 := hid (HW.out.trans (b2.mono HW.out.size))
          clear ra2 b2 RA RB RF HW YA
          go_wp2_with fail
          refine (cloneStrings B nf cb Q _ RB2.out YB.out (by omega)).mono ?_
          rintro e w3 ⟨v, rfl, A3, C3, rfl, ra3, b3⟩
          have HA3 := hid (HA2.out.below b3)
          have HB3 := hid ra3
          have RF3 := hid (RF2.out.below b3)
          have BW3 := hid (BW2.out.trans (b3.mono BW2.out.size))
          clear ra3 b3 HA2 RB2 RF2 BW2 YB
          go_wp2_with fail
          refine (cloneStrings F nf cf R _ RF3.out YF.out (by omega)).mono ?_
          rintro e w4 ⟨v, rfl, A4, C4, rfl, ra4, b4⟩
          have HA4 := hid (HA3.out.below b4)
          have HB4 := hid (HB3.out.below b4)
          have HF4 := hid ra4
          have BW4 := hid (BW3.out.trans (b4.mono BW3.out.size))
          clear ra4 b4 HA3 HB3 RF3 BW3 YF
          go_wp2_with fail
          refine (zzNoBounds _).mono ?_
          rintro e w5 ⟨rfl, b5⟩
          have HA5 := hid (HA4.out.below b5)
          have HB5 := hid (HB4.out.below b5)
          have HF5 := hid (HF4.out.below b5)
          have BW5 := hid (BW4.out.trans (b5.mono BW4.out.size))
          clear b5 HA4 HB4 HF4 BW4
          unfold bnd zero
          go_wp2_with fail
          have a0 := hid (At7.alloc w5 (g := w5.heap.size) rfl ⟨false, ⟨#[]⟩, ⟨#[]⟩⟩ ⟨false, ⟨#[]⟩, ⟨#[]⟩⟩ false)
          have b0 := hid (Below.alloc (Below.refl w5.heap.size w5) (Nat.le_refl _) (.cells #[.bool false, .string ⟨#[]⟩, .string ⟨#[]⟩, .bool false, .string ⟨#[]⟩, .string ⟨#[]⟩, .bool false] 28))
          go_loopw [11] (fun i wr => ∃ (k : Nat) (l h : N) (ok : Bool), k ≤ nf ∧ i = .int .i64 k ∧ Hid (At7 wr w5.heap.size l h ok) ∧ Hid (ok = true ↔ 0 < k) ∧ Hid (0 < k → Ext (fun j => ⟨P j, Q j, R j⟩) k l h) ∧ Hid (Below w5.heap.size w5 wr)) (fun i _ => nf - (intOf i).toNat)
          case atStart => exact ⟨0, _, _, false, Nat.zero_le _, rfl, a0, hid (by simp), hid (fun h => absurd h (Nat.not_lt_zero _)), b0⟩
          case round =>
            clear a0 b0
            obtain ⟨k, l, h, ok, hk, rfl, HA, HO, HE, HW⟩ := hrel
            by_cases hlt : k < nf
            -- ROUND3
            · obtain ⟨b, o, rfl, hc⟩ := HA5.out (by omega)
              obtain ⟨b', o', rfl, hc'⟩ := HB5.out (by omega)
              obtain ⟨b'', o'', rfl, hc''⟩ := HF5.out (by omega)
              have e0 := Rd.at hc hlt HW.out
              have e1 := Rd.at hc' hlt HW.out
              have e2 := Rd.at hc'' hlt HW.out
              obtain ⟨c0, c1, c2, c3, c4, c5, c6⟩ := HA.out.cells
              clear hc hc' hc''
              go_wp2_with fail
              go_region_with ((first
                | (go_at_call 10; go_loud (refine (zzNumber ⟨P k, Q k, R k⟩ _).mono ?_; rintro e w10 ⟨rfl, b10⟩; have HA10 := hid (At7.below (w := wr.drew) HA.out b10); obtain ⟨c0, c1, c2, c3, c4, c5, c6⟩ := HA10.out.cells; have B10 := hid (HW.out.drew.trans (b10.mono HW.out.drew.size)); unfold num))
                | (go_at_call 11; go_loud (refine (zzWith ok l h ⟨P k, Q k, R k⟩ _).mono ?_; rintro e w11 ⟨rfl, b11⟩; have HA11 := hid (At7.below HA10.out b11); obtain ⟨d0, d1, d2, d3, d4, d5, d6⟩ := HA11.out.cells; have f0 := HA11.out.free 0; have f1 := HA11.out.free 1; have f2 := HA11.out.free 2; have f3 := HA11.out.free 3; have f4 := HA11.out.free 4; have f5 := HA11.out.free 5; have f6 := HA11.out.free 6; unfold bnd))))
              all_goals (
                obtain ⟨w12, e12, A12, B12⟩ : ∃ w12, set7 w11 w5.heap.size (widLow ok l ⟨P k, Q k, R k⟩) (widHigh ok h ⟨P k, Q k, R k⟩) true = w12 ∧ Hid (At7 w12 w5.heap.size (widLow ok l ⟨P k, Q k, R k⟩) (widHigh ok h ⟨P k, Q k, R k⟩) true) ∧ Hid (Below w5.heap.size w5 w12) :=
                  ⟨_, rfl, hid (HA11.out.set _ _ _), hid (set7_below (B10.out.trans (b11.mono B10.out.size)) (Nat.le_refl _) _ _ _)⟩
                unfold set7 at e12
                rw [e12]
                clear c0 c1 c2 c3 c4 c5 c6 d0 d1 d2 d3 d4 d5 d6 f0 f1 f2 f3 f4 f5 f6 e0 e1 e2 HA HA10 HA11 b10 b11 B10 e12
                go_wp2_with fail
                go_roundw
                case rel => exact ⟨k + 1, _, _, true, by omega, by go_num, A12, hid (by simp), hid (fun _ => ext_next HO.out HE.out), B12⟩
                case measure => simp [intOf]; omega)
            -- EXIT3
            · have hkn : nf = k := by omega
              subst hkn
              obtain ⟨c0, c1, c2, c3, c4, c5, c6⟩ := HA.out.cells
              have RA := hid (HA5.out.below HW.out)
              have RB := hid (HB5.out.below HW.out)
              have RF := hid (HF5.out.below HW.out)
              have BW6 := hid (BW5.out.trans (HW.out.mono BW5.out.size))
              clear HA5 HB5 HF5 BW5 HA HW hk
              by_cases h0 : nf = 0
              · obtain rfl : ok = false := by
                  cases ok with
                  | false => rfl
                  | true => exact absurd (HO.out.1 rfl) (by omega)
                go_wp2_with fail
                refine (zzBoundsOf l h false _).mono ?_
                rintro e w6 ⟨rfl, b6⟩
                have BW7 := hid (BW6.out.trans (b6.mono BW6.out.size))
                unfold num
                clear c0 c1 c2 c3 c4 c5 c6 b6
                go_wp2_with fail
                go_ret
                exact ⟨rfl, below1 (below1 BW7.out _) _⟩
              · obtain rfl : ok = true := HO.out.2 (by omega)
                have EX := hid (HE.out (by omega))
                clear HO HE
                go_wp2_with fail
                refine (zzBoundsOf l h true _).mono ?_
                rintro e w6 ⟨rfl, b6⟩
                have BW7 := hid (BW6.out.trans (b6.mono BW6.out.size))
                have RA7 := hid (RA.out.below b6)
                have RB7 := hid (RB.out.below b6)
                have RF7 := hid (RF.out.below b6)
                unfold num
                clear c0 c1 c2 c3 c4 c5 c6 b6 RA RB RF BW6
                go_wp2_with fail
                refine (zzNumberOf l _).mono ?_
                rintro e w7 ⟨rfl, b7⟩
                have c0 : w7.cell? ⟨w6.heap.size + 1, 0, .none⟩ = some (.bool h.neg) := (b7.cell (p := ⟨w6.heap.size + 1, 0, .none⟩) (by simp)).trans (by simp [go_sem])
                have c1 : w7.cell? ⟨w6.heap.size + 1, 1, .none⟩ = some (.string h.whole) := (b7.cell (p := ⟨w6.heap.size + 1, 1, .none⟩) (by simp)).trans (by simp [go_sem])
                have c2 : w7.cell? ⟨w6.heap.size + 1, 2, .none⟩ = some (.string h.frac) := (b7.cell (p := ⟨w6.heap.size + 1, 2, .none⟩) (by simp)).trans (by simp [go_sem])
                have bb := Below.trans (below1 (below1 (Below.refl w6.heap.size w6) _) _) (b7.mono (by simp; omega))
                have BW8 := hid (BW7.out.trans (bb.mono BW7.out.size))
                have RA8 := hid (RA7.out.below bb)
                have RB8 := hid (RB7.out.below bb)
                have RF8 := hid (RF7.out.below bb)
                clear bb b7 RA7 RB7 RF7 BW7
                go_wp2_with fail
                refine (zzNumberOf h _).mono ?_
                rintro e w8 ⟨rfl, b8⟩
                have BW9 := hid (BW8.out.trans (b8.mono BW8.out.size))
                have RA9 := hid (RA8.out.below b8)
                have RB9 := hid (RB8.out.below b8)
                have RF9 := hid (RF8.out.below b8)
                clear b8 RA8 RB8 RF8 BW8 c0 c1 c2
                go_wp2_with fail
                obtain ⟨jl, hjl, el⟩ := EX.out.lowIn
                obtain ⟨jh, hjh, eh⟩ := EX.out.highIn
                have CL : Hid (Canon l ∧ l.whole.size ≤ 1048576 ∧ l.frac.size ≤ 1048576) := hid ⟨el ▸ HC.out jl hjl, by rw [← el]; exact (HS.out jl hjl).1, by rw [← el]; exact (HS.out jl hjl).2⟩
                have CH : Hid (Canon h ∧ h.whole.size ≤ 1048576 ∧ h.frac.size ≤ 1048576) := hid ⟨eh ▸ HC.out jh hjh, by rw [← eh]; exact (HS.out jh hjh).1, by rw [← eh]; exact (HS.out jh hjh).2⟩
                have EL := hid el
                have EH := hid eh
                clear el eh
                go_loopw [21, 22, 23] (fun sl sh i wr => ∃ (k : Nat) (s t : Bool), k ≤ nf ∧ i = .int .i64 k ∧ sl = .bool s ∧ sh = .bool t ∧ Hid ((∃ j, j < k ∧ (⟨P j, Q j, R j⟩ : N) = l) → s = true) ∧ Hid ((∃ j, j < k ∧ (⟨P j, Q j, R j⟩ : N) = h) → t = true) ∧ Hid (Below w8.heap.size w8 wr)) (fun _ _ i _ => nf - (intOf i).toNat)
                case atStart => exact ⟨0, false, false, Nat.zero_le _, rfl, rfl, rfl, hid (fun ⟨_, h, _⟩ => absurd h (Nat.not_lt_zero _)), hid (fun ⟨_, h, _⟩ => absurd h (Nat.not_lt_zero _)), hid (Below.refl _ _)⟩
                case round =>
                  obtain ⟨k, s, t, hk, rfl, rfl, rfl, HSL, HSH, HW⟩ := hrel
                  by_cases hlt : k < nf
                  · obtain ⟨b, o, rfl, hc⟩ := RA9.out (by omega)
                    obtain ⟨b', o', rfl, hc'⟩ := RB9.out (by omega)
                    obtain ⟨b'', o'', rfl, hc''⟩ := RF9.out (by omega)
                    have S0 : wr.cell? ⟨b, o + k, .none⟩ = some (.bool (P k)) ∧ wr.cell? ⟨b', o' + k, .none⟩ = some (.string (Q k)) ∧ wr.cell? ⟨b'', o'' + k, .none⟩ = some (.string (R k)) := ⟨Rd.at hc hlt HW.out, Rd.at hc' hlt HW.out, Rd.at hc'' hlt HW.out⟩
                    have hs := HS.out k hlt
                    have hcn := hid (HC.out k hlt)
                    have lo : cmpN l ⟨P k, Q k, R k⟩ ≤ 0 := EX.out.low k hlt
                    have hi : 0 ≤ cmpN h ⟨P k, Q k, R k⟩ := EX.out.high k hlt
                    clear hc hc' hc''
                    go_wp2_with fail
                    go_region_held (fun w' => w'.cell? ⟨b, o + k, .none⟩ = some (.bool (P k)) ∧ w'.cell? ⟨b', o' + k, .none⟩ = some (.string (Q k)) ∧ w'.cell? ⟨b'', o'' + k, .none⟩ = some (.string (R k)))
                      (first | exact S0) ((first | (go_at_call 8; refine (valueCmp l ⟨P k, Q k, R k⟩ _ CL.out.1 hcn.out CL.out.2.1 hs.1 CL.out.2.2 hs.2).mono ?_; rintro e w9 ⟨rfl, rfl⟩)))
                    rename_i hH
                    clear hH
                    go_wp2_with fail
                    go_region_held (fun w' => w'.cell? ⟨b, o + k, .none⟩ = some (.bool (P k)) ∧ w'.cell? ⟨b', o' + k, .none⟩ = some (.string (Q k)) ∧ w'.cell? ⟨b'', o'' + k, .none⟩ = some (.string (R k)))
                      (first | exact S0) ((first | (go_at_call 8; refine (valueCmp h ⟨P k, Q k, R k⟩ _ CH.out.1 hcn.out CH.out.2.1 hs.1 CH.out.2.2 hs.2).mono ?_; rintro e w9 ⟨rfl, rfl⟩)))
                    rename_i hH
                    clear hH
                    go_wp2_with fail
                    go_region_held (fun w' => w'.cell? ⟨b, o + k, .none⟩ = some (.bool (P k)) ∧ w'.cell? ⟨b', o' + k, .none⟩ = some (.string (Q k)) ∧ w'.cell? ⟨b'', o'' + k, .none⟩ = some (.string (R k)))
                      (first | exact S0) ((first | (go_at_call 14; refine (sameNumber l ⟨P k, Q k, R k⟩ _).mono ?_; rintro e w9 ⟨⟨bs, rfl, hbs⟩, rfl⟩)))
                    rename_i hH
                    have KL := hid hbs
                    clear hH hbs lo hi
                    cases bs with
                    | false =>
                      go_wp2_with fail
                      go_region_held (fun w' => w'.cell? ⟨b, o + k, .none⟩ = some (.bool (P k)) ∧ w'.cell? ⟨b', o' + k, .none⟩ = some (.string (Q k)) ∧ w'.cell? ⟨b'', o'' + k, .none⟩ = some (.string (R k)))
                        (first | exact S0) ((first | (go_at_call 14; refine (sameNumber h ⟨P k, Q k, R k⟩ _).mono ?_; rintro e w9 ⟨⟨bt, rfl, hbt⟩, rfl⟩)))
                      rename_i hH
                      have KH := hid hbt
                      clear hH hbt S0
                      cases bt with
                      | false =>
                        go_wp2_with fail
                        go_roundw
                        case rel => exact ⟨k + 1, _, _, by omega, by go_num, rfl, rfl, hid (seen_next HSL.out KL.out), hid (seen_next HSH.out KH.out), hid HW.out.drew.drew.drew.drew⟩
                        case measure => simp [intOf]; omega
                      | true =>
                        go_wp2_with fail
                        go_roundw
                        case rel => exact ⟨k + 1, _, _, by omega, by go_num, rfl, rfl, hid (seen_next HSL.out KL.out), hid (fun _ => rfl), hid HW.out.drew.drew.drew.drew⟩
                        case measure => simp [intOf]; omega
                    | true =>
                      go_wp2_with fail
                      go_region_held (fun w' => w'.cell? ⟨b, o + k, .none⟩ = some (.bool (P k)) ∧ w'.cell? ⟨b', o' + k, .none⟩ = some (.string (Q k)) ∧ w'.cell? ⟨b'', o'' + k, .none⟩ = some (.string (R k)))
                        (first | exact S0) ((first | (go_at_call 14; refine (sameNumber h ⟨P k, Q k, R k⟩ _).mono ?_; rintro e w9 ⟨⟨bt, rfl, hbt⟩, rfl⟩)))
                      rename_i hH
                      have KH := hid hbt
                      clear hH hbt S0
                      cases bt with
                      | false =>
                        go_wp2_with fail
                        go_roundw
                        case rel => exact ⟨k + 1, _, _, by omega, by go_num, rfl, rfl, hid (fun _ => rfl), hid (seen_next HSH.out KH.out), hid HW.out.drew.drew.drew.drew⟩
                        case measure => simp [intOf]; omega
                      | true =>
                        go_wp2_with fail
                        go_roundw
                        case rel => exact ⟨k + 1, _, _, by omega, by go_num, rfl, rfl, hid (fun _ => rfl), hid (fun _ => rfl), hid HW.out.drew.drew.drew.drew⟩
                        case measure => simp [intOf]; omega
                  · have hkn : nf = k := by omega
                    subst hkn
                    obtain rfl : s = true := HSL.out ⟨jl, hjl, EL.out⟩
                    obtain rfl : t = true := HSH.out ⟨jh, hjh, EH.out⟩
                    go_wp2_with fail
                    go_ret
                    exact ⟨rfl, BW9.out.trans (HW.out.mono BW9.out.size)⟩
end Go.Proofs.Qxb6604458a.Num
