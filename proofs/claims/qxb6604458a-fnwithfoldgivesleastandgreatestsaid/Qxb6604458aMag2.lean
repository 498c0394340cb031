import Derived.Test.Qxb6604458aMag
namespace Go.Proofs.Qxb6604458a.Num
open Go.ChangeShapes Go.WideShapes Go.ChangeAt Go.RowKit

theorem pads_step {a b : ByteArray} {k : Nat} (h : ∀ j, j < k → pad a j = pad b j) (e : pad a k = pad b k) : ∀ j, j < k + 1 → pad a j = pad b j := fun j hj => by
  by_cases c : j = k
  · subst c; exact e
  · exact h j (by omega)

theorem frac_gt {a b : ByteArray} {i : Nat} (hb : Digits b) (h : ∀ j, j < i → pad a j = pad b j) (hi : (pad b i).toNat < (pad a i).toNat) : Lib.compareBytes a.data.toList b.data.toList = 1 := by
  have := frac_lt b a i hb (fun j hj => (h j hj).symm) hi
  have e := cb_anti a.data.toList b.data.toList
  omega

set_option maxHeartbeats 1000000 in
theorem magCmp_eq (a b : N) (w : World) (ca : Canon a) (cb : Canon b) (ha : a.whole.size = b.whole.size) (hb : b.whole.size ≤ 1048576) (h1 : a.frac.size ≤ 1048576) (h2 : b.frac.size ≤ 1048576) :
    Calls Try.prog 24 #[.string a.whole, .string a.frac, .string b.whole, .string b.frac] w fun e w' => e = .returned (.int .i64 (mag a b)) ∧ w' = w := by
  have HM : Hid (Lib.compareBytes a.whole.data.toList b.whole.data.toList ≠ 0 → mag a b = Lib.compareBytes a.whole.data.toList b.whole.data.toList) := hid (mag_whole ha)
  have HE : Hid (a.whole = b.whole → mag a b = Lib.compareBytes a.frac.data.toList b.frac.data.toList) := hid mag_frac
  generalize mag a b = m at *
  have CA := hid ca
  have CB := hid cb
  clear ca cb
  obtain ⟨an, aw, af⟩ := a
  obtain ⟨bn, bw, bf⟩ := b
  simp only at ha hb h1 h2 HM HE ⊢
  go_enter Try.func24, Try.ntmps24
  go_wp2_with fail
  go_loop [10] (fun i => ∃ k : Nat, k ≤ bw.size ∧ i = .int .i64 k ∧ Hid (∀ j, j < k → aw.data.toList[j]? = bw.data.toList[j]?)) (fun i => bw.size - (intOf i).toNat)
  case atStart => exact ⟨0, Nat.zero_le _, rfl, hid (fun j h => absurd h (Nat.not_lt_zero _))⟩
  case round =>
    obtain ⟨k, hk, rfl, HD⟩ := hrel
    by_cases hlt : k < bw.size
    · have hlt2 : k < aw.size := by omega
      have ga := hid (get_some aw k hlt2)
      have gb := hid (get_some bw k hlt)
      by_cases c1 : aw[k].toNat < bw[k].toNat
      · have hm : m = -1 := by
          have := cb_lt k _ _ _ HD.out gb.out (fun x hx => by have e := ga.out.symm.trans hx; simp only [Option.some.injEq] at e; rw [← e]; exact c1)
          rw [HM.out (by omega), this]
        clear HM HE HD
        go_wp2_with fail
        go_ret
        exact ⟨rfl, rfl⟩
      by_cases c2 : bw[k].toNat < aw[k].toNat
      · have hm : m = 1 := by
          have := cb_gt k _ _ _ HD.out ga.out (fun x hx => by have e := gb.out.symm.trans hx; simp only [Option.some.injEq] at e; rw [← e]; exact c2)
          rw [HM.out (by omega), this]
        clear HM HE HD
        go_wp2_with fail
        go_ret
        exact ⟨rfl, rfl⟩
      have c3 : aw[k].toNat = bw[k].toNat := by omega
      clear c1 c2
      go_wp2_with fail
      go_round
      case rel =>
        refine ⟨k + 1, by omega, by go_num, hid (fun j hj => ?_)⟩
        by_cases e : j = k
        · subst e
          rw [ga.out, gb.out, UInt8.toNat.inj c3]
        · exact HD.out j (by omega)
      case measure => simp [intOf]; omega
    · have he : aw = bw := whole_ext ha (fun j hj => HD.out j (by omega))
      have hm := hid (HE.out he)
      clear HM HE HD
      clear he
      by_cases hF : af.size < bf.size
      · go_wp2_with fail
        go_loop [16] (fun i => ∃ k : Nat, k ≤ bf.size ∧ i = .int .i64 k ∧ Hid (∀ j, j < k → pad af j = pad bf j)) (fun i => bf.size - (intOf i).toNat)
        case atStart => exact ⟨0, Nat.zero_le _, rfl, hid (fun j h => absurd h (Nat.not_lt_zero _))⟩
        case round =>
          obtain ⟨k, hk, rfl, HD⟩ := hrel
          by_cases hlt : k < bf.size
          · by_cases ia : k < af.size
            · have pa := pad_in af k ia
              by_cases ib : k < bf.size
              · have pb := pad_in bf k ib
                by_cases c1 : af[k].toNat < bf[k].toNat
                · have hm' : m = -1 := by rw [hm.out]; exact frac_lt af bf k CA.out.fd HD.out (by rw [pa, pb]; exact c1)
                  clear HD hm pa pb
                  go_wp2_with fail
                  go_ret
                  exact ⟨rfl, rfl⟩
                by_cases c2 : bf[k].toNat < af[k].toNat
                · have hm' : m = 1 := by rw [hm.out]; exact frac_gt CB.out.fd HD.out (by rw [pa, pb]; exact c2)
                  clear HD hm pa pb
                  go_wp2_with fail
                  go_ret
                  exact ⟨rfl, rfl⟩
                have c3 : af[k].toNat = bf[k].toNat := by omega
                have HP := hid (pads_step HD.out (by rw [pa, pb, UInt8.toNat.inj c3]))
                clear c1 c2 pa pb HD
                go_wp2_with fail
                go_round
                case rel => exact ⟨k + 1, by omega, by go_num, HP⟩
                case measure => simp [intOf]; omega
              · omega
            · have pa := pad_out af k (by omega)
              have ib : k < bf.size := by omega
              have pb := pad_in bf k ib
              have gd : 48 ≤ bf[k].toNat := CB.out.fd k _ (get_some bf k ib)
              by_cases c1 : 48 < bf[k].toNat
              · have hm' : m = -1 := by rw [hm.out]; exact frac_lt af bf k CA.out.fd HD.out (by rw [pa, pb]; exact c1)
                clear HD hm pa pb
                go_wp2_with fail
                go_ret
                exact ⟨rfl, rfl⟩
              have c3 : bf[k].toNat = 48 := by omega
              have HP := hid (pads_step HD.out (by rw [pa, pb]; exact (UInt8.toNat.inj c3).symm))
              clear c1 pa pb HD gd
              go_wp2_with fail
              go_round
              case rel => exact ⟨k + 1, by omega, by go_num, HP⟩
              case measure => simp [intOf]; omega
          · have he := frac_eq af bf (fun y h0 hy => CA.out.last y h0 hy) (fun y h0 hy => CB.out.last y h0 hy) k HD.out (by omega) (by omega)
            have hm' : m = 0 := by rw [hm.out, he]; exact cb_self _
            clear HD hm he
            go_wp2_with fail
            go_ret
            exact ⟨rfl, rfl⟩
      · go_wp2_with fail
        go_loop [16] (fun i => ∃ k : Nat, k ≤ af.size ∧ i = .int .i64 k ∧ Hid (∀ j, j < k → pad af j = pad bf j)) (fun i => af.size - (intOf i).toNat)
        case atStart => exact ⟨0, Nat.zero_le _, rfl, hid (fun j h => absurd h (Nat.not_lt_zero _))⟩
        case round =>
          obtain ⟨k, hk, rfl, HD⟩ := hrel
          by_cases hlt : k < af.size
          · by_cases ia : k < af.size
            · have pa := pad_in af k ia
              by_cases ib : k < bf.size
              · have pb := pad_in bf k ib
                by_cases c1 : af[k].toNat < bf[k].toNat
                · have hm' : m = -1 := by rw [hm.out]; exact frac_lt af bf k CA.out.fd HD.out (by rw [pa, pb]; exact c1)
                  clear HD hm pa pb
                  go_wp2_with fail
                  go_ret
                  exact ⟨rfl, rfl⟩
                by_cases c2 : bf[k].toNat < af[k].toNat
                · have hm' : m = 1 := by rw [hm.out]; exact frac_gt CB.out.fd HD.out (by rw [pa, pb]; exact c2)
                  clear HD hm pa pb
                  go_wp2_with fail
                  go_ret
                  exact ⟨rfl, rfl⟩
                have c3 : af[k].toNat = bf[k].toNat := by omega
                have HP := hid (pads_step HD.out (by rw [pa, pb, UInt8.toNat.inj c3]))
                clear c1 c2 pa pb HD
                go_wp2_with fail
                go_round
                case rel => exact ⟨k + 1, by omega, by go_num, HP⟩
                case measure => simp [intOf]; omega
              · have pb := pad_out bf k (by omega)
                have gd : 48 ≤ af[k].toNat := CA.out.fd k _ (get_some af k ia)
                by_cases c2 : 48 < af[k].toNat
                · have hm' : m = 1 := by rw [hm.out]; exact frac_gt CB.out.fd HD.out (by rw [pa, pb]; exact c2)
                  clear HD hm pa pb
                  go_wp2_with fail
                  go_ret
                  exact ⟨rfl, rfl⟩
                have c3 : af[k].toNat = 48 := by omega
                have HP := hid (pads_step HD.out (by rw [pa, pb]; exact UInt8.toNat.inj c3))
                clear c2 pa pb HD gd
                go_wp2_with fail
                go_round
                case rel => exact ⟨k + 1, by omega, by go_num, HP⟩
                case measure => simp [intOf]; omega
            · omega
          · have he := frac_eq af bf (fun y h0 hy => CA.out.last y h0 hy) (fun y h0 hy => CB.out.last y h0 hy) k HD.out (by omega) (by omega)
            have hm' : m = 0 := by rw [hm.out, he]; exact cb_self _
            clear HD hm he
            go_wp2_with fail
            go_ret
            exact ⟨rfl, rfl⟩
end Go.Proofs.Qxb6604458a.Num
