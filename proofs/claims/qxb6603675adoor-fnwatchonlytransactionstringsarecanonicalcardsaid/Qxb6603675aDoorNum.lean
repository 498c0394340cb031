import Derived.Test.Qxb6603675aDoorShelf
import Derived.Test.Qxb6603675aDoorLeaf2
import Derived.Lib.AppendIntMem
import Derived.Lib.ItoaMem
import Derived.Lib.ItoaWalk
namespace Go.Proofs.Qxb6603675aDoor.Mem
open Go.ChangeShapes Go.WideShapes Go.ChangeAt Go.RowKit Go.Sort

/-- The table of powers of ten lies in its variable. -/
def Tab (w : World) : Prop := Lib.TabIs Tryd.prog w Sh.tabName .u64 Lib.pow10Tab

theorem Tab.below {w w' : World} (h : Tab w) (hb : Below w.heap.size w w') : Tab w' := by
  unfold Tab Lib.TabIs World.var? at *
  cases hg : Tryd.prog.globalNamed Sh.tabName with
  | none => rw [hg] at h; simp at h
  | some g =>
    rw [hg] at h
    simp only [Option.bind_some] at h ⊢
    have hlt : g < w.heap.size := by
      rcases Nat.lt_or_ge g w.heap.size with hl | hl
      · exact hl
      · rw [Array.getElem?_eq_none hl] at h; simp at h
    rw [hb.block g hlt]
    exact h

/-- u's decimal numeral, as numbers. -/
def digits (u : Nat) : List Int := (Lib.decDigits u).map fun c => (c.toNat : Int)

theorem digits_len (u : Nat) : (digits u).length = Lib.nDigits u := by unfold digits; rw [List.length_map, Lib.decDigits_length]

theorem nDigits_le (u : Nat) (h : u < 18446744073709551616) : Lib.nDigits u ≤ 20 := by
  by_cases h1 : 1 ≤ u
  · have := Lib.numDigits_eq u h1 h; split at this <;> omega
  · have h0 : u = 0 := by omega
    subst h0
    rw [Lib.nDigits_small (by decide)]; omega

set_option maxHeartbeats 1000000 in
set_option maxRecDepth 100000 in
/-- 'strconv.FormatUint(u, 10)': some string of at most 20 bytes; new blocks alone. -/
theorem formatUint29 (u : Nat) (hu64 : u < 18446744073709551616) (w : World) (htab : Tab w) :
    Calls Tryd.prog 29 #[.int .u64 u, .int .i64 10] w fun e w' => ∃ s : ByteArray, e = .returned (.string s) ∧ s.size ≤ 20 ∧ Below w.heap.size w w' := by
  by_cases hs : u < 100
  · have hl : (Lib.decDigits u).length ≤ 20 := by rw [Lib.decDigits_length]; exact nDigits_le u hu64
    have iu : (u : Int) < 100 := by omega
    have c := Sh.internal_strconv_small u hs w
    have HC := hid c
    clear c htab
    go_enter Tryd.func29, Tryd.ntmps29
    go_wp2_with fail
    refine HC.out.mono ?_
    rintro e w' ⟨rfl, rfl⟩
    go_wp2_with fail
    go_ret
    exact ⟨_, rfl, by simpa [ByteArray.size] using hl, Below.refl _ _⟩
  · have hu1 : 1 ≤ u := by omega
    have hnd20 := nDigits_le u hu64
    have hal : Tryd.prog.arrayLen 66 = 24 := by simp [Program.arrayLen, Tryd.underlying66]
    have hsl : ∀ W, (Instr.sliceAt 66 (.pointer (some ⟨w.heap.size, 0, .none⟩)) .none (some (.int .i64 (Lib.nDigits u : Int))) .none).run Tryd.prog W = .ok (.slice (some ⟨w.heap.size, 0, .none⟩) (Lib.nDigits u) 24) W := fun W => by
      rw [run_sliceAt_array_h W 66 ⟨w.heap.size, 0, .none⟩ (by simp [Program.arrayLen, Program.elem, Tryd.underlying66]) .i64 (Lib.nDigits u : Int) (by omega) (by rw [hal]; omega)]
      go_simp
    have hH0 := Lib.holds_zero0 w 66 (Lib.nDigits u) (by omega)
    have hfmt := Sh.internal_strconv_formatBase10 w.heap.size 0 24 u (Array.replicate (Lib.nDigits u) 0) (w.alloc (.cells Lib.zeros24 66)) hH0 (by rw [Array.size_replicate]; exact Lib.lt_pow_nDigits u) hu64 (by rw [Array.size_replicate]; omega)
    rw [Array.size_replicate] at hfmt
    have HH0 := hid hH0
    have HF := hid hfmt
    have HT := hid htab
    have iu : (100 : Int) ≤ (u : Int) := by omega
    clear hH0 hal hfmt htab
    go_enter Tryd.func29, Tryd.ntmps29
    go_wp2_with fail
    refine (Sh.internal_strconv_numDigits u hu1 hu64 _ (Lib.tabIs_alloc HT.out _)).mono ?_
    rintro e w' ⟨rfl, rfl⟩
    go_wp2_with fail
    refine HF.out.mono ?_
    rintro e w' ⟨rfl, k, v', dk, rfl, hF⟩
    have hcv : (convert 24 9 (.slice (some ⟨w.heap.size, 0, .none⟩) (Lib.nDigits u) 24)).run Tryd.prog ((putRow (fun (b : UInt8) => Value.int .u8 (b.toNat : Int)) (w.alloc (.cells Lib.zeros24 66)) w.heap.size 0 dk).drewN k) = .ok (.string ⟨(Lib.decDigits u).toArray⟩) ((putRow (fun (b : UInt8) => Value.int .u8 (b.toNat : Int)) (w.alloc (.cells Lib.zeros24 66)) w.heap.size 0 dk).drewN k) := by
      have h := run_convert_bytes_back (P := Tryd.prog) ((putRow (fun (b : UInt8) => Value.int .u8 (b.toNat : Int)) (w.alloc (.cells Lib.zeros24 66)) w.heap.size 0 dk).drewN k) 24 9 5 ⟨w.heap.size, 0, .none⟩ 24 (Lib.decDigits u) Tryd.underlying24 Tryd.underlying5 Tryd.underlying9 (fun j hj => by
        rw [Lib.add_plain, Lib.row_is_numeral hF j hj, World.cell?_drewN]
        exact cell?_putRow (fun (b : UInt8) => Value.int .u8 (b.toNat : Int)) _ w.heap.size 0 _ dk HH0.out (by rw [hF.size, Array.size_replicate]) j (by rw [hF.size]; rw [Lib.decDigits_length] at hj; exact hj))
      rw [Lib.decDigits_length] at h
      exact h
    obtain ⟨os, eo⟩ := Lib.fin_at w (.cells Lib.zeros24 66) dk k 0
    have hb : Below w.heap.size w ((putRow (fun (b : UInt8) => Value.int .u8 (b.toNat : Int)) (w.alloc (.cells Lib.zeros24 66)) w.heap.size 0 dk).drewN k) := by rw [eo]; exact Lib.below_grow w.heap.size w (Nat.le_refl _) k os
    have hsz : (⟨(Lib.decDigits u).toArray⟩ : ByteArray).size ≤ 20 := by simpa [ByteArray.size, Lib.decDigits_length] using hnd20
    generalize (⟨(Lib.decDigits u).toArray⟩ : ByteArray) = t at hcv hsz
    generalize (putRow (fun (b : UInt8) => Value.int .u8 (b.toNat : Int)) (w.alloc (.cells Lib.zeros24 66)) w.heap.size 0 dk).drewN k = W2 at hcv hb ⊢
    clear eo HH0 HF hF
    go_wp2_with fail
    go_ret
    exact ⟨_, rfl, hsz, hb⟩

set_option maxHeartbeats 400000 in
theorem decimalLen (u : Nat) (hu64 : u < 18446744073709551616) (w : World) (htab : Tab w) :
    Calls Tryd.prog 21 #[.int .u64 u] w fun e w' => ∃ L : Nat, e = .returned (.int .i64 L) ∧ L ≤ 20 ∧ Below w.heap.size w w' := by
  have HC := hid (formatUint29 u hu64 w htab)
  clear htab hu64
  go_enter Tryd.func21, Tryd.ntmps21
  go_wp2_with fail
  go_enter Tryd.func25, Tryd.ntmps25
  go_wp2_with fail
  refine HC.out.mono ?_
  rintro e w' ⟨s, rfl, hs, hb⟩
  go_wp2_with fail
  go_ret
  exact ⟨s.size, rfl, hs, hb⟩

/-- The value is a slice of bytes in new memory that reads 'z'. -/
def NewB (w w' : World) (z : List Int) (v : Value) : Prop := ∃ A C, v = .slice A z.length C ∧ RdB w' A z ∧ (∀ a, A = some a → ∃ c fr, w'.heap[a.block]? = some (.cells c 5 fr)) ∧ Below w.heap.size w w'

theorem newB_of_own {w w' : World} {u : Nat} {v : Value} (h : w'.ownsRow w.heap.size 5 1 v (0 + (Lib.decDigits u).length) ([] ++ Lib.byteCells (Lib.decDigits u))) (hb : Below w.heap.size w w') : NewB w w' (digits u) v := by
  obtain ⟨hlen, ⟨rfl, h0⟩ | ⟨g, c', cur, rfl, hg', hheap, hle, hmx, hcur, htake⟩⟩ := h
  · refine ⟨.none, 0, ?_, fun hz => ?_, (fun a h => by cases h), hb⟩
    · rw [digits_len, ← Lib.decDigits_length]; congr 1; omega
    · rw [digits_len, ← Lib.decDigits_length] at hz; omega
  · refine ⟨some ⟨g, 0, .none⟩, c', ?_, fun hz => ⟨g, 0, rfl, fun i hi => ?_⟩, (fun a h => by cases h; exact ⟨_, _, hheap⟩), hb⟩
    · rw [digits_len, ← Lib.decDigits_length, Nat.zero_add]
    · rw [digits_len, ← Lib.decDigits_length] at hi
      have e : cur[i]? = (Lib.byteCells (Lib.decDigits u))[i]? := by
        rw [List.nil_append] at htake
        rw [← htake, List.getElem?_take_of_lt (by omega)]
        simp
      simp only [World.cell?, hheap, Nat.zero_add, e]
      simp [Lib.byteCells, digits, List.getD_eq_getElem?_getD, hi]

set_option maxHeartbeats 400000 in
/-- 'strconv.AppendUint(nil, u, 10)': u's decimal numeral in new memory. -/
theorem appendUint (u : Nat) (hu64 : u < 18446744073709551616) (w : World) (htab : Tab w) :
    Calls Tryd.prog 27 #[.slice .none 0 0, .int .u64 u, .int .i64 10] w fun e w' => ∃ v, e = .returned v ∧ NewB w w' (digits u) v := by
  have HC := hid (Sh.internal_strconv_AppendUint_10 w.heap.size 0 u hu64 (.slice .none 0 0) [] w (World.ownsRow_nil w _ 5 1) (Nat.le_refl _) (by omega) htab)
  clear htab hu64
  go_enter Tryd.func27, Tryd.ntmps27
  go_wp2_with fail
  refine HC.out.mono ?_
  rintro e w' ⟨v, rfl, hown, hb, -⟩
  have hN := newB_of_own hown hb
  clear hown HC
  obtain ⟨A, C, rfl, hr, ht, hb⟩ := hN
  go_wp2_with fail
  go_ret
  exact ⟨_, rfl, A, C, rfl, hr, ht, hb⟩
end Go.Proofs.Qxb6603675aDoor.Mem
