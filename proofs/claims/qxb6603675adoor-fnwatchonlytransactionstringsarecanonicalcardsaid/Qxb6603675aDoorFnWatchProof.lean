import Derived.Test.Qxb6603675aDoorLaw
import Derived.Test.Qxb6603675aDoorTie
import Derived.Test.Qxb6603675aDoorCards
import Derived.Deep.Matrix
import Derived.Carry
import Derived.OpenVars
import Derived.Lib.LaidTab
import Derived.Lib.RowBridge
import Derived.LaidMore
import Derived.Stop.Joined
import Derived.SevenTiedAt
namespace Go.Proofs.Qxb6603675aDoor.fnWatch
open Go.ChangeShapes Go.WideShapes Go.ChangeAt Go.RowKit Go.Deep

theorem own : ownKnob Tryd.prog.godebug = none := by kernel_rfl
theorem cells24 : Tryd.prog.cellsOf 24 = 1 := by kernel_rfl
theorem cells5 : Tryd.prog.cellsOf 5 = 1 := by kernel_rfl
theorem laidOut : laidOutB Tryd.prog = true := by kernel_rfl

/-- What came in, in the walk's words. -/
theorem rdAll_of_rows {w : World} {a : Addr} {len cap : Nat} {A : Nat → Option Addr} {L C : Nat → Nat} {Z : Nat → List Int} (hl : len ≤ cap)
    (h : ∀ r, r < cap → w.cell? (a.add r) = some (.slice (A r) (L r) (C r)) ∧ L r ≤ C r ∧ C r ≤ maxLen ∧ (Z r).length = C r ∧ (∀ n ∈ Z r, (Lit.int .u8 n).wf = true) ∧ (A r = .none → C r = 0) ∧
        ∀ a', A r = some a' → 0 ≤ a'.block ∧ ∀ c, c < C r → w.cell? (a'.add c) = some (.int .u8 ((Z r).getD c 0))) :
    Mem.RdAll w (some a) len A C (fun r => (Z r).take (L r)) ∧ (∀ r, r < len → A r = .none → ((Z r).take (L r)).length = 0 ∧ C r = 0) ∧ ∀ r, r < len → ((Z r).take (L r)).length ≤ maxLen := by
  have hlen : ∀ r, r < len → ((Z r).take (L r)).length = L r := fun r hr => by
    obtain ⟨_, h2, _, h4, _⟩ := h r (by omega)
    rw [List.length_take]; omega
  refine ⟨⟨fun hpos => ?_, fun r hr hz => ?_⟩, fun r hr hA => ?_, fun r hr => ?_⟩
  · obtain ⟨b, o, spot⟩ := a
    have hspot : spot = .none := by simpa [Addr.add] using World.cell?_spot (h 0 (by omega)).1
    subst hspot
    refine ⟨b, o, rfl, fun i hi => ?_⟩
    rw [hlen i hi, ← add_plain]
    exact (h i (by omega)).1
  · obtain ⟨h1, h2, h3, h4, h5, h6, h7⟩ := h r (by omega)
    have hz' : 0 < L r := by have := hlen r hr; simp only at hz; omega
    cases hA : A r with
    | none => have := h6 hA; omega
    | some a' =>
      obtain ⟨_, hc⟩ := h7 a' hA
      obtain ⟨b, o, spot⟩ := a'
      have hspot : spot = .none := by simpa [Addr.add] using World.cell?_spot (hc 0 (by omega))
      subst hspot
      refine ⟨b, o, rfl, fun i hi => ?_⟩
      simp only at hi
      rw [hlen r hr] at hi
      rw [← add_plain, hc i (by omega)]
      simp [List.getD_eq_getElem?_getD, List.getElem?_take_of_lt hi]
  · obtain ⟨h1, h2, h3, h4, h5, h6, h7⟩ := h r (by omega)
    have := h6 hA
    rw [hlen r hr]
    omega
  · obtain ⟨h1, h2, h3, _⟩ := h r (by omega)
    rw [hlen r hr]
    omega

theorem cells40 : Tryd.prog.cellsOf 40 = 1 := by kernel_rfl

abbrev laid4 : List (String × DataW Unit) := Rows.fnWatchOnlyTransactionStringsAreCanonicalRow.laid

/-- The door's own heap meets the condition. -/
theorem door_met (os : Os) (args : Array Value) : laidMetH Tryd.prog laid4 ((World.doorLaid Tryd.prog 400 os).forCall (fun _ _ => 0) ⟨#[], args, []⟩).memory :=
  laidMetH_of_parts3 (fuel := 8) (laidMet_of_run' 8 (by kernel_rfl) (by kernel_rfl)) (by kernel_rfl) (by kernel_rfl)

theorem cells84 : Tryd.prog.cellsOf 84 = 20 := by kernel_rfl
theorem tabGlobal : Tryd.prog.globalNamed Sh.tabName = some 1 := by kernel_rfl
theorem tabType : (Tryd.prog.globals[1]?).map (·.type) = some 84 := by kernel_rfl
theorem tabData_eq : Rows.laid_internal_strconv_uint64pow10 (H := Unit) = Lib.tabData .u64 Lib.pow10Tab := by kernel_rfl

/-- What the condition gives the walk: the table of powers of ten. -/
theorem tab_of_laid {W : World} (h : laidMetH Tryd.prog laid4 W) : Mem.Tab W := by
  rw [MakeChecks.laidMetH_plain _ _ _ (by kernel_rfl)] at h
  obtain ⟨ps, ⟨g0, t0, cs0, f0, p0, q0, hg0, ht0, hv0, hd0, ⟨g1, t1, cs1, f1, p1, q1, hg1, ht1, hv1, hd1, ⟨g2, t2, cs2, f2, p2, q2, hg2, ht2, hv2, hd2, _, _⟩, _⟩, _⟩, _⟩ := h
  obtain rfl := Option.some.inj (tabGlobal.symm.trans hg2)
  obtain rfl := Option.some.inj (tabType.symm.trans ht2)
  rw [tabData_eq] at hd2
  have hv : W.var? Tryd.prog Sh.tabName = some cs2 := hv2
  unfold Mem.Tab Lib.TabIs
  rw [hv, ← Lib.cells_of_tab Tryd.underlying84 Tryd.underlying40 cells40 cells84 hd2]

theorem bounds_u64' {n : Int} (h : (Lit.int .u64 n).wf = true) : 0 ≤ n ∧ n < 18446744073709551616 := by
  simp [Lit.wf, IntKind.min, IntKind.max, IntKind.signed, IntKind.bits] at h
  omega

/-- The words that came in, in the walk's words. -/
theorem rdU_of_ints {w : World} {a : Addr} {len : Nat} {zs : List Int} (hl : len ≤ zs.length) (hc : ∀ j, j < zs.length → w.cell? (a.add j) = some (.int .u64 (zs.getD j 0))) (hw : ∀ n ∈ zs, (Lit.int .u64 n).wf = true) :
    Mem.RdU w (some a) len (fun i => (zs.getD i 0).toNat) ∧ ∀ i, i < len → (zs.getD i 0).toNat < 18446744073709551616 := by
  have hb : ∀ i, i < len → 0 ≤ zs.getD i 0 ∧ zs.getD i 0 < 18446744073709551616 := fun i hi => by
    have hm : zs.getD i 0 ∈ zs := by
      have hi' : i < zs.length := by omega
      rw [List.getD_eq_getElem?_getD, List.getElem?_eq_getElem hi']
      exact List.getElem_mem hi'
    exact bounds_u64' (hw _ hm)
  refine ⟨fun hpos => ?_, fun i hi => by have := hb i hi; omega⟩
  obtain ⟨b, o, spot⟩ := a
  have hspot : spot = .none := by simpa [Addr.add] using World.cell?_spot (hc 0 (by omega))
  subst hspot
  refine ⟨b, o, rfl, fun i hi => ?_⟩
  have e : (((zs.getD i 0).toNat : Nat) : Int) = zs.getD i 0 := by have := hb i hi; omega
  rw [← add_plain, hc i (by omega), e]

set_option maxRecDepth 100000 in
theorem lifted (os : Os) (started : os.Started) (H : Type) (enc : TypeId × Value → H) :
    ReturnsInHanded {} Tryd.checked os 4 .any (fun w args => (Rows.fnWatchOnlyTransactionStringsAreCanonicalSpec.pre enc Tryd.prog Tryd.f4 [] false w args ∧ laidMetH Tryd.prog laid4 w) ∧ sizedMet enc Tryd.prog Tryd.f4 (OpenSpec.ofChange Rows.fnWatchOnlyTransactionStringsAreCanonicalSpec) false w args)
      (Rows.fnWatchOnlyTransactionStringsAreCanonicalSpec.post enc Tryd.prog Tryd.f4 false true false false) := by
  refine returnsInHanded_of_change_and (C := Tryd.checked) (X := fun w _ => laidMetH Tryd.prog laid4 w) (fun _ _ _ hh h => h.of_heap hh) own started (by kernel_rfl) Tryd.func4
    (ChangeSpec.witness_shaped (enc := enc) (C := Tryd.checked) (os := os) (X := fun w _ => laidMetH Tryd.prog laid4 w) false (World.doorLaid Tryd.prog 400 os) #[.slice .none 0 0, .slice .none 0 0] 8 rfl (World.shaped_of_RefB (by kernel_rfl) (by kernel_rfl)) (by kernel_rfl) (by kernel_rfl) (by kernel_rfl) (door_met os _)) ?_
  intro W base args ds gs before hval0 hW _ _ hL _
  have hval : ∀ (j : Nat) t v, Tryd.f4.params[j]? = some t → args[j]? = some v → Value.okWide Tryd.prog W .any base t v := hval0
  have hW' := hW
  obtain ⟨p, q, hA0, hV, rfl, hfz, hnd⟩ := hW
  have hA : DataW.TrodAll enc Tryd.prog W 0 (fun _ => true) true Tryd.f4.params.toList args.toList ds p := hA0
  rw [Tryd.params4] at hA hval
  obtain ⟨v0, v1, d0, d1, p0, p1, rfl, rfl, rfl, h0, h1⟩ := trodAll_two hA
  obtain ⟨g1, rfl⟩ : ∃ g1, gs = [g1] := by
    match gs, hV with
    | [g1], _ => exact ⟨g1, rfl⟩
  obtain ⟨a0, len, cap, rfl⟩ := okWide_slice Tryd.underlying22 (hval 0 22 v0 rfl rfl)
  obtain ⟨x0, len1, cap1, rfl⟩ := okWide_slice Tryd.underlying36 (hval 1 36 v1 rfl rfl)
  have hT := tab_of_laid hL
  clear hA0 hval0 hA hL hfz hnd hval
  have hlt0 : ∀ x ∈ p0, x.block < W.heap.size := fun x hx => hW'.lt x (by simp [hx])
  have hlt1 : ∀ x ∈ p1, x.block < W.heap.size := fun x hx => hW'.lt x (by simp [hx])
  have fin : ∀ e W', (e = Ending.returned (.bool true) ∧ Below W.heap.size W W') → ∃ v, e = .returned v ∧ Rows.fnWatchOnlyTransactionStringsAreCanonicalSpec.post enc Tryd.prog Tryd.f4 false true false false W #[.slice a0 len cap, .slice x0 len1 cap1] v W' := by
    rintro e W' ⟨rfl, hb⟩
    refine ⟨_, rfl, _, _, _, [], p0 ++ p1, q, hW', trodAll_mk1 (shut_bool Tryd.underlying4 true), ?_, Below.trodVars laidOut hb (by kernel_rfl) hV, hb.frame _, fun h => by cases h⟩
    exact trodAll_mk2 (Below.trod laidOut (by kernel_rfl) (of_decide_eq_true (by kernel_rfl)) h0 hb hlt0) (Below.trod laidOut (by kernel_rfl) (of_decide_eq_true (by kernel_rfl)) h1 hb hlt1)
  -- the two arguments opened
  have k0 : ∃ (A : Nat → Option Addr) (C : Nat → Nat) (Z : Nat → List Int), Mem.RdAll W a0 len A C Z ∧ (a0 = .none → len = 0 ∧ cap = 0) ∧ (∀ i, i < len → A i = .none → (Z i).length = 0 ∧ C i = 0) ∧ len ≤ maxLen ∧ ∀ i, i < len → (Z i).length ≤ maxLen := by
    obtain ⟨fuel, hf⟩ := h0
    rcases open_int_rows Tryd.underlying22 Tryd.underlying24 Tryd.underlying5 cells24 cells5 hf with ⟨hcs, _⟩ | ⟨a, len', cap', A, L, C, Z, hcs, _, hl, hm, _, hrows⟩
    · simp [Value.cells] at hcs
      obtain ⟨rfl, rfl, rfl⟩ := hcs
      exact ⟨fun _ => .none, fun _ => 0, fun _ => [], ⟨fun h => absurd h (Nat.not_lt_zero _), fun _ h => absurd h (Nat.not_lt_zero _)⟩, fun _ => ⟨rfl, rfl⟩, fun _ h => absurd h (Nat.not_lt_zero _), Nat.zero_le _, fun _ h => absurd h (Nat.not_lt_zero _)⟩
    · simp [Value.cells] at hcs
      obtain ⟨rfl, rfl, rfl⟩ := hcs
      obtain ⟨r1, r2, r3⟩ := rdAll_of_rows hl hrows
      exact ⟨A, C, _, r1, (fun h => by cases h), r2, Nat.le_trans hl hm, r3⟩
  have k1 : ∃ (U : Nat → Nat), Mem.RdU W x0 len1 U ∧ (x0 = .none → len1 = 0 ∧ cap1 = 0) ∧ len1 ≤ maxLen ∧ ∀ i, i < len1 → U i < 18446744073709551616 := by
    obtain ⟨fuel, hf⟩ := h1
    rcases open_ints Tryd.underlying36 Tryd.underlying40 cells40 hf with ⟨hcs, _⟩ | ⟨a, len', cap', zs, hcs, _, hl, hm, hz, _, hcell, hwz⟩
    · simp [Value.cells] at hcs
      obtain ⟨rfl, rfl, rfl⟩ := hcs
      exact ⟨fun _ => 0, fun h => absurd h (Nat.not_lt_zero _), fun _ => ⟨rfl, rfl⟩, Nat.zero_le _, fun _ h => absurd h (Nat.not_lt_zero _)⟩
    · simp [Value.cells] at hcs
      obtain ⟨rfl, rfl, rfl⟩ := hcs
      simp only [if_true] at hz
      obtain ⟨r1, r2⟩ := rdU_of_ints (len := len1) (by omega) hcell hwz
      exact ⟨_, r1, (fun h => by cases h), Nat.le_trans hl hm, r2⟩
  obtain ⟨A, C, Z, r1, r2, r3, r4, r5⟩ := k0
  obtain ⟨U, u1, u2, u3, u4⟩ := k1
  exact (Mem.watch a0 len cap A C Z x0 len1 cap1 U W r1 r2 r3 u1 u2 r4 u3 r5 u4 hT).mono fin

theorem row_holds : Rows.FnWatchOnlyTransactionStringsAreCanonicalSaid :=
  OpenClaim.holds_of_wide 4 Tryd.f4 rfl rfl rfl rfl rfl rfl rfl ⟨rfl, rfl, rfl, rfl, rfl⟩ rfl rfl rfl rfl rfl (by kernel_rfl) Tryd.func4 (by kernel_rfl)
    (of_decide_eq_true (by kernel_rfl)) (by unfold Func.isWrapper; first | (rw [if_pos (by decide +kernel)]; kernel_rfl) | (rw [if_neg (by decide +kernel)]; exact ⟨rfl, rfl⟩))
    (fun os started H enc _ => lifted os started H enc)

/-- THE STATEMENT: the tied card. -/
theorem proved : Rows.FnWatchOnlyTransactionStringsAreCanonicalCardSaid :=
  Claim7.holds_tied_plain_at .later [] [.data, .data, .data, .sentinel] true (true, "78313b99caccd255ccd6a62f18f7b533995ed2e8c186f1c5e949d5a125685737") false
    row_holds (fun _ h => by cases h) (by kernel_rfl) (fun _ h => by cases h) fnWatchOnlyTransactionStringsAreCanonical_row_tie rfl ⟨rfl, rfl⟩ (by kernel_rfl) rfl
    (fun f fn hf hfn => by
      obtain rfl : f = 4 := Option.some.inj ((show Tryd.prog.funcNamed Rows.fnWatchOnlyTransactionStringsAreCanonicalRow.func = some 4 by kernel_rfl).symm.trans hf) |>.symm
      obtain rfl : fn = Tryd.f4 := (Option.some.inj (Tryd.func4.symm.trans hfn)).symm
      exact ⟨by kernel_rfl, fun j t ht => by
        rw [Tryd.params4] at ht
        have hm : t ∈ [22, 36] := by simpa using Array.mem_of_getElem? ht
        have hall : ([22, 36].all fun u => !Tryd.prog.wantsStandIn u) = true := by kernel_rfl
        exact (show Tryd.prog.wantsStandIn t = false by simpa using List.all_eq_true.1 hall t hm)⟩)
    (by kernel_rfl)
end Go.Proofs.Qxb6603675aDoor.fnWatch
