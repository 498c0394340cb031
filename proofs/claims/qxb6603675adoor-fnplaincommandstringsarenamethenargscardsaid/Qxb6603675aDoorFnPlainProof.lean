import Derived.Test.Qxb6603675aDoorPlain
import Derived.Test.Qxb6603675aDoorTie
import Derived.Test.Qxb6603675aDoorCards
import Derived.Deep.Matrix
import Derived.Carry
import Derived.LaidMore
import Derived.Stop.Joined
import Derived.SevenTiedAt
namespace Go.Proofs.Qxb6603675aDoor.fnPlain
open Go.ChangeShapes Go.WideShapes Go.ChangeAt Go.RowKit Go.Deep
open Go.ChangeMaps (open_string shut_string)

theorem own : ownKnob Tryd.prog.godebug = none := by kernel_rfl
theorem cells24 : Tryd.prog.cellsOf 24 = 1 := by kernel_rfl
theorem cells5 : Tryd.prog.cellsOf 5 = 1 := by kernel_rfl
theorem laidOut : laidOutB Tryd.prog = true := by kernel_rfl

/-- What came in, in the walk's words. -/
theorem rdAll_of_rows {w : World} {a : Addr} {len cap : Nat} {A : Nat → Option Addr} {L C : Nat → Nat} {Z : Nat → List Int} (hl : len ≤ cap)
    (h : ∀ r, r < cap → w.cell? (a.add r) = some (.slice (A r) (L r) (C r)) ∧ L r ≤ C r ∧ C r ≤ maxLen ∧ (Z r).length = C r ∧ (∀ n ∈ Z r, (Lit.int .u8 n).wf = true) ∧ (A r = .none → C r = 0) ∧
        ∀ a', A r = some a' → 0 ≤ a'.block ∧ ∀ c, c < C r → w.cell? (a'.add c) = some (.int .u8 ((Z r).getD c 0))) :
    Mem.RdAll w (some a) len A C (fun r => (Z r).take (L r)) ∧ (∀ r, r < len → A r = .none → ((Z r).take (L r)).length = 0 ∧ C r = 0) ∧ ∀ r, r < len → ((Z r).take (L r)).length ≤ maxLen := by
  have hlen : ∀ r, r < len → ((Z r).take (L r)).length = L r := fun r hr => by
    obtain ⟨_, h2, _, h4, _⟩ := h r (by omega)
    rw [List.length_take]; omega
  refine ⟨⟨fun hpos => ?_, fun r hr hz => ?_⟩, fun r hr hA => ?_, fun r hr => ?_⟩
  · obtain ⟨b, o, spot⟩ := a
    have hspot : spot = .none := by simpa [Addr.add] using World.cell?_spot (h 0 (by omega)).1
    subst hspot
    refine ⟨b, o, rfl, fun i hi => ?_⟩
    rw [hlen i hi, ← add_plain]
    exact (h i (by omega)).1
  · obtain ⟨h1, h2, h3, h4, h5, h6, h7⟩ := h r (by omega)
    have hz' : 0 < L r := by have := hlen r hr; simp only at hz; omega
    cases hA : A r with
    | none => have := h6 hA; omega
    | some a' =>
      obtain ⟨_, hc⟩ := h7 a' hA
      obtain ⟨b, o, spot⟩ := a'
      have hspot : spot = .none := by simpa [Addr.add] using World.cell?_spot (hc 0 (by omega))
      subst hspot
      refine ⟨b, o, rfl, fun i hi => ?_⟩
      simp only at hi
      rw [hlen r hr] at hi
      rw [← add_plain, hc i (by omega)]
      simp [List.getD_eq_getElem?_getD, List.getElem?_take_of_lt hi]
  · obtain ⟨h1, h2, h3, h4, h5, h6, h7⟩ := h r (by omega)
    have := h6 hA
    rw [hlen r hr]
    omega
  · obtain ⟨h1, h2, h3, _⟩ := h r (by omega)
    rw [hlen r hr]
    omega

abbrev laid3 : List (String × DataW Unit) := Rows.fnPlainCommandStringsAreNameThenArgsRow.laid

/-- The door's own heap meets the condition. -/
theorem door_met (os : Os) (args : Array Value) : laidMetH Tryd.prog laid3 ((World.doorLaid Tryd.prog 400 os).forCall (fun _ _ => 0) ⟨#[], args, []⟩).memory :=
  laidMetH_of_parts3 (fuel := 8) (laidMet_of_run' 8 (by kernel_rfl) (by kernel_rfl)) (by kernel_rfl) (by kernel_rfl)

set_option maxRecDepth 100000 in
theorem lifted (os : Os) (started : os.Started) (H : Type) (enc : TypeId × Value → H) :
    ReturnsInHanded {} Tryd.checked os 3 .any (fun w args => (Rows.fnPlainCommandStringsAreNameThenArgsSpec.pre enc Tryd.prog Tryd.f3 [] false w args ∧ laidMetH Tryd.prog laid3 w) ∧ sizedMet enc Tryd.prog Tryd.f3 (OpenSpec.ofChange Rows.fnPlainCommandStringsAreNameThenArgsSpec) false w args)
      (Rows.fnPlainCommandStringsAreNameThenArgsSpec.post enc Tryd.prog Tryd.f3 false true false false) := by
  refine returnsInHanded_of_change_and (C := Tryd.checked) (X := fun w _ => laidMetH Tryd.prog laid3 w) (fun _ _ _ hh h => h.of_heap hh) own started (by kernel_rfl) Tryd.func3
    (ChangeSpec.witness_shaped (enc := enc) (C := Tryd.checked) (os := os) (X := fun w _ => laidMetH Tryd.prog laid3 w) false (World.doorLaid Tryd.prog 400 os) #[.string ⟨#[]⟩, .slice .none 0 0] 8 rfl (World.shaped_of_RefB (by kernel_rfl) (by kernel_rfl)) (by kernel_rfl) (by kernel_rfl) (by kernel_rfl) (door_met os _)) ?_
  intro W base args ds gs before hval0 hW _ _ hL _
  have hval : ∀ (j : Nat) t v, Tryd.f3.params[j]? = some t → args[j]? = some v → Value.okWide Tryd.prog W .any base t v := hval0
  have hW' := hW
  obtain ⟨p, q, hA0, hV, rfl, hfz, hnd⟩ := hW
  have hA : DataW.TrodAll enc Tryd.prog W 0 (fun _ => true) true Tryd.f3.params.toList args.toList ds p := hA0
  rw [Tryd.params3] at hA hval
  obtain ⟨v0, v1, d0, d1, p0, p1, rfl, rfl, rfl, h0, h1⟩ := trodAll_two hA
  obtain ⟨rfl, rfl⟩ := trodVars_none hV
  obtain ⟨s, rfl, rfl, rfl, hs⟩ := open_string Tryd.underlying9 (hval 0 9 v0 rfl rfl) h0
  obtain ⟨a0, len, cap, rfl⟩ := okWide_slice Tryd.underlying22 (hval 1 22 v1 rfl rfl)
  clear hA0 hval0 hA hL hV hfz hnd hval
  simp only [List.append_nil, List.nil_append] at hW'
  have hlt : ∀ x ∈ p1, x.block < W.heap.size := fun x hx => by simpa using hW'.lt x hx
  -- the end, whatever came in
  have fin : ∀ e W', (e = Ending.returned (.bool true) ∧ Below W.heap.size W W') → ∃ v, e = .returned v ∧ Rows.fnPlainCommandStringsAreNameThenArgsSpec.post enc Tryd.prog Tryd.f3 false true false false W #[.string s, .slice a0 len cap] v W' := by
    rintro e W' ⟨rfl, hb⟩
    refine ⟨_, rfl, _, _, _, [], p1, [], hW', trodAll_mk1 (shut_bool Tryd.underlying4 true), ?_, rfl, hb.frame _, fun h => by cases h⟩
    exact trodAll_mk2 (shut_string Tryd.underlying9 hs) (Below.trod laidOut (by kernel_rfl) (of_decide_eq_true (by kernel_rfl)) h1 hb hlt)
  obtain ⟨fuel, hf⟩ := h1
  rcases open_int_rows Tryd.underlying22 Tryd.underlying24 Tryd.underlying5 cells24 cells5 hf with ⟨hcs, _⟩ | ⟨a, len', cap', A, L, C, Z, hcs, _, hl, hm, _, hrows⟩
  · simp [Value.cells] at hcs
    obtain ⟨rfl, rfl, rfl⟩ := hcs
    refine (Mem.plain s .none 0 0 (fun _ => .none) (fun _ => 0) (fun _ => []) W ⟨fun h => absurd h (Nat.not_lt_zero _), fun _ h => absurd h (Nat.not_lt_zero _)⟩ (fun _ => ⟨rfl, rfl⟩) (fun _ h => absurd h (Nat.not_lt_zero _)) hs (Nat.zero_le _) (fun _ h => absurd h (Nat.not_lt_zero _))).mono fin
  · simp [Value.cells] at hcs
    obtain ⟨rfl, rfl, rfl⟩ := hcs
    obtain ⟨r1, r2, r3⟩ := rdAll_of_rows hl hrows
    exact (Mem.plain s (some a) len cap A C _ W r1 (fun h => by cases h) r2 hs (Nat.le_trans hl hm) r3).mono fin

theorem row_holds : Rows.FnPlainCommandStringsAreNameThenArgsSaid :=
  OpenClaim.holds_of_wide 3 Tryd.f3 rfl rfl rfl rfl rfl rfl rfl ⟨rfl, rfl, rfl, rfl, rfl⟩ rfl rfl rfl rfl rfl (by kernel_rfl) Tryd.func3 (by kernel_rfl)
    (of_decide_eq_true (by kernel_rfl)) (by unfold Func.isWrapper; first | (rw [if_pos (by decide +kernel)]; kernel_rfl) | (rw [if_neg (by decide +kernel)]; exact ⟨rfl, rfl⟩))
    (fun os started H enc _ => lifted os started H enc)

/-- THE STATEMENT: the tied card. -/
theorem proved : Rows.FnPlainCommandStringsAreNameThenArgsCardSaid :=
  Claim7.holds_tied_plain_at .later [] [.data, .data, .data] true (true, "78313b99caccd255ccd6a62f18f7b533995ed2e8c186f1c5e949d5a125685737") false
    row_holds (fun _ h => by cases h) (by kernel_rfl) (fun _ h => by cases h) fnPlainCommandStringsAreNameThenArgs_row_tie rfl ⟨rfl, rfl⟩ (by kernel_rfl) rfl
    (fun f fn hf hfn => by
      obtain rfl : f = 3 := Option.some.inj ((show Tryd.prog.funcNamed Rows.fnPlainCommandStringsAreNameThenArgsRow.func = some 3 by kernel_rfl).symm.trans hf) |>.symm
      obtain rfl : fn = Tryd.f3 := (Option.some.inj (Tryd.func3.symm.trans hfn)).symm
      exact ⟨by kernel_rfl, fun j t ht => by
        rw [Tryd.params3] at ht
        have hm : t ∈ [9, 22] := by simpa using Array.mem_of_getElem? ht
        have hall : ([9, 22].all fun u => !Tryd.prog.wantsStandIn u) = true := by kernel_rfl
        exact (show Tryd.prog.wantsStandIn t = false by simpa using List.all_eq_true.1 hall t hm)⟩)
    (by kernel_rfl)
end Go.Proofs.Qxb6603675aDoor.fnPlain
