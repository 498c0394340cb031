import Derived.Test.Qxb6604458aFold
import Derived.Deep.Strs
import Derived.Deep.Grids
import Derived.Carry
namespace Go.Proofs.Qxb6604458a.fnWithFold
open Go.ChangeShapes Go.WideShapes Go.ChangeAt Go.RowKit Go.Deep

theorem own : ownKnob Try.prog.godebug = none := by kernel_rfl
theorem cells4 : Try.prog.cellsOf 4 = 1 := by kernel_rfl
theorem cells9 : Try.prog.cellsOf 9 = 1 := by kernel_rfl
theorem laidOut : laidOutB Try.prog = true := by kernel_rfl

/-- What came in, in the walk's words. -/
theorem rd_of {w : World} {a : Addr} {len m : Nat} {f : Nat → Value} (hl : len ≤ m) (h : ∀ i, i < m → w.cell? (a.add i) = some (f i)) : Num.Rd w (some a) len f := fun hpos => by
  obtain ⟨b, o, spot⟩ := a
  have hspot : spot = .none := by simpa [Addr.add] using World.cell?_spot (h 0 (by omega))
  subst hspot
  refine ⟨b, o, rfl, fun i hi => ?_⟩
  rw [← add_plain]
  exact h i (by omega)

set_option maxRecDepth 100000 in
theorem lifted (os : Os) (started : os.Started) (H : Type) (enc : TypeId × Value → H) :
    ReturnsInHanded {} Try.checked os 4 .any (Rows.fnWithFoldGivesLeastAndGreatestSpec.pre6 enc Try.prog Try.f4 Rows.fnWithFoldGivesLeastAndGreatestRow.domain false) (Rows.fnWithFoldGivesLeastAndGreatestSpec.post enc Try.prog Try.f4 false true false false) := by
  refine returnsInHanded_of_change (C := Try.checked) own started (by kernel_rfl) Try.func4
    (ChangeSpec.witness6 (enc := enc) (C := Try.checked) false ⟨#[], #[.slice .none 0 0, .slice .none 0 0, .slice .none 0 0], []⟩ 8 (by kernel_rfl) (by kernel_rfl) (by kernel_rfl) (by kernel_rfl)) ?_
  intro W base args ds gs before hval0 hW hcnd _
  have hval : ∀ (j : Nat) t v, Try.f4.params[j]? = some t → args[j]? = some v → Value.okWide Try.prog W .any base t v := hval0
  have hW' := hW
  obtain ⟨p, q, hA0, hV, rfl, hfz, hnd⟩ := hW
  have hA : DataW.TrodAll enc Try.prog W 0 (fun _ => true) true Try.f4.params.toList args.toList ds p := hA0
  rw [Try.params4] at hA hval
  obtain ⟨v0, v1, v2, d0, d1, d2, p0, p1, p2, rfl, rfl, rfl, h0, h1, h2⟩ := trodAll_three hA
  obtain ⟨rfl, rfl⟩ := trodVars_none hV
  obtain ⟨a0, len0, cap0, rfl⟩ := okWide_slice Try.underlying37 (hval 0 37 v0 rfl rfl)
  obtain ⟨a1, len1, cap1, rfl⟩ := okWide_slice Try.underlying38 (hval 1 38 v1 rfl rfl)
  obtain ⟨a2, len2, cap2, rfl⟩ := okWide_slice Try.underlying38 (hval 2 38 v2 rfl rfl)
  clear hA0 hval0 hA hV hfz hnd hval hcnd
  simp only [List.append_nil, List.append_assoc] at hW'
  have hlt0 : ∀ x ∈ p0, x.block < W.heap.size := fun x hx => hW'.lt x (by simp [hx])
  have hlt1 : ∀ x ∈ p1, x.block < W.heap.size := fun x hx => hW'.lt x (by simp [hx])
  have hlt2 : ∀ x ∈ p2, x.block < W.heap.size := fun x hx => hW'.lt x (by simp [hx])
  have fin : ∀ e W', (e = Ending.returned (.bool true) ∧ Below W.heap.size W W') → ∃ v, e = .returned v ∧ Rows.fnWithFoldGivesLeastAndGreatestSpec.post enc Try.prog Try.f4 false true false false W #[.slice a0 len0 cap0, .slice a1 len1 cap1, .slice a2 len2 cap2] v W' := by
    rintro e W' ⟨rfl, hb⟩
    refine ⟨_, rfl, _, _, _, [], p0 ++ (p1 ++ p2), [], hW', trodAll_mk1 (shut_bool Try.underlying4 true), ?_, rfl, hb.frame _, fun h => by cases h⟩
    exact trodAll_mk3 (Below.trod laidOut (by kernel_rfl) (of_decide_eq_true (by kernel_rfl)) h0 hb hlt0) (Below.trod laidOut (by kernel_rfl) (of_decide_eq_true (by kernel_rfl)) h1 hb hlt1) (Below.trod laidOut (by kernel_rfl) (of_decide_eq_true (by kernel_rfl)) h2 hb hlt2)
  have k0 : ∃ P : Nat → Bool, Num.Rd W a0 len0 (fun i => .bool (P i)) ∧ (a0 = .none → len0 = 0 ∧ cap0 = 0) ∧ len0 ≤ maxLen := by
    obtain ⟨fuel, hf⟩ := h0
    rcases open_bools Try.underlying37 Try.underlying4 cells4 hf with ⟨hcs, _⟩ | ⟨a, len', cap', B', hcs, _, hl, hm, _, hc⟩
    · simp [Value.cells] at hcs
      obtain ⟨rfl, rfl, rfl⟩ := hcs
      exact ⟨fun _ => false, fun h => absurd h (Nat.not_lt_zero _), fun _ => ⟨rfl, rfl⟩, Nat.zero_le _⟩
    · simp [Value.cells] at hcs
      obtain ⟨rfl, rfl, rfl⟩ := hcs
      exact ⟨_, rd_of hl hc, (fun h => by cases h), Nat.le_trans hl hm⟩
  have ks : ∀ (a : Option Addr) (len cap : Nat) (d : DataW H) (p : List MemPlace), DataW.Trod enc Try.prog W 0 (fun _ => true) true 38 (.slice a len cap) d p → ∃ S : Nat → ByteArray, Num.Rd W a len (fun i => .string (S i)) ∧ (a = .none → len = 0 ∧ cap = 0) ∧ len ≤ maxLen ∧ ∀ i, i < len → (S i).size ≤ maxLen := by
    intro a len cap d p h
    obtain ⟨fuel, hf⟩ := h
    rcases open_strs Try.underlying38 Try.underlying9 cells9 hf with ⟨hcs, _⟩ | ⟨a', len', cap', m, Sx, hcs, _, hl, hm, hmm, _, hc⟩
    · simp [Value.cells] at hcs
      obtain ⟨rfl, rfl, rfl⟩ := hcs
      exact ⟨fun _ => ⟨#[]⟩, fun h => absurd h (Nat.not_lt_zero _), fun _ => ⟨rfl, rfl⟩, Nat.zero_le _, fun _ h => absurd h (Nat.not_lt_zero _)⟩
    · simp [Value.cells] at hcs
      obtain ⟨rfl, rfl, rfl⟩ := hcs
      simp only [if_true] at hmm
      subst hmm
      exact ⟨Sx, rd_of hl (fun i hi => (hc i hi).1), (fun h => by cases h), Nat.le_trans hl hm, fun i hi => (hc i (by omega)).2⟩
  obtain ⟨P, rA, zA, nA⟩ := k0
  obtain ⟨Q, rB, zB, nB, sB⟩ := ks _ _ _ _ _ h1
  obtain ⟨R, rF, zF, nF, sF⟩ := ks _ _ _ _ _ h2
  exact (Num.law a0 a1 a2 len0 len1 len2 cap0 cap1 cap2 P Q R W rA rB rF zA zB zF nA nB nF sB sF).mono fin

theorem over : Rows.fnWithFoldGivesLeastAndGreatestRow.holds Try.pinned (OpenSpec.ofChange Rows.fnWithFoldGivesLeastAndGreatestSpec) :=
  OpenClaim.holds_of_wide 4 Try.f4 rfl rfl rfl rfl rfl rfl rfl ⟨rfl, rfl, rfl, rfl, rfl⟩ rfl rfl rfl rfl rfl (by kernel_rfl) Try.func4 (by kernel_rfl)
    (of_decide_eq_true (by kernel_rfl)) (by unfold Func.isWrapper; first | (rw [if_pos (by decide +kernel)]; kernel_rfl) | (rw [if_neg (by decide +kernel)]; exact ⟨rfl, rfl⟩))
    (fun os started H enc _ => lifted os started H enc)

/-- THE STATEMENT -/
theorem proved : Rows.FnWithFoldGivesLeastAndGreatestSaid :=
  over
end Go.Proofs.Qxb6604458a.fnWithFold
