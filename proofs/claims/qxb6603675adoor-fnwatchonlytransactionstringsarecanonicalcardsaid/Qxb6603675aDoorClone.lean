import Derived.Test.Qxb6603675aDoorMem
namespace Go.Proofs.Qxb6603675aDoor.Mem
open Go.ChangeShapes Go.WideShapes Go.ChangeAt Go.RowKit

/-- Number j of the clone while the first k are there. -/
def heads (A : Nat → Option Addr) (C : Nat → Nat) (Z : Nat → List Int) (k j : Nat) : Value := if j < k then .slice (A j) (Z j).length (C j) else .slice .none 0 0

/-- The first k of the clone are there. -/
structure Mid (w wr : World) (n k : Nat) (A : Nat → Option Addr) (C : Nat → Nat) (Z : Nat → List Int) : Prop where
  row : wr.rowIs w.heap.size 24 n (heads A C Z k)
  each : ∀ j, j < k → RdB wr (A j) (Z j) ∧ (A j = .none → (Z j).length = 0 ∧ C j = 0) ∧ ∀ a, A j = some a → w.heap.size < a.block
  below : Below w.heap.size w wr

theorem Mid.start (w : World) (n : Nat) (Z : Nat → List Int) : Mid w (w.alloc (.cells (madeCells #[.slice .none 0 0] n) 24)) n 0 (fun _ => .none) (fun _ => 0) Z :=
  ⟨(World.rowIs_made _ _ _ _).congr (fun i _ => by simp [heads]), fun j h => absurd h (Nat.not_lt_zero _), (Below.refl _ _).alloc (Nat.le_refl _) _⟩

theorem Mid.step {w wr w' : World} {n k : Nat} {A : Nat → Option Addr} {C : Nat → Nat} {Z : Nat → List Int} (h : Mid w wr n k A C Z) {A' : Option Addr} {C' : Nat}
    (hr : RdB w' A' (Z k)) (hn : A' = .none → (Z k).length = 0 ∧ C' = 0) (hf : ∀ a, A' = some a → wr.heap.size ≤ a.block) (hb : Below wr.heap.size wr w') :
    Mid w (w'.setCell ⟨w.heap.size, k, .none⟩ (.slice A' (Z k).length C')) n (k + 1) (fun j => if j = k then A' else A j) (fun j => if j = k then C' else C j) Z := by
  have hlt := h.row.lt
  refine ⟨?_, ?_, ?_⟩
  · have r := (h.row.of_block (w' := w') (hb.block _ hlt)).set k (.slice A' (Z k).length C')
    refine r.congr (fun j _ => ?_)
    by_cases e : j = k
    · subst e; simp [heads]
    · rw [if_neg e]; unfold heads
      by_cases e2 : j < k
      · rw [if_pos e2, if_pos (by omega)]; simp [e]
      · rw [if_neg e2, if_neg (by omega)]
  · intro j hj
    by_cases e : j = k
    · subst e
      simp only [if_true]
      exact ⟨hr.set (fun a ha => by have := hf a ha; omega) _ _, hn, fun a ha => by have := hf a ha; omega⟩
    · simp only [if_neg e]
      obtain ⟨h1, h2, h3⟩ := h.each j (by omega)
      exact ⟨(h1.below hb).set (fun a ha => by have := h3 a ha; omega) _ _, h2, h3⟩
  · exact (h.below.trans (hb.mono h.below.size)).setCell (Nat.le_refl _) _

/-- 'v' is a clone, in new memory, of n slices of bytes that read 'Z'. -/
def Cloned (w w' : World) (n : Nat) (Z : Nat → List Int) (v : Value) : Prop :=
  ∃ V' Cv' A' C', v = .slice V' n Cv' ∧ RdAll w' V' n A' C' Z ∧ (V' = .none → n = 0 ∧ Cv' = 0) ∧ n ≤ Cv' ∧ Cv' ≤ 65536 ∧ (∀ i, i < n → A' i = .none → (Z i).length = 0 ∧ C' i = 0) ∧ Below w.heap.size w w'

theorem Cloned.nil (w : World) (Z : Nat → List Int) : Cloned w w 0 Z (.slice .none 0 0) :=
  ⟨.none, 0, fun _ => .none, fun _ => 0, rfl, ⟨fun h => absurd h (Nat.not_lt_zero _), fun _ h => absurd h (Nat.not_lt_zero _)⟩, fun _ => ⟨rfl, rfl⟩, Nat.le_refl _, Nat.zero_le _, fun _ h => absurd h (Nat.not_lt_zero _), Below.refl _ _⟩

set_option maxHeartbeats 400000 in
theorem cloneAll (V : Option Addr) (n Cv : Nat) (A : Nat → Option Addr) (C : Nat → Nat) (Z : Nat → List Int) (w : World) (hr : RdAll w V n A C Z) (hV : V = .none → n = 0 ∧ Cv = 0)
    (hA : ∀ i, i < n → A i = .none → (Z i).length = 0 ∧ C i = 0) (hn : n ≤ 65536) (hz : ∀ i, i < n → (Z i).length ≤ 1048576) :
    Calls Tryd.prog 7 #[.slice V n Cv] w fun e w' => ∃ v, e = .returned v ∧ Cloned w w' n Z v := by
  have hnil := nil22
  cases V with
  | none =>
    obtain ⟨h1, rfl⟩ := hV rfl
    subst h1
    go_enter Tryd.func7, Tryd.ntmps7
    go_wp2
    go_ret
    exact ⟨_, rfl, Cloned.nil _ _⟩
  | some a =>
    clear hV
    have hmk := run_make_row' (P := Tryd.prog) 22 24 (.slice .none 0 0) 24 Tryd.underlying22 info24 rfl .i64 .i64 n (by omega) (by omega)
    go_enter Tryd.func7, Tryd.ntmps7
    go_wp2
    clear hmk
    go_loopw [4] (fun i wr => ∃ (k : Nat) (A' : Nat → Option Addr) (C' : Nat → Nat), k ≤ n ∧ i = .int .i64 k ∧ Mid w wr n k A' C' Z) (fun i _ => n - (intOf i).toNat)
    case atStart => exact ⟨0, _, _, Nat.zero_le _, rfl, Mid.start w n Z⟩
    case round =>
      obtain ⟨k, A', C', hk, rfl, hm⟩ := hrel
      by_cases hlt : k < n
      · obtain ⟨b, o, he, hc⟩ := hr.1 (by omega)
        obtain rfl : a = ⟨b, o, .none⟩ := Option.some.inj he
        have e1 := hc k hlt
        have e2 : wr.cell? ⟨b, o + k, .none⟩ = some (.slice (A k) (Z k).length (C k)) := (hm.below.cell (p := ⟨b, o + k, .none⟩) (World.block_lt_of_cell? _ _ e1)).trans e1
        have e5 := ((hr.2 k hlt).below hm.below)
        have hk1 := hA k hlt
        have hk2 := hz k hlt
        clear hc e1 he hr hA hz
        go_wp2_with fail
        refine (cloneBytes (A k) (C k) (Z k) _ e5 hk1 hk2).mono ?_
        rintro e w' ⟨A1, C1, rfl, r1, r2, r3, r4⟩
        have row := (hm.row.of_block (w' := w') (r4.block _ hm.row.lt))
        have e3 := row.cell hlt
        have e4 := row.frozen k
        have hm2 := hm.step r1 r2 r3 r4
        clear row hm r1 r2 r3 r4 e5 e2 hk1
        go_wp2
        go_roundw
        case rel => exact ⟨k + 1, _, _, by omega, by go_num, hm2⟩
        case measure => simp [intOf]; omega
      · go_wp2
        go_ret
        have hkn : k = n := by omega
        subst hkn
        refine ⟨_, rfl, _, _, A', C', rfl, ⟨fun h => ⟨_, 0, rfl, fun i hi => ?_⟩, fun i hi => (hm.each i hi).1⟩, (fun h => by cases h), Nat.le_refl _, hn, (fun i hi => (hm.each i hi).2.1), hm.below⟩
        have e := hm.row.cell (i := i) hi
        rw [Nat.zero_add, e]
        unfold heads
        rw [if_pos hi]
end Go.Proofs.Qxb6603675aDoor.Mem
