import Derived.Test.Qxb6603675aDoorClone
import Derived.Deep.Upon
namespace Go.Proofs.Qxb6603675aDoor.Mem
open Go.ChangeShapes Go.WideShapes Go.ChangeAt Go.RowKit

/-- 'v' is a slice of bytes' slices in new memory that may be written: the first reads 'nm', those behind it 'Z'. -/
def OutIs (w0 w' : World) (nm : List Int) (n : Nat) (Z : Nat → List Int) (v : Value) : Prop :=
  ∃ g c' A' C', v = .slice (some ⟨g, 0, .none⟩) (n + 1) c' ∧ w0.heap.size ≤ g ∧ (∀ j, j < n + 1 → w'.frozen? ⟨g, j, .none⟩ = false) ∧
    RdAll w' (some ⟨g, 0, .none⟩) (n + 1) A' C' (fun j => if j = 0 then nm else Z (j - 1)) ∧ Below w0.heap.size w0 w'

/-- What the list of appended cells holds. -/
theorem news_get (A : Nat → Option Addr) (L Cs : Nat → Nat) (n j : Nat) (hj : j < n) : ((List.range n).map fun i => Value.slice (A i) (L i) (Cs i))[j]? = some (.slice (A j) (L j) (Cs j)) := by
  simp [hj]

theorem append_out (w0 w2 : World) (nm : List Int) (g h cap : Nat) (V : Option Addr) (n C : Nat) (A : Nat → Option Addr) (Cs : Nat → Nat) (Z : Nat → List Int) (hr : RdAll w0 V n A Cs Z)
    (hb : Below w0.heap.size w0 w2) (hg : w0.heap.size ≤ g) (hlit : w2.rowIs g 24 1 (fun _ => .slice (some ⟨h, 0, .none⟩) nm.length cap)) (hnm : RdB w2 (some ⟨h, 0, .none⟩) nm) (hn : n ≤ 65536) (ty : TypeId) :
    ∃ v' w', (Builtin.append_ #[22, 22] ty #[.slice (some ⟨g, 0, .none⟩) 1 1, .slice V n C]).run Tryd.prog w2 = .ok v' w' ∧ OutIs w0 w' nm n Z v' := by
  obtain ⟨i, hi, hzz⟩ := Option.map_eq_some_iff.1 info24
  simp only [Prod.mk.injEq] at hzz
  obtain ⟨hz, hs, hby⟩ := hzz
  by_cases h0 : n = 0
  · subst h0
    have hsrc : Src Tryd.prog i.size 22 (.slice V 0 C) 0 [] w2 := by
      cases V with
      | none => exact Src.ofNil w2 Tryd.underlying22 C
      | some a => exact Src.ofSlice w2 Tryd.underlying22 a 0 C [] (by simp) (by simp) (by simp)
    refine ⟨_, _, run_append_nothing w2 22 22 ty 24 i Tryd.underlying22 hi (some ⟨g, 0, .none⟩) 1 1 (Nat.le_refl _) _ hsrc, g, 1, fun _ => some ⟨h, 0, .none⟩, fun _ => cap, rfl, hg, fun j _ => hlit.frozen j, ⟨fun _ => ⟨g, 0, rfl, fun j hj => ?_⟩, fun j hj => ?_⟩, hb⟩
    · have : j = 0 := by omega
      subst this
      simpa using hlit.cell (i := 0) (by omega)
    · have : j = 0 := by omega
      subst this
      simpa using hnm
  · obtain ⟨b, o, rfl, hc⟩ := hr.1 (by omega)
    have hnews : ∀ j u, ((List.range n).map fun i => Value.slice (A i) (Z i).length (Cs i))[j]? = some u → w2.cell? ((⟨b, o, .none⟩ : Addr).add j) = some u := by
      intro j u hu
      have hj : j < n := by
        have := (List.getElem?_eq_some_iff.1 hu).1
        simpa using this
      rw [news_get A (fun i => (Z i).length) Cs n j hj] at hu
      have e := hc j hj
      have e2 := (hb.cell (p := ⟨b, o + j, .none⟩) (World.block_lt_of_cell? _ _ e)).trans e
      rw [Addr.add_lit, e2]
      exact hu
    obtain ⟨v', w', hrun, hown, hgr⟩ := run_append_arg_grows (P := Tryd.prog) w2 22 ty 24 i (.slice .none 0 0) 1 24 Tryd.underlying22 hi hz hs hby rfl (by decide) ⟨g, 0, .none⟩ 1 1 [.slice (some ⟨h, 0, .none⟩) nm.length cap] rfl
      (by intro j u hu; have hj : j = 0 := by have := (List.getElem?_eq_some_iff.1 hu).1; simp at this; omega
          subst hj; simp at hu; subst hu; rw [Addr.add_lit]; simpa using hlit.cell (i := 0) (by omega))
      ⟨b, o, .none⟩ n C ((List.range n).map fun i => Value.slice (A i) (Z i).length (Cs i)) (by simp) hnews (by omega) (by unfold maxLen; omega) (by omega)
    have hb2 : Below w0.heap.size w0 w' := hb.grown hgr hb.size (fun k hk => by cases hk)
    have hb3 : Below w2.heap.size w2 w' := (Below.refl _ _).grown hgr (Nat.le_refl _) (fun k hk => by cases hk)
    obtain ⟨hlen, ⟨_, hbad⟩ | ⟨g', c', cur, rfl, hg', hheap, hle, hmx, hcur, htake⟩⟩ := hown
    · omega
    have hcell : ∀ j, j < n + 1 → w'.cell? ⟨g', j, .none⟩ = ([Value.slice (some ⟨h, 0, .none⟩) nm.length cap] ++ (List.range n).map fun i => Value.slice (A i) (Z i).length (Cs i))[j]? := by
      intro j hj
      rw [← htake, List.getElem?_take_of_lt (by omega)]
      simp [World.cell?, hheap]
    refine ⟨_, _, hrun, g', c', fun j => if j = 0 then some ⟨h, 0, .none⟩ else A (j - 1), fun j => if j = 0 then cap else Cs (j - 1), by rw [Nat.add_comm], Nat.le_trans hb.size hg', fun j _ => by simp [World.frozen?, hheap], ⟨fun _ => ⟨g', 0, rfl, fun j hj => ?_⟩, fun j hj => ?_⟩, hb2⟩
    · rw [Nat.zero_add, hcell j hj]
      by_cases e : j = 0
      · subst e; simp
      · obtain ⟨k, rfl⟩ : ∃ k, j = k + 1 := ⟨j - 1, by omega⟩
        have hk : k < n := by omega
        simp [hk]
    · by_cases e : j = 0
      · subst e; simpa using hnm.below hb3
      · simp only [if_neg e]
        exact ((hr.2 (j - 1) (by omega)).below hb).below hb3
end Go.Proofs.Qxb6603675aDoor.Mem
