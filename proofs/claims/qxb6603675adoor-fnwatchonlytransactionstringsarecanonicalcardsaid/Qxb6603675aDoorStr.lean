import Derived.Test.Qxb6603675aDoorApp
import Derived.Deep.RegionHeldLaw
import Derived.Laws.IdiomStrings
namespace Go.Proofs.Qxb6603675aDoor.Mem
open Go.ChangeShapes Go.WideShapes Go.ChangeAt Go.RowKit

/-- The builtin append, as one step of a region that draws its order: from what its run gives. -/
theorem step_run {P : Program} {ops : Array Oper} {o : Oper} {a : Act} {w : World} {K : Act → World → Prop} {Q : Exit → Act → World → Prop} {E : Prop}
    (hg : o.guard = .none) (s x : Operand) (t tx : TypeId) (hop : o.op = Op.call { callee := Callee.builtin Builtin.append, args := #[s, x], argTypes := #[t, tx] })
    (sv xv : Value) (hs : a.eval s = sv) (hx : a.eval x = xv) (R : Value → World → Prop) (hrun : ∃ v' w', (Builtin.append_ #[t, tx] o.type #[sv, xv]).run P w = .ok v' w' ∧ R v' w')
    (d : Nat) (hd : o.dst = some d) (hK : ∀ v' w', R v' w' → K (a.put (some d) v') w') :
    if Region.wanted o (yielded ops a.tmps) = true then Oper.wp P o a w K Q else E := by
  have hw : Region.wanted o (yielded ops a.tmps) = true := by simp [Region.wanted, hg]
  rw [if_pos hw]
  obtain ⟨v', w', hr, hR⟩ := hrun
  unfold Oper.wp
  simp [execOp, hop, resolve, invoke, builtin, hs, hx, hr, Result.andThen]
  rw [← hd] at hK
  exact hK v' w' hR

/-- The value of a command that is no transaction. -/
def cmd (k : Nat) (V : Option Addr) (n C : Nat) : Value := .agg #[.pointer (some ⟨k, 0, .none⟩), .slice V n C, .pointer .none, .pointer .none, .slice .none 0 0]

set_option maxHeartbeats 400000 in
theorem newCommand (s : ByteArray) (V : Option Addr) (n C : Nat) (w : World) :
    Calls Tryd.prog 8 #[.string s, .slice V n C] w fun e w' => e = .returned (cmd (w.heap.size + 1) V n C) ∧ w'.cell? ⟨w.heap.size + 1, 0, .none⟩ = some (.string s) ∧ Below w.heap.size w w' := by
  go_enter Tryd.func8, Tryd.ntmps8
  go_wp2
  go_returns
  refine ⟨rfl, by simp [go_sem], ((Below.refl _ _).alloc (Nat.le_refl _) _).alloc (by simp) _⟩

set_option maxHeartbeats 400000 in
theorem count (k : Nat) (V : Option Addr) (n C : Nat) (w : World) (hn : n ≤ 65536) :
    Calls Tryd.prog 11 #[cmd k V n C] w fun e w' => e = .returned (.int .i64 ((n : Int) + 1)) ∧ Below w.heap.size w w' := by
  unfold cmd
  go_enter Tryd.func11, Tryd.ntmps11
  go_wp2
  go_ret
  refine ⟨by simp; omega, ((Below.refl _ _).alloc (Nat.le_refl _) _).alloc (by simp) _⟩

/-- What the loads of the region read, in every world on the way. -/
theorem keep_alloc {B K k : Nat} {pv av : Value} {s : ByteArray} {w0 w : World} (h : w.cell? ⟨K, 0, .none⟩ = some pv ∧ w.cell? ⟨K, 1, .none⟩ = some av ∧ w.cell? ⟨k, 0, .none⟩ = some (.string s) ∧ Below B w0 w ∧ B ≤ w.heap.size) (o : Obj) :
    (w.drew.alloc o).cell? ⟨K, 0, .none⟩ = some pv ∧ (w.drew.alloc o).cell? ⟨K, 1, .none⟩ = some av ∧ (w.drew.alloc o).cell? ⟨k, 0, .none⟩ = some (.string s) ∧ Below B w0 (w.drew.alloc o) ∧ B ≤ (w.drew.alloc o).heap.size := by
  obtain ⟨h1, h2, h3, h4, h5⟩ := h
  have hb : Below w.heap.size w (w.drew.alloc o) := (Below.refl _ _).drew.alloc (Nat.le_refl _) _
  exact ⟨(hb.cell (p := ⟨K, 0, .none⟩) (World.block_lt_of_cell? _ _ h1)).trans h1, (hb.cell (p := ⟨K, 1, .none⟩) (World.block_lt_of_cell? _ _ h2)).trans h2, (hb.cell (p := ⟨k, 0, .none⟩) (World.block_lt_of_cell? _ _ h3)).trans h3, h4.trans (hb.mono h5), Nat.le_trans h5 hb.size⟩

theorem keep_below {B K k : Nat} {pv av : Value} {s : ByteArray} {w0 w w' : World} (h : w.cell? ⟨K, 0, .none⟩ = some pv ∧ w.cell? ⟨K, 1, .none⟩ = some av ∧ w.cell? ⟨k, 0, .none⟩ = some (.string s) ∧ Below B w0 w ∧ B ≤ w.heap.size) (hb : Below w.heap.size w w') :
    w'.cell? ⟨K, 0, .none⟩ = some pv ∧ w'.cell? ⟨K, 1, .none⟩ = some av ∧ w'.cell? ⟨k, 0, .none⟩ = some (.string s) ∧ Below B w0 w' ∧ B ≤ w'.heap.size := by
  obtain ⟨h1, h2, h3, h4, h5⟩ := h
  exact ⟨(hb.cell (p := ⟨K, 0, .none⟩) (World.block_lt_of_cell? _ _ h1)).trans h1, (hb.cell (p := ⟨K, 1, .none⟩) (World.block_lt_of_cell? _ _ h2)).trans h2, (hb.cell (p := ⟨k, 0, .none⟩) (World.block_lt_of_cell? _ _ h3)).trans h3, h4.trans (hb.mono h5), Nat.le_trans h5 hb.size⟩

theorem bytesRow_get (s : ByteArray) (cap i : Nat) (h : i < s.size) : (bytesRow s cap)[i]? = some (.int .u8 ((bytes s).getD i 0)) := by
  have h' : i < s.data.size := h
  rw [bytes_get s i h]
  unfold bytesRow
  rw [Array.getElem?_append_left (by simpa using h')]
  have e : s.data[i]? = some s[i] := Array.getElem?_eq_getElem h'
  simp [e]

/-- The name's bytes in a new block, a list of one in the next, the arguments appended. -/
theorem append_here (w1 : World) (s : ByteArray) (cap : Nat) (fr : Nat × Nat) (V : Option Addr) (n C : Nat) (A : Nat → Option Addr) (Cs : Nat → Nat) (Z : Nat → List Int) (hr : RdAll w1 V n A Cs Z) (hn : n ≤ 65536) (ty : TypeId) :
    ∃ v' w', (Builtin.append_ #[22, 22] ty #[.slice (some ⟨w1.heap.size + 1, 0, .none⟩) 1 1, .slice V n C]).run Tryd.prog
        ((w1.alloc (.cells (bytesRow s cap) 5 fr)).alloc (.cells #[.slice (some ⟨w1.heap.size, 0, .none⟩) s.size cap] 24)).drew.drew = .ok v' w' ∧ OutIs w1 w' (bytes s) n Z v' := by
  have b1 : Below w1.heap.size w1 ((w1.alloc (.cells (bytesRow s cap) 5 fr)).alloc (.cells #[.slice (some ⟨w1.heap.size, 0, .none⟩) s.size cap] 24)).drew.drew :=
    (((Below.refl _ _).alloc (Nat.le_refl _) _).alloc (by simp) _).drew.drew
  have r1 : (w1.alloc (.cells (bytesRow s cap) 5 fr)).heap[w1.heap.size]? = some (.cells (bytesRow s cap) 5 fr) := (MapKept.heap_alloc w1 _).1
  have r2 : ((w1.alloc (.cells (bytesRow s cap) 5 fr)).alloc (.cells #[.slice (some ⟨w1.heap.size, 0, .none⟩) s.size cap] 24)).drew.drew.heap[w1.heap.size]? = some (.cells (bytesRow s cap) 5 fr) :=
    (Below.heap_alloc _ _ _ (by simp)).trans r1
  have row := World.rowIs_alloc (w1.alloc (.cells (bytesRow s cap) 5 fr)) #[.slice (some ⟨w1.heap.size, 0, .none⟩) s.size cap] 24 (fun _ => .slice (some ⟨w1.heap.size, 0, .none⟩) (bytes s).length cap) (by intro i hi; simp at hi; subst hi; rw [bytes_len]; rfl)
  have row2 : ((w1.alloc (.cells (bytesRow s cap) 5 fr)).alloc (.cells #[.slice (some ⟨w1.heap.size, 0, .none⟩) s.size cap] 24)).rowIs (w1.heap.size + 1) 24 1 (fun _ => .slice (some ⟨w1.heap.size, 0, .none⟩) (bytes s).length cap) := by
    simpa using row
  refine append_out w1 _ (bytes s) (w1.heap.size + 1) w1.heap.size cap V n C A Cs Z hr b1 (Nat.le_succ _) row2.drew.drew ?_ hn ty
  intro _
  refine ⟨_, 0, rfl, fun i hi => ?_⟩
  rw [bytes_len] at hi
  simp only [World.cell?, r2, Nat.zero_add]
  exact bytesRow_get s cap i hi

theorem OutIs.of {w w1 w' : World} {nm : List Int} {n : Nat} {Z : Nat → List Int} {v : Value} (h : OutIs w1 w' nm n Z v) (hb : Below w.heap.size w w1) : OutIs w w' nm n Z v := by
  obtain ⟨g, c', A', C', rfl, h1, h2, h3, h4⟩ := h
  exact ⟨g, c', A', C', rfl, Nat.le_trans hb.size h1, h2, h3, hb.trans (h4.mono hb.size)⟩

set_option maxHeartbeats 1000000 in
theorem strings19 (s : ByteArray) (k : Nat) (V : Option Addr) (n C : Nat) (A : Nat → Option Addr) (Cs : Nat → Nat) (Z : Nat → List Int) (w : World) (hs : w.cell? ⟨k, 0, .none⟩ = some (.string s)) (hr : RdAll w V n A Cs Z) (hn : n ≤ 65536) :
    Calls Tryd.prog 19 #[cmd k V n C] w fun e w' => ∃ v, e = .returned v ∧ OutIs w w' (bytes s) n Z v := by
  have hconv := fun (w : World) (s : ByteArray) => run_bytes_of_string (P := Tryd.prog) w 9 24 5 s Tryd.underlying9 Tryd.underlying24 Tryd.underlying5
  have hk := World.block_lt_of_cell? _ _ hs
  unfold cmd
  go_enter Tryd.func19, Tryd.ntmps19
  go_wp2
  have hS0 : (w.alloc (.cells #[.pointer (some ⟨k, 0, .none⟩), .slice V n C, .pointer .none, .pointer .none, .slice .none 0 0] 31)).cell? ⟨w.heap.size, 0, .none⟩ = some (.pointer (some ⟨k, 0, .none⟩)) ∧
      (w.alloc (.cells #[.pointer (some ⟨k, 0, .none⟩), .slice V n C, .pointer .none, .pointer .none, .slice .none 0 0] 31)).cell? ⟨w.heap.size, 1, .none⟩ = some (.slice V n C) ∧
      (w.alloc (.cells #[.pointer (some ⟨k, 0, .none⟩), .slice V n C, .pointer .none, .pointer .none, .slice .none 0 0] 31)).cell? ⟨k, 0, .none⟩ = some (.string s) ∧
      Below w.heap.size w (w.alloc (.cells #[.pointer (some ⟨k, 0, .none⟩), .slice V n C, .pointer .none, .pointer .none, .slice .none 0 0] 31)) ∧
      w.heap.size ≤ (w.alloc (.cells #[.pointer (some ⟨k, 0, .none⟩), .slice V n C, .pointer .none, .pointer .none, .slice .none 0 0] 31)).heap.size :=
    ⟨by simp [go_sem], by simp [go_sem], by simp [go_sem, hk, hs], (Below.refl _ _).alloc (Nat.le_refl _) _, by simp⟩
  generalize w.alloc (.cells #[.pointer (some ⟨k, 0, .none⟩), .slice V n C, .pointer .none, .pointer .none, .slice .none 0 0] 31) = w1 at hS0 ⊢
  clear hs hk
  have hr1 : RdAll w1 V n A Cs Z := hr.below hS0.2.2.2.1
  clear hr
  go_region_held_law (fun w' => w'.cell? ⟨w.heap.size, 0, .none⟩ = some (.pointer (some ⟨k, 0, .none⟩)) ∧ w'.cell? ⟨w.heap.size, 1, .none⟩ = some (.slice V n C) ∧ w'.cell? ⟨k, 0, .none⟩ = some (.string s) ∧ Below w.heap.size w w' ∧ w.heap.size ≤ w'.heap.size)
    (first | exact keep_below hS0 (Below.refl _ _).drew | exact keep_alloc (by assumption) _ | exact keep_below (by assumption) ((Below.refl _ _).alloc (Nat.le_refl _) _) | exact keep_below hS0 (by assumption))
    (first | (refine step_run (by rfl) (.tmp 15) (.tmp 17) 22 22 (by rfl) _ _ (by simp [Act.eval]) (by simp [Act.eval]) (fun v' w' => OutIs w1 w' (bytes s) n Z v') (append_here w1 s _ _ V n C A Cs Z hr1 hn _) 18 (by rfl) ?_
              rintro v' w' ⟨g, c', A', C', rfl, h1, h2, h3, h4⟩))
  go_wp2
  go_ret
  exact ⟨_, rfl, OutIs.of ⟨g, c', A', C', rfl, h1, h2, h3, h4⟩ hS0.2.2.2.1⟩
end Go.Proofs.Qxb6603675aDoor.Mem
