import Derived.Test.Qxb6603675aDoorRows
import Derived.WalkKit
import Derived.ProofKit
import Derived.OpenShut
import Derived.ShutString
import Derived.Deep.QuietTactic
import Derived.BigQuiet
import Derived.Handy
import Derived.Deep.OwnRows
import Derived.Lib.SliceRun
namespace Go.Proofs.Qxb6603675aDoor.Mem
open Go.ChangeShapes Go.WideShapes Go.ChangeAt Go.RowKit

/-! ### What a slice of bytes, and a slice of those, read as in a world -/

/-- The bytes 'z' lie at 'A' (nothing is said where there are none). -/
def RdB (w : World) (A : Option Addr) (z : List Int) : Prop :=
  0 < z.length → ∃ b o, A = some ⟨b, o, .none⟩ ∧ ∀ i, i < z.length → w.cell? ⟨b, o + i, .none⟩ = some (.int .u8 (z.getD i 0))

/-- 'n' slices of bytes lie at 'V': number i at 'A i', with capacity 'C i', reading 'Z i'. -/
def RdAll (w : World) (V : Option Addr) (n : Nat) (A : Nat → Option Addr) (C : Nat → Nat) (Z : Nat → List Int) : Prop :=
  (0 < n → ∃ b o, V = some ⟨b, o, .none⟩ ∧ ∀ i, i < n → w.cell? ⟨b, o + i, .none⟩ = some (.slice (A i) (Z i).length (C i))) ∧ ∀ i, i < n → RdB w (A i) (Z i)

theorem RdB.below {w w' : World} {A : Option Addr} {z : List Int} (h : RdB w A z) (hb : Below w.heap.size w w') : RdB w' A z := fun hz => by
  obtain ⟨b, o, rfl, hc⟩ := h hz
  refine ⟨b, o, rfl, fun i hi => ?_⟩
  have := hc i hi
  exact (hb.cell (p := ⟨b, o + i, .none⟩) (World.block_lt_of_cell? _ _ this)).trans this

theorem RdAll.below {w w' : World} {V : Option Addr} {n : Nat} {A : Nat → Option Addr} {C : Nat → Nat} {Z : Nat → List Int} (h : RdAll w V n A C Z) (hb : Below w.heap.size w w') : RdAll w' V n A C Z := by
  refine ⟨fun hn => ?_, fun i hi => (h.2 i hi).below hb⟩
  obtain ⟨b, o, rfl, hc⟩ := h.1 hn
  refine ⟨b, o, rfl, fun i hi => ?_⟩
  have := hc i hi
  exact (hb.cell (p := ⟨b, o + i, .none⟩) (World.block_lt_of_cell? _ _ this)).trans this

theorem RdB.set {w : World} {A : Option Addr} {z : List Int} (h : RdB w A z) {g : Nat} (hg : ∀ a, A = some a → a.block ≠ g) (i : Nat) (v : Value) : RdB (w.setCell ⟨g, i, .none⟩ v) A z := fun hz => by
  obtain ⟨b, o, rfl, hc⟩ := h hz
  have hne := hg _ rfl
  exact ⟨b, o, rfl, fun j hj => (World.cell?_setCell_other _ _ _ _ (fun e => hne (congrArg Addr.block e).symm)).trans (hc j hj)⟩

theorem below_drewN {B : Nat} {a w : World} (h : Below B a w) (q : Nat) : Below B a (w.drewN q) := ⟨h.os, h.tape, h.output, h.size, h.block⟩

theorem RdB.drewN {w : World} {A : Option Addr} {z : List Int} (h : RdB w A z) (q : Nat) : RdB (w.drewN q) A z := h.below (below_drewN (Below.refl _ _) q)

/-- A string's bytes, as numbers. -/
def bytes (s : ByteArray) : List Int := s.data.toList.map fun c => (c.toNat : Int)

theorem bytes_len (s : ByteArray) : (bytes s).length = s.size := by simp [bytes]
theorem bytes_get (s : ByteArray) (i : Nat) (h : i < s.size) : (bytes s).getD i 0 = (s[i].toNat : Int) := by
  have h' : i < s.data.size := h
  simp [bytes, List.getD_eq_getElem?_getD, Array.getElem?_eq_getElem h']
  rfl

/-! ### 'zzBytesEqual' and 'zzBytesIsString', where the answer is yes -/
set_option maxHeartbeats 400000 in
theorem bytesEqual (A B : Option Addr) (C D : Nat) (z : List Int) (w : World) (hA : RdB w A z) (hB : RdB w B z) (hz : z.length ≤ 1048576) :
    Calls Tryd.prog 17 #[.slice A z.length C, .slice B z.length D] w fun e w' => e = .returned (.bool true) ∧ ∃ q, w' = w.drewN q := by
  by_cases h0 : z.length = 0
  · rw [h0]
    clear hA hB hz
    go_enter Tryd.func17, Tryd.ntmps17
    go_wp2
    go_loop [5] (fun i => i = .int .i64 0) (fun _ => 0)
    case atStart => exact rfl
    case round =>
      subst hrel
      go_wp2
      go_ret
      exact ⟨rfl, 0, rfl⟩
  · obtain ⟨b, o, rfl, ha⟩ := hA (by omega)
    obtain ⟨b', o', rfl, hb⟩ := hB (by omega)
    generalize hn : z.length = n at *
    go_enter Tryd.func17, Tryd.ntmps17
    go_wp2
    go_loopw [5] (fun i wr => ∃ k q : Nat, k ≤ n ∧ i = .int .i64 k ∧ wr = w.drewN q) (fun i _ => n - (intOf i).toNat)
    case atStart => exact ⟨0, 0, Nat.zero_le _, rfl, rfl⟩
    case round =>
      obtain ⟨k, q, hk, rfl, rfl⟩ := hrel
      by_cases hlt : k < n
      · have e1 := ha k hlt
        have e2 := hb k hlt
        go_wp2
        go_quiet (fail)
        go_wp2
        go_roundw
        case rel => exact ⟨k + 1, _, by omega, by go_num, rfl⟩
        case measure => simp [intOf]; omega
      · go_wp2
        go_ret
        exact ⟨rfl, q, rfl⟩

set_option maxHeartbeats 400000 in
theorem bytesIsString (A : Option Addr) (C : Nat) (s : ByteArray) (w : World) (hA : RdB w A (bytes s)) (hz : s.size ≤ 1048576) (h1 : 0 < s.size) :
    Calls Tryd.prog 15 #[.slice A s.size C, .string s] w fun e w' => e = .returned (.bool true) ∧ ∃ q, w' = w.drewN q := by
  obtain ⟨b, o, rfl, ha⟩ := hA (by rw [bytes_len]; omega)
  go_enter Tryd.func15, Tryd.ntmps15
  go_wp2
  go_loopw [5] (fun i wr => ∃ k q : Nat, k ≤ s.size ∧ i = .int .i64 k ∧ wr = w.drewN q) (fun i _ => s.size - (intOf i).toNat)
  case atStart => exact ⟨0, 0, Nat.zero_le _, rfl, rfl⟩
  case round =>
    obtain ⟨k, q, hk, rfl, rfl⟩ := hrel
    by_cases hlt : k < s.size
    · have e1 := ha k (by rw [bytes_len]; omega)
      rw [bytes_get s k hlt] at e1
      go_wp2
      go_quiet (fail)
      go_wp2
      go_roundw
      case rel => exact ⟨k + 1, _, by omega, by go_num, rfl⟩
      case measure => simp [intOf]; omega
    · go_wp2
      go_ret
      exact ⟨rfl, q, rfl⟩

/-! ### 'zzCloneBytes' -/
theorem info5 : (Tryd.prog.info? 5).map (fun i => (i.zero, i.size, i.bytes)) = some (some (.int .u8 0), 1, 1) := by kernel_rfl
theorem info24 : (Tryd.prog.info? 24).map (fun i => (i.zero, i.size, i.bytes)) = some (some (.slice .none 0 0), 1, 24) := by kernel_rfl

theorem nil24 (w : World) (a : Option Addr) (n c : Nat) : (binOp .eql 24 (.slice a n c) (.slice .none 0 0)).run Tryd.prog w = .ok (.bool a.isNone) w :=
  Lib.run_eql_slice_nil w 24 5 a n c 0 0 Tryd.underlying24
theorem nil22 (w : World) (a : Option Addr) (n c : Nat) : (binOp .eql 22 (.slice a n c) (.slice .none 0 0)).run Tryd.prog w = .ok (.bool a.isNone) w :=
  Lib.run_eql_slice_nil w 22 24 a n c 0 0 Tryd.underlying22

/-- The first 'k' bytes are copied; the rest is still zero. -/
def part (z : List Int) (k : Nat) (j : Nat) : Value := .int .u8 (if j < k then z.getD j 0 else 0)

set_option maxHeartbeats 400000 in
theorem cloneBytes (A : Option Addr) (C : Nat) (z : List Int) (w : World) (hA : RdB w A z) (hn : A = .none → z.length = 0 ∧ C = 0) (hz : z.length ≤ 1048576) :
    Calls Tryd.prog 18 #[.slice A z.length C] w fun e w' => ∃ A' C', e = .returned (.slice A' z.length C') ∧ RdB w' A' z ∧ (A' = .none → z.length = 0 ∧ C' = 0) ∧ (∀ a, A' = some a → w.heap.size ≤ a.block) ∧ Below w.heap.size w w' := by
  have hnil := nil24
  cases A with
  | none =>
    obtain ⟨h1, rfl⟩ := hn rfl
    rw [h1]
    go_enter Tryd.func18, Tryd.ntmps18
    go_wp2
    go_ret
    exact ⟨.none, 0, rfl, (fun h => by omega), (fun _ => by simp), (fun a h => by cases h), Below.refl _ _⟩
  | some a =>
    clear hn
    generalize hlen : z.length = n at *
    have hmk := run_make_row' (P := Tryd.prog) 24 5 (.int .u8 0) 1 Tryd.underlying24 info5 rfl .i64 .i64 n (by omega) (by omega)
    go_enter Tryd.func18, Tryd.ntmps18
    go_wp2
    clear hmk
    go_loopw [4] (fun i wr => ∃ k : Nat, k ≤ n ∧ i = .int .i64 k ∧ wr.rowIs w.heap.size 5 n (part z k) ∧ Below w.heap.size w wr) (fun i _ => n - (intOf i).toNat)
    case atStart => exact ⟨0, Nat.zero_le _, rfl, (World.rowIs_made _ _ _ _).congr (fun i _ => by simp [part]), (Below.refl _ _).alloc (Nat.le_refl _) _⟩
    case round =>
      obtain ⟨k, hk, rfl, hrow, hbl⟩ := hrel
      by_cases hlt : k < n
      · obtain ⟨b, o, he, ha⟩ := hA (by omega)
        obtain rfl : a = ⟨b, o, .none⟩ := Option.some.inj he
        have e1 := ha k (by omega)
        have e2 : wr.cell? ⟨b, o + k, .none⟩ = some (.int .u8 (z.getD k 0)) := (hbl.cell (p := ⟨b, o + k, .none⟩) (World.block_lt_of_cell? _ _ e1)).trans e1
        have e3 := hrow.cell hlt
        have e4 := hrow.frozen k
        have HR : Hid (wr.rowIs w.heap.size 5 n (part z k)) := hrow
        have HB : Hid (Below w.heap.size w wr) := hbl
        clear hrow hbl e1 he ha hA
        generalize hx : z.getD k 0 = x at e2
        have HX : Hid (z.getD k 0 = x) := hx
        clear hx
        go_wp2
        go_roundw
        case rel =>
          refine ⟨k + 1, by omega, by go_num, (HR.out.set k _).congr (fun j hj => ?_), HB.out.setCell (Nat.le_refl _) _⟩
          by_cases e : j = k
          · subst e; simp only [if_true, part]; rw [if_pos (by omega), HX.out]
          · rw [if_neg e]; unfold part; congr 1
            by_cases e2 : j < k
            · rw [if_pos e2, if_pos (by omega)]
            · rw [if_neg e2, if_neg (by omega)]
        case measure => simp [intOf]; omega
      · go_wp2
        go_ret
        refine ⟨_, _, rfl, ?_, ?_, ?_, hbl⟩
        · intro _
          refine ⟨_, 0, rfl, fun i hi => ?_⟩
          have e := hrow.cell (i := i) (by omega)
          rw [Nat.zero_add, e]
          unfold part
          rw [if_pos (by omega)]
        · intro h; cases h
        · intro a h; cases h; exact Nat.le_refl _
end Go.Proofs.Qxb6603675aDoor.Mem
