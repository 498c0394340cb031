import Derived.Test.Qxb6603675aDoorTx
import Derived.Deep.RegionHeldLaw
namespace Go.Proofs.Qxb6603675aDoor.Mem
open Go.ChangeShapes Go.WideShapes Go.ChangeAt Go.RowKit

/-- The bytes 'z' lie at 'A', in a block below B or in a row of bytes. -/
def RdF (w : World) (B : Nat) (A : Option Addr) (z : List Int) : Prop :=
  0 < z.length → ∃ b o, A = some ⟨b, o, .none⟩ ∧ (b < B ∨ ∃ c fr, w.heap[b]? = some (.cells c 5 fr)) ∧ ∀ i, i < z.length → w.cell? ⟨b, o + i, .none⟩ = some (.int .u8 (z.getD i 0))

theorem RdF.rdB {w : World} {B : Nat} {A : Option Addr} {z : List Int} (h : RdF w B A z) : RdB w A z := fun hz => by
  obtain ⟨b, o, rfl, _, hc⟩ := h hz
  exact ⟨b, o, rfl, hc⟩

theorem RdF.below {w w' : World} {B : Nat} {A : Option Addr} {z : List Int} (h : RdF w B A z) (hb : Below w.heap.size w w') : RdF w' B A z := fun hz => by
  obtain ⟨b, o, rfl, ht, hc⟩ := h hz
  have hlt : b < w.heap.size := World.block_lt_of_cell? _ _ (hc 0 hz)
  exact ⟨b, o, rfl, ht.imp id (fun ⟨c, fr, e⟩ => ⟨c, fr, (hb.block b hlt).trans e⟩), fun i hi => cell_below hb (hc i hi)⟩

/-- A row of slices has grown, or has been written behind its end: bytes lie as they lay. -/
theorem RdF.grown {w w' : World} {B g : Nat} {A : Option Addr} {z : List Int} {cur : Array Value} (h : RdF w B A z) (hg : w.grownBy w' (some g)) (hB : B ≤ g) (hrow : w.heap[g]? = some (.cells cur 24 (0, 0))) : RdF w' B A z := fun hz => by
  obtain ⟨b, o, rfl, ht, hc⟩ := h hz
  have hlt : b < w.heap.size := World.block_lt_of_cell? _ _ (hc 0 hz)
  have hne : b ≠ g := by
    rintro rfl
    rcases ht with h1 | ⟨c, fr, e⟩
    · omega
    · rw [hrow] at e; simp at e
  have e := hg.block b hlt (by simp; exact hne)
  exact ⟨b, o, rfl, ht.imp id (fun ⟨c, fr, e2⟩ => ⟨c, fr, e.trans e2⟩), fun i hi => (World.cell?_of_block (a := ⟨b, o + i, .none⟩) e).trans (hc i hi)⟩

def multi : List Int := [77, 85, 76, 84, 73]
/-- What the strings of the transaction read as. -/
def outZ (n : Nat) (Z : Nat → List Int) (U : Nat → Nat) (j : Nat) : List Int :=
  if j = 0 then multi else if j = 1 then digits n else if j % 2 = 0 then Z ((j - 2) / 2) else digits (U ((j - 3) / 2))

theorem outZ_key (n : Nat) (Z : Nat → List Int) (U : Nat → Nat) (k : Nat) : outZ n Z U (2 + 2 * k) = Z k := by
  unfold outZ
  rw [if_neg (by omega), if_neg (by omega), if_pos (by omega), show (2 + 2 * k - 2) / 2 = k by omega]
theorem outZ_num (n : Nat) (Z : Nat → List Int) (U : Nat → Nat) (k : Nat) : outZ n Z U (3 + 2 * k) = digits (U k) := by
  unfold outZ
  rw [if_neg (by omega), if_neg (by omega), if_neg (by omega), show (3 + 2 * k - 3) / 2 = k by omega]

/-- k watches are written out. -/
def SMid (w wr : World) (k : Nat) (Zf : Nat → List Int) (sv : Value) : Prop :=
  ∃ (xs : List Value) (A' : Nat → Option Addr) (C' : Nat → Nat), wr.ownsRow w.heap.size 24 1 sv (2 + 2 * k) xs ∧ (∀ j, j < 2 + 2 * k → xs[j]? = some (.slice (A' j) (Zf j).length (C' j))) ∧
    (∀ j, j < 2 + 2 * k → RdF wr w.heap.size (A' j) (Zf j)) ∧ Below w.heap.size w wr

theorem ownsRow_below {w w' : World} {B e s n : Nat} {v : Value} {xs : List Value} (h : w.ownsRow B e s v n xs) (hb : Below w.heap.size w w') : w'.ownsRow B e s v n xs := by
  obtain ⟨hl, h0 | ⟨g, c, cur, h1, h2, h3, h4⟩⟩ := h
  · exact ⟨hl, .inl h0⟩
  · have hlt : g < w.heap.size := (Array.getElem?_eq_some_iff.1 h3).1
    exact ⟨hl, .inr ⟨g, c, cur, h1, h2, (hb.block g hlt).trans h3, h4⟩⟩

theorem SMid.below {w wr w' : World} {k : Nat} {Zf : Nat → List Int} {sv : Value} (h : SMid w wr k Zf sv) (hb : Below wr.heap.size wr w') : SMid w w' k Zf sv := by
  obtain ⟨xs, A', C', h1, h2, h3, h4⟩ := h
  exact ⟨xs, A', C', ownsRow_below h1 hb, h2, fun j hj => (h3 j hj).below hb, h4.trans (hb.mono h4.size)⟩

theorem SMid.shape {w wr : World} {k : Nat} {Zf : Nat → List Int} {sv : Value} (h : SMid w wr k Zf sv) : ∃ g c, sv = .slice (some ⟨g, 0, .none⟩) (2 + 2 * k) c := by
  obtain ⟨xs, A', C', ⟨_, ⟨_, h0⟩ | ⟨g, c, cur, h1, _⟩⟩, _⟩ := h
  · omega
  · exact ⟨g, c, h1⟩

/-- A block that is no row of slices stands as it stood. -/
def Stood (w w' : World) : Prop := ∀ (b : Nat) (c : Array Value) (t : TypeId) (fr : Nat × Nat), t ≠ 24 → w.heap[b]? = some (Obj.cells c t fr) → w'.heap[b]? = some (Obj.cells c t fr)

theorem append_watch (w w3 : World) (k kt : Nat) (Zf : Nat → List Int) (sv : Value) (h : SMid w w3 k Zf sv) (Ak Ad : Option Addr) (Ck Cd : Nat) (hk : RdF w3 w.heap.size Ak (Zf (2 + 2 * k))) (hd : RdF w3 w.heap.size Ad (Zf (3 + 2 * k)))
    (ht : w3.rowIs kt 24 2 (fun j => if j = 0 then .slice Ak (Zf (2 + 2 * k)).length Ck else .slice Ad (Zf (3 + 2 * k)).length Cd)) (hn : k ≤ 65536) (ty : TypeId) :
    ∃ v' w', (Builtin.append_ #[22, 22] ty #[sv, .slice (some ⟨kt, 0, .none⟩) 2 2]).run Tryd.prog w3 = .ok v' w' ∧ SMid w w' (k + 1) Zf v' ∧ Stood w3 w' := by
  obtain ⟨xs, A', C', hown, hget, hrd, hbel⟩ := h
  obtain ⟨i, hi, hzz⟩ := Option.map_eq_some_iff.1 info24
  simp only [Prod.mk.injEq] at hzz
  obtain ⟨hz, hs, hby⟩ := hzz
  obtain ⟨v', w', hrun, hown', hgr, _⟩ := run_append_own (P := Tryd.prog) w3 w.heap.size 22 ty 24 i (.slice .none 0 0) 1 24 Tryd.underlying22 hi hz hs hby rfl (by decide) sv (2 + 2 * k) xs hown
    ⟨kt, 0, .none⟩ 2 2 [.slice Ak (Zf (2 + 2 * k)).length Ck, .slice Ad (Zf (3 + 2 * k)).length Cd] rfl
    (by intro j u hu
        have hj : j = 0 ∨ j = 1 := by have := (List.getElem?_eq_some_iff.1 hu).1; simp at this; omega
        rw [Addr.add_lit, Nat.zero_add, ht.cell (i := j) (by omega)]
        rcases hj with rfl | rfl <;> simpa using hu)
    (by intro u hu; simp at hu; rcases hu with rfl | rfl <;> rfl)
    (by unfold maxLen; omega) (by omega) hbel.size
  obtain ⟨hlen, ⟨_, h0⟩ | ⟨g, c, cur, rfl, hg, hrow, hle, hmx, hcur, htake⟩⟩ := hown
  · omega
  have hgr' : w3.grownBy w' (some g) := hgr
  refine ⟨v', w', hrun, ⟨xs ++ [.slice Ak (Zf (2 + 2 * k)).length Ck, .slice Ad (Zf (3 + 2 * k)).length Cd], fun j => if j < 2 + 2 * k then A' j else if j = 2 + 2 * k then Ak else Ad, fun j => if j < 2 + 2 * k then C' j else if j = 2 + 2 * k then Ck else Cd, ?_, fun j hj => ?_, fun j hj => ?_, ?_⟩, ?_⟩
  · rw [show 2 + 2 * (k + 1) = 2 + 2 * k + 2 by omega]; exact hown'
  · by_cases e : j < 2 + 2 * k
    · rw [List.getElem?_append_left (by omega), hget j e]; simp [e]
    · rw [List.getElem?_append_right (by omega)]
      by_cases e2 : j = 2 + 2 * k
      · subst e2; rw [show 2 + 2 * k - xs.length = 0 by omega]; simp
      · have e3 : j = 3 + 2 * k := by omega
        subst e3
        rw [show 3 + 2 * k - xs.length = 1 by omega]
        simp [show ¬ 3 + 2 * k < 2 + 2 * k by omega]
  · by_cases e : j < 2 + 2 * k
    · simp only [if_pos e]
      exact (hrd j e).grown hgr' hg hrow
    · by_cases e2 : j = 2 + 2 * k
      · subst e2; simp only [Nat.lt_irrefl, if_false, if_true]; exact hk.grown hgr' hg hrow
      · have e3 : j = 3 + 2 * k := by omega
        subst e3
        simp only [show ¬ 3 + 2 * k < 2 + 2 * k by omega, show ¬ 3 + 2 * k = 2 + 2 * k by omega, if_false]
        exact hd.grown hgr' hg hrow
  · exact hbel.grown hgr' hbel.size (fun k' hk' => by cases hk'; exact hg)
  · intro b c' t fr htn hb
    have hlt : b < w3.heap.size := (Array.getElem?_eq_some_iff.1 hb).1
    have hne : b ≠ g := by
      rintro rfl
      rw [hrow] at hb; simp at hb; exact htn hb.2.1.symm
    exact (hgr'.block b hlt (by simp; exact hne)).trans hb

/-- The list of two that the strings begin with. -/
theorem SMid.start (w w1 : World) (n : Nat) (Z : Nat → List Int) (U : Nat → Nat) (km : Nat) (Ad : Option Addr) (Cd : Nat) (hb : Below w.heap.size w w1) (hm : RdF w1 w.heap.size (some ⟨km, 0, .none⟩) multi) (hd : RdF w1 w.heap.size Ad (digits n)) :
    SMid w (w1.alloc (.cells #[.slice (some ⟨km, 0, .none⟩) 5 5, .slice Ad (digits n).length Cd] 24)) 0 (outZ n Z U) (.slice (some ⟨w1.heap.size, 0, .none⟩) 2 2) := by
  have ha : Below w1.heap.size w1 (w1.alloc (.cells #[.slice (some ⟨km, 0, .none⟩) 5 5, .slice Ad (digits n).length Cd] 24)) := (Below.refl _ _).alloc (Nat.le_refl _) _
  have hz0 : outZ n Z U 0 = multi := rfl
  have hz1 : outZ n Z U 1 = digits n := rfl
  refine ⟨[.slice (some ⟨km, 0, .none⟩) 5 5, .slice Ad (digits n).length Cd], fun j => if j = 0 then some ⟨km, 0, .none⟩ else Ad, fun j => if j = 0 then 5 else Cd,
    ⟨rfl, .inr ⟨w1.heap.size, 2, _, rfl, hb.size, (MapKept.heap_alloc w1 _).1, Nat.le_refl _, by unfold maxLen; omega, rfl, rfl⟩⟩, fun j hj => ?_, fun j hj => ?_, hb.trans (ha.mono hb.size)⟩
  · have : j = 0 ∨ j = 1 := by omega
    rcases this with rfl | rfl
    · rw [hz0]; rfl
    · rw [hz1]; rfl
  · have : j = 0 ∨ j = 1 := by omega
    rcases this with rfl | rfl
    · rw [hz0]; exact hm.below ha
    · rw [hz1]; exact hd.below ha

theorem keep3 {w w' : World} {kb : Nat} {v1 v2 : Value} (h : w.cell? ⟨kb, 0, .none⟩ = some v1 ∧ w.cell? ⟨kb, 1, .none⟩ = some v2 ∧ w.heap[kb]? = some (.cells #[v1, v2] 42 (0, 0))) (hb : Below w.heap.size w w') :
    w'.cell? ⟨kb, 0, .none⟩ = some v1 ∧ w'.cell? ⟨kb, 1, .none⟩ = some v2 ∧ w'.heap[kb]? = some (.cells #[v1, v2] 42 (0, 0)) :=
  ⟨cell_below hb h.1, cell_below hb h.2.1, (hb.block kb (World.block_lt_of_cell? _ _ h.1)).trans h.2.2⟩

theorem keep4 {w w' : World} {kb : Nat} {v1 v2 : Value} (h : w.cell? ⟨kb, 0, .none⟩ = some v1 ∧ w.cell? ⟨kb, 1, .none⟩ = some v2 ∧ w.heap[kb]? = some (.cells #[v1, v2] 42 (0, 0))) (hs : Stood w w') :
    w'.cell? ⟨kb, 0, .none⟩ = some v1 ∧ w'.cell? ⟨kb, 1, .none⟩ = some v2 ∧ w'.heap[kb]? = some (.cells #[v1, v2] 42 (0, 0)) := by
  have e := hs kb _ 42 (0, 0) (by decide) h.2.2
  exact ⟨by simp [World.cell?, e], by simp [World.cell?, e], e⟩

/-- '[]byte' of a constant, laid as a literal and turned to its own type: the row bears the mark of a string's bytes behind its end. -/
theorem conv_same (w : World) (c : Array Value) (l k : Nat) : (convert 24 24 (.slice (some ⟨w.heap.size, 0, .none⟩) l k)).run Tryd.prog (w.alloc (.cells c 5)) = .ok (.slice (some ⟨w.heap.size, 0, .none⟩) l k) (w.alloc (.cells c 5 (c.size, c.size + 1))) := by
  have hsh : (w.alloc (.cells c 5)).shape? w.heap.size = some (5, c.size) := by
    have : (w.alloc (.cells c 5)).heap[w.heap.size]? = some (.cells c 5) := (MapKept.heap_alloc w _).1
    unfold World.shape?
    rw [this]
  have hfr : (w.alloc (.cells c 5)).freeze ⟨w.heap.size, c.size, .none⟩ 1 = w.alloc (.cells c 5 (c.size, c.size + 1)) := by
    have hm : ∀ (a : Array Obj) (x : Obj) (f : Obj → Obj), (a.push x).modify a.size f = a.push (f x) := by
      intro a x f
      apply Array.ext
      · simp
      · intro i h1 h2
        simp only [Array.getElem_modify, Array.getElem_push]
        by_cases h : a.size = i
        · subst h
          simp
        · have hi : i < a.size := by simp at h1; omega
          simp [h, hi]
    unfold World.freeze
    rw [if_neg (by decide)]
    show ({ w.alloc (.cells c 5) with heap := (w.heap.push (.cells c 5)).modify w.heap.size _ } : World) = _
    rw [hm]
    rfl
  simp [convert, run_underlying Tryd.underlying24, run_underlying Tryd.underlying5, markStringish, hsh]
  exact hfr

theorem append_step (w W3 w4 : World) (n m : Nat) (Z : Nat → List Int) (U : Nat → Nat) (sv : Value) (h : SMid w W3 m (outZ n Z U) sv) (hb : Below W3.heap.size W3 w4) (Ak Ad : Option Addr) (Ck Cd : Nat) (hk : RdF W3 w.heap.size Ak (Z m)) (hd : RdF w4 w.heap.size Ad (digits (U m))) (hn : m ≤ 65536) (ty : TypeId) :
    ∃ v' w', (Builtin.append_ #[22, 22] ty #[sv, .slice (some ⟨w4.heap.size, 0, .none⟩) 2 2]).run Tryd.prog (w4.alloc (.cells #[.slice Ak (Z m).length Ck, .slice Ad (digits (U m)).length Cd] 24)) = .ok v' w' ∧ SMid w w' (m + 1) (outZ n Z U) v' ∧ Stood (w4.alloc (.cells #[.slice Ak (Z m).length Ck, .slice Ad (digits (U m)).length Cd] 24)) w' := by
  have ha : Below w4.heap.size w4 (w4.alloc (.cells #[.slice Ak (Z m).length Ck, .slice Ad (digits (U m)).length Cd] 24)) := (Below.refl _ _).alloc (Nat.le_refl _) _
  have row := World.rowIs_alloc w4 #[.slice Ak (Z m).length Ck, .slice Ad (digits (U m)).length Cd] 24 (fun j => if j = 0 then .slice Ak (Z m).length Ck else .slice Ad (digits (U m)).length Cd) (by
    intro i hi
    have : i = 0 ∨ i = 1 := by simp at hi; omega
    rcases this with rfl | rfl <;> rfl)
  refine append_watch w _ m w4.heap.size (outZ n Z U) sv ((h.below hb).below ha) Ak Ad Ck Cd ?_ ?_ ?_ hn ty
  · rw [outZ_key]; exact (hk.below hb).below ha
  · rw [outZ_num]; exact hd.below ha
  · rw [outZ_key, outZ_num]; exact row

set_option maxHeartbeats 1000000 in
theorem txStrings (k : Nat) (V : Option Addr) (n Cv : Nat) (A : Nat → Option Addr) (C : Nat → Nat) (Z : Nat → List Int) (U : Nat → Nat) (w : World) (ht : TxAt w k V n Cv) (hr : RdW w V n A C Z U) (htab : Tab w) (hn : n ≤ 65536) (hU : ∀ i, i < n → U i < 18446744073709551616) :
    Calls Tryd.prog 24 #[.pointer (some ⟨k, 0, .none⟩)] w fun e w' => ∃ v, e = .returned v ∧ SMid w w' n (outZ n Z U) v := by
  obtain ⟨t0, t1, -⟩ := ht
  have hk := World.block_lt_of_cell? _ _ t1
  have hk2 : k < w.heap.size := hk
  have HR := hid hr
  have HT := hid htab
  have HU := hid hU
  have HT0 := hid t0
  have HT1 := hid t1
  have hcv := conv_same w #[.int .u8 77, .int .u8 85, .int .u8 76, .int .u8 84, .int .u8 73] 5 5
  clear hr htab hU hk t0
  go_enter Tryd.func24, Tryd.ntmps24
  go_wp2_with fail
  clear hcv t1
  have b1 : Below w.heap.size w (w.alloc (.cells #[.int .u8 77, .int .u8 85, .int .u8 76, .int .u8 84, .int .u8 73] 5 (5, 6))) := (Below.refl _ _).alloc (Nat.le_refl _) _
  have m1 : RdF (w.alloc (.cells #[.int .u8 77, .int .u8 85, .int .u8 76, .int .u8 84, .int .u8 73] 5 (5, 6))) w.heap.size (some ⟨w.heap.size, 0, .none⟩) multi := fun _ => by
    have hh := (MapKept.heap_alloc w (.cells #[.int .u8 77, .int .u8 85, .int .u8 76, .int .u8 84, .int .u8 73] 5 (5, 6))).1
    refine ⟨w.heap.size, 0, rfl, .inr ⟨_, _, hh⟩, fun i hi => ?_⟩
    simp only [World.cell?, hh, Nat.zero_add]
    have : i = 0 ∨ i = 1 ∨ i = 2 ∨ i = 3 ∨ i = 4 := by have : i < 5 := hi; omega
    rcases this with rfl | rfl | rfl | rfl | rfl <;> rfl
  have HB1 := hid b1
  have HM1 := hid m1
  clear b1 m1
  generalize w.alloc (.cells #[.int .u8 77, .int .u8 85, .int .u8 76, .int .u8 84, .int .u8 73] 5 (5, 6)) = w1 at HB1 HM1 ⊢
  refine (appendUint n (by omega) w1 (HT.out.below HB1.out)).mono ?_
  rintro e w2 ⟨v, rfl, Ad, Cd, rfl, rd, td, b2⟩
  have hb2 := HB1.out.trans (b2.mono HB1.out.size)
  have HS2 := hid (SMid.start w w2 n Z U w.heap.size Ad Cd hb2 (HM1.out.below b2) (fun hz => by
    obtain ⟨b, o, e, hc⟩ := rd hz
    exact ⟨b, o, e, .inr (by obtain ⟨c, fr, h⟩ := td _ e; exact ⟨c, fr, h⟩), hc⟩))
  have s1 : w2.cell? ⟨k, 1, .none⟩ = some (.slice V n Cv) := cell_below hb2 HT1.out
  have hk3 : k < w2.heap.size := World.block_lt_of_cell? _ _ s1
  clear hb2 rd td b2 HB1 HM1
  go_wp2_with fail
  clear s1 hk3
  go_loopw [3, 23] (fun sv i wr => ∃ m : Nat, m ≤ n ∧ i = .int .i64 m ∧ Hid (SMid w wr m (outZ n Z U) sv)) (fun _ i _ => n - (intOf i).toNat)
  case atStart => exact ⟨0, Nat.zero_le _, rfl, HS2⟩
  case round =>
    obtain ⟨m, hm, rfl, HS⟩ := hrel
    clear HS2
    by_cases hlt : m < n
    · obtain ⟨b, o, rfl, hc⟩ := HR.out.1 (by omega)
      obtain ⟨d1, d2⟩ := hc m hlt
      have hbw : Below w.heap.size w wr := by obtain ⟨_, _, _, _, _, _, h⟩ := HS.out; exact h
      have e1 : wr.cell? ⟨b, o + m * 2, .none⟩ = some (.slice (A m) (Z m).length (C m)) := cell_below hbw d1
      have e2 : wr.cell? ⟨b, o + m * 2 + 1, .none⟩ = some (.int .u64 (U m)) := cell_below hbw d2
      have hTw := hid (HT.out.below hbw)
      have hUm := hid (HU.out m hlt)
      have hrk : Hid (RdF wr w.heap.size (A m) (Z m)) := fun hz => by
        obtain ⟨b', o', e', hc'⟩ := (HR.out.2 m hlt) hz
        exact ⟨b', o', e', .inl (World.block_lt_of_cell? _ _ (hc' 0 hz)), fun i hi => cell_below hbw (hc' i hi)⟩
      clear hc d1 d2 hbw
      obtain ⟨g, c, hsv⟩ := HS.out.shape
      subst hsv
      go_wp2_with fail
      have ha : Below wr.heap.size wr (wr.alloc (.cells #[.slice (A m) (Z m).length (C m), .int .u64 (U m)] 42)) := (Below.refl _ _).alloc (Nat.le_refl _) _
      have hh := (MapKept.heap_alloc wr (.cells #[.slice (A m) (Z m).length (C m), .int .u64 (U m)] 42)).1
      have S0 : (wr.alloc (.cells #[.slice (A m) (Z m).length (C m), .int .u64 (U m)] 42)).cell? ⟨wr.heap.size, 0, .none⟩ = some (.slice (A m) (Z m).length (C m)) ∧ (wr.alloc (.cells #[.slice (A m) (Z m).length (C m), .int .u64 (U m)] 42)).cell? ⟨wr.heap.size, 1, .none⟩ = some (.int .u64 (U m)) ∧ (wr.alloc (.cells #[.slice (A m) (Z m).length (C m), .int .u64 (U m)] 42)).heap[wr.heap.size]? = some (.cells #[.slice (A m) (Z m).length (C m), .int .u64 (U m)] 42 (0, 0)) :=
        ⟨by simp only [World.cell?, hh]; rfl, by simp only [World.cell?, hh]; rfl, hh⟩
      have HS3 := hid (HS.out.below ha)
      have HT3 := hid (hTw.out.below ha)
      have HK3 := hid (hrk.out.below ha)
      clear ha hh HS hTw hrk e1 e2
      generalize wr.alloc (.cells #[.slice (A m) (Z m).length (C m), .int .u64 (U m)] 42) = W3 at S0 HS3 HT3 HK3 ⊢
      generalize wr.heap.size = kb at S0 ⊢
      go_region_held_law (fun w' => w'.cell? ⟨kb, 0, .none⟩ = some (.slice (A m) (Z m).length (C m)) ∧ w'.cell? ⟨kb, 1, .none⟩ = some (.int .u64 (U m)) ∧ w'.heap[kb]? = some (.cells #[.slice (A m) (Z m).length (C m), .int .u64 (U m)] 42 (0, 0)))
        (first | exact keep3 S0 (Below.refl _ _).drew | exact keep3 (by assumption) (by assumption) | exact keep3 (by assumption) ((Below.refl _ _).alloc (Nat.le_refl _) _) | exact keep4 (by assumption) (by assumption))
        (first
          | (refine step_run (by rfl) (.tmp 27) (.tmp 33) 22 22 (by rfl) _ _ (by simp [Act.eval]) (by simp [Act.eval]) _ (append_step w W3 w4 n m Z U _ HS3.out ((Below.refl _ _).drew.trans hb4) (A m) A4 (C m) C4 HK3.out HD4.out (by omega) _) 34 (by rfl) ?_
             rintro v' w6 ⟨HS6, hst6⟩)
          | (go_at_call 27; refine (appendUint (U m) hUm.out _ (HT3.out.below (Below.refl _ _).drew)).mono ?_; rintro e w4 ⟨v, rfl, A4, C4, rfl, rd4, td4, hb4⟩; have HD4 : Hid (RdF w4 w.heap.size A4 (digits (U m))) := (fun hz => (by obtain ⟨b, o, e, hc⟩ := rd4 hz; exact ⟨b, o, e, .inr (td4 _ e), hc⟩))))
      have HS7 := hid HS6
      clear HS6 hst6 rd4 td4 hb4 HD4 S0 HS3 HT3 HK3
      go_wp2_with fail
      go_roundw
      case rel => exact ⟨m + 1, by omega, by go_num, HS7⟩
      case measure => simp [intOf]; omega
    · have hmn : m = n := by omega
      subst hmn
      obtain ⟨g, c, hsv⟩ := HS.out.shape
      subst hsv
      have hbw : Below w.heap.size w wr := by obtain ⟨_, _, _, _, _, _, h⟩ := HS.out; exact h
      have e0 : wr.cell? ⟨k, 0, .none⟩ = some (.slice .none 0 0) := cell_below hbw HT0.out
      clear hbw
      go_wp2_with fail
      go_loopw [41, 3] (fun i sv w3 => i = .int .i64 0 ∧ sv = .slice (some ⟨g, 0, .none⟩) (2 + 2 * m) c ∧ w3 = wr) (fun _ _ _ => 0)
      case atStart => exact ⟨rfl, rfl, rfl⟩
      case round =>
        obtain ⟨rfl, rfl, rfl⟩ := hrel
        go_wp2_with fail
        go_ret
        exact ⟨_, rfl, HS.out⟩
end Go.Proofs.Qxb6603675aDoor.Mem
