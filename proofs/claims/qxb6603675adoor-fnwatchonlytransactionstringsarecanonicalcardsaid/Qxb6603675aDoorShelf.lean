/-
  The shelf's contracts of internal/strconv (small, numDigits, formatBase10, AppendUint at base 10) laid at this seat's dump: the table of numbers and the closed facts, as the kit's own layer wrote them in plain words, under names of this seat.
-/
import Derived.Shelf.Strconv.Itoa1
import Derived.Shelf.LaysM
import Derived.Shelf.Strconv.Itoa2
import Derived.Shelf.Strconv.AppendUint10
import Derived.Shelf.Strconv.AppendInt10
import Derived.Test.Qxb6603675aDoorRows
namespace Go.Proofs.Qxb6603675aDoor.Sh
open Go.Proofs Go.Shelf
/-- The name of the table of powers of ten, as the given row lists it. -/
def tabName : String := (Rows.fnWatchOnlyTransactionStringsAreCanonicalRow.named.getD 1 Rows.fnWatchOnlyTransactionStringsAreCanonicalRow.func)
def lays283_ren : Go.Shelf.Ren := ⟨fun | 283 => 33 | n => n, fun | 3 => 3 | 9 => 9 | 4 => 4 | n => n, fun | n => n⟩
theorem lays283 : Go.Proofs.Lays.n283 Tryd.prog lays283_ren := {
  mixed := by kernel_rfl
  f283 := Tryd.func33.trans (congrArg some (by kernel_rfl))
  t3 := Tryd.underlying3
  a3 := Tryd.isAgg3
  z3 := Tryd.sizeOf3
  v3 := Tryd.zeroValue3
  t4 := Tryd.underlying4
  a4 := Tryd.isAgg4
  z4 := Tryd.sizeOf4
  v4 := Tryd.zeroValue4
  t9 := Tryd.underlying9
  a9 := Tryd.isAgg9
  z9 := Tryd.sizeOf9
  v9 := Tryd.zeroValue9 }
open Go.Lib in
/-- internal/strconv.small: "small returns the string for an i with 0 <= i < nSmalls.": i's decimal numeral. The world is as it was. (LAID: no walk: one application.) -/
theorem internal_strconv_small (i : Nat) (h : i < 100) (w : World) :
    Calls Tryd.prog 33 #[.int .i64 i] w fun e w' => e = .returned (.string ⟨(Lib.decDigits i).toArray⟩) ∧ w' = w := Any.internal_strconv_small lays283 i h w
def laysM284_ren : Go.Shelf.Ren := ⟨fun | 284 => 34 | 129 => 42 | 317 => 41 | 318 => 43 | n => n, fun | 53 => 40 | 3 => 3 | 212 => 84 | 0 => 0 | 4 => 4 | 46 => 88 | 5 => 5 | 9 => 9 | n => n, fun | 17 => 1 | n => n⟩
theorem laysM284 : Go.Proofs.LaysM.n284 Tryd.prog laysM284_ren := {
  mixed := by kernel_rfl
  f129 := Tryd.func42.trans (congrArg some (by kernel_rfl))
  f284 := Tryd.func34.trans (congrArg some (by kernel_rfl))
  f317 := Tryd.func41.trans (congrArg some (by kernel_rfl))
  f318 := Tryd.func43.trans (congrArg some (by kernel_rfl))
  t0 := Tryd.underlying0
  a0 := Tryd.isAgg0
  z0 := Tryd.sizeOf0
  v0 := Tryd.zeroValue0
  t3 := Tryd.underlying3
  a3 := Tryd.isAgg3
  z3 := Tryd.sizeOf3
  v3 := Tryd.zeroValue3
  t4 := Tryd.underlying4
  a4 := Tryd.isAgg4
  z4 := Tryd.sizeOf4
  v4 := Tryd.zeroValue4
  t5 := Tryd.underlying5
  a5 := Tryd.isAgg5
  z5 := Tryd.sizeOf5
  v5 := Tryd.zeroValue5
  t9 := Tryd.underlying9
  a9 := Tryd.isAgg9
  z9 := Tryd.sizeOf9
  v9 := Tryd.zeroValue9
  t46 := Tryd.underlying88
  a46 := Tryd.isAgg88
  z46 := Tryd.sizeOf88
  v46 := Tryd.zeroValue88
  t53 := Tryd.underlying40
  a53 := Tryd.isAgg40
  z53 := Tryd.sizeOf40
  v53 := Tryd.zeroValue40
  t212 := Tryd.underlying84
  a212 := Tryd.isAgg84
  z212 := Tryd.sizeOf84
  v212 := Tryd.zeroValue84
  g17 := by kernel_rfl
  i0 := by kernel_rfl
  i3 := by kernel_rfl
  i4 := by kernel_rfl
  i5 := by kernel_rfl
  i9 := by kernel_rfl
  i46 := by kernel_rfl
  i53 := by kernel_rfl
  i212 := by kernel_rfl
  m17 := by kernel_rfl }
open Go.Lib in
/-- internal/strconv.numDigits, at a d that is not 0: THE NUMBER OF d's DECIMAL DIGITS. The world is as it was. (LAID: no walk: one application.) -/
theorem internal_strconv_numDigits (u : Nat) (h1 : 1 ≤ u) (h2 : u < 18446744073709551616) (w : World) (htab : Lib.TabIs Tryd.prog w tabName .u64 Lib.pow10Tab) :
    Calls Tryd.prog 34 #[.int .u64 u] w fun e w' => e = .returned (.int .i64 (Lib.nDigits u)) ∧ w' = w := Any.internal_strconv_numDigits laysM284 u h1 h2 w htab
def lays285_ren : Go.Shelf.Ren := ⟨fun | 285 => 35 | n => n, fun | 37 => 24 | 53 => 40 | 3 => 3 | 4 => 4 | 51 => 85 | 9 => 9 | 5 => 5 | 0 => 0 | n => n, fun | n => n⟩
theorem lays285 : Go.Proofs.Lays.n285 Tryd.prog lays285_ren := {
  mixed := by kernel_rfl
  f285 := Tryd.func35.trans (congrArg some (by kernel_rfl))
  t0 := Tryd.underlying0
  a0 := Tryd.isAgg0
  z0 := Tryd.sizeOf0
  v0 := Tryd.zeroValue0
  t3 := Tryd.underlying3
  a3 := Tryd.isAgg3
  z3 := Tryd.sizeOf3
  v3 := Tryd.zeroValue3
  t4 := Tryd.underlying4
  a4 := Tryd.isAgg4
  z4 := Tryd.sizeOf4
  v4 := Tryd.zeroValue4
  t5 := Tryd.underlying5
  a5 := Tryd.isAgg5
  z5 := Tryd.sizeOf5
  v5 := Tryd.zeroValue5
  t9 := Tryd.underlying9
  a9 := Tryd.isAgg9
  z9 := Tryd.sizeOf9
  v9 := Tryd.zeroValue9
  t37 := Tryd.underlying24
  a37 := Tryd.isAgg24
  z37 := Tryd.sizeOf24
  v37 := Tryd.zeroValue24
  t51 := Tryd.underlying85
  a51 := Tryd.isAgg85
  z51 := Tryd.sizeOf85
  v51 := Tryd.zeroValue85
  t53 := Tryd.underlying40
  a53 := Tryd.isAgg40
  z53 := Tryd.sizeOf40
  v53 := Tryd.zeroValue40 }
open Go.RowKit Go.Sort Go.Lib in
/-- internal/strconv.formatBase10: "formatBase10 formats the decimal representation of u into a. The caller is responsible for ensuring that a is big enough to hold u. If a is too big, leading zeros will be filled in as needed.": THE ROW HOLDS u's DIGITS ('FmtInv .. 0 ..': every place t holds 'dg u (len - 1 - t)'); all else is as it was but for the count of draws. (LAID: no walk: one application.) -/
theorem internal_strconv_formatBase10 (blk off cap : Nat) (u : Nat) (d : Array UInt8) (w : World) (hH : Holds (fun (b : UInt8) => Value.int .u8 (b.toNat : Int)) w blk off d) (hu : u < 10 ^ d.size) (hu64 : u < 18446744073709551616) (hsz : d.size < 4611686018427387904) :
    Calls Tryd.prog 35 #[.slice (some ⟨blk, off, none⟩) d.size cap, .int .u64 u] w fun e w' =>
      e = .returned (.tuple #[]) ∧ ∃ (n v' : Nat) (dk : Array UInt8), w' = (putRow (fun (b : UInt8) => Value.int .u8 (b.toNat : Int)) w blk off dk).drewN n ∧ FmtInv d.size u 0 v' dk := Any.internal_strconv_formatBase10 lays285 blk off cap u d w hH hu hu64 hsz
def laysM288_ren : Go.Shelf.Ren := ⟨fun | 288 => 31 | 283 => 33 | 284 => 34 | 285 => 35 | 286 => 36 | 129 => 42 | 317 => 41 | 318 => 43 | 319 => 44 | 320 => 45 | 337 => 46 | 338 => 47 | n => n, fun | 37 => 24 | 53 => 40 | 3 => 3 | 4 => 4 | 9 => 9 | 171 => 66 | 0 => 0 | 173 => 77 | 212 => 84 | 51 => 85 | 5 => 5 | 20 => 20 | 213 => 86 | 46 => 88 | 232 => 99 | 233 => 100 | n => n, fun | 17 => 1 | 18 => 2 | 19 => 3 | n => n⟩
theorem laysM288 : Go.Proofs.LaysM.n288 Tryd.prog laysM288_ren := {
  mixed := by kernel_rfl
  f129 := Tryd.func42.trans (congrArg some (by kernel_rfl))
  f283 := Tryd.func33.trans (congrArg some (by kernel_rfl))
  f284 := Tryd.func34.trans (congrArg some (by kernel_rfl))
  f285 := Tryd.func35.trans (congrArg some (by kernel_rfl))
  f286 := Tryd.func36.trans (congrArg some (by kernel_rfl))
  f288 := Tryd.func31.trans (congrArg some (by kernel_rfl))
  f317 := Tryd.func41.trans (congrArg some (by kernel_rfl))
  f318 := Tryd.func43.trans (congrArg some (by kernel_rfl))
  f319 := Tryd.func44.trans (congrArg some (by kernel_rfl))
  f320 := Tryd.func45.trans (congrArg some (by kernel_rfl))
  f337 := Tryd.func46.trans (congrArg some (by kernel_rfl))
  f338 := Tryd.func47.trans (congrArg some (by kernel_rfl))
  t0 := Tryd.underlying0
  a0 := Tryd.isAgg0
  z0 := Tryd.sizeOf0
  v0 := Tryd.zeroValue0
  t3 := Tryd.underlying3
  a3 := Tryd.isAgg3
  z3 := Tryd.sizeOf3
  v3 := Tryd.zeroValue3
  t4 := Tryd.underlying4
  a4 := Tryd.isAgg4
  z4 := Tryd.sizeOf4
  v4 := Tryd.zeroValue4
  t5 := Tryd.underlying5
  a5 := Tryd.isAgg5
  z5 := Tryd.sizeOf5
  v5 := Tryd.zeroValue5
  t9 := Tryd.underlying9
  a9 := Tryd.isAgg9
  z9 := Tryd.sizeOf9
  v9 := Tryd.zeroValue9
  t20 := Tryd.underlying20
  a20 := Tryd.isAgg20
  z20 := Tryd.sizeOf20
  v20 := Tryd.zeroValue20
  t37 := Tryd.underlying24
  a37 := Tryd.isAgg24
  z37 := Tryd.sizeOf24
  v37 := Tryd.zeroValue24
  t46 := Tryd.underlying88
  a46 := Tryd.isAgg88
  z46 := Tryd.sizeOf88
  v46 := Tryd.zeroValue88
  t51 := Tryd.underlying85
  a51 := Tryd.isAgg85
  z51 := Tryd.sizeOf85
  v51 := Tryd.zeroValue85
  t53 := Tryd.underlying40
  a53 := Tryd.isAgg40
  z53 := Tryd.sizeOf40
  v53 := Tryd.zeroValue40
  t171 := Tryd.underlying66
  a171 := Tryd.isAgg66
  z171 := Tryd.sizeOf66
  v171 := Tryd.zeroValue66
  t173 := Tryd.underlying77
  a173 := Tryd.isAgg77
  z173 := Tryd.sizeOf77
  v173 := Tryd.zeroValue77
  t212 := Tryd.underlying84
  a212 := Tryd.isAgg84
  z212 := Tryd.sizeOf84
  v212 := Tryd.zeroValue84
  t213 := Tryd.underlying86
  a213 := Tryd.isAgg86
  z213 := Tryd.sizeOf86
  t232 := Tryd.underlying99
  a232 := Tryd.isAgg99
  z232 := Tryd.sizeOf99
  v232 := Tryd.zeroValue99
  t233 := Tryd.underlying100
  a233 := Tryd.isAgg100
  z233 := Tryd.sizeOf100
  v233 := Tryd.zeroValue100
  g17 := by kernel_rfl
  g18 := by kernel_rfl
  g19 := by kernel_rfl
  i0 := by kernel_rfl
  i3 := by kernel_rfl
  i4 := by kernel_rfl
  i5 := by kernel_rfl
  i9 := by kernel_rfl
  i20 := by kernel_rfl
  i37 := by kernel_rfl
  i46 := by kernel_rfl
  i51 := by kernel_rfl
  i53 := by kernel_rfl
  i171 := by kernel_rfl
  i173 := by kernel_rfl
  i212 := by kernel_rfl
  i232 := by kernel_rfl
  i233 := by kernel_rfl
  m17 := by kernel_rfl
  m18 := by kernel_rfl
  m19 := by kernel_rfl }
open Go.RowKit Go.Sort Go.Lib in
/-- internal/strconv.AppendUint(dst, i, 10), i BELOW 100: WHAT COMES BACK OWNS dst's CELLS AND, BEHIND THEM, i's DECIMAL NUMERAL. No table is read. Below the call's own blocks nothing has turned. (LAID: no walk: one application.) -/
theorem internal_strconv_AppendUint_10_small (B n u : Nat) (hu : u < 100) (sv : Value) (xs : List Value) (w : World) (hown : w.ownsRow B 5 1 sv n xs) (hBw : B ≤ w.heap.size) (hlim : n + 20 ≤ 140737488355328) :
    Calls Tryd.prog 31 #[sv, .int .u64 u, .int .i64 10] w fun e w' => ∃ v', e = .returned v' ∧ w'.ownsRow B 5 1 v' (n + (Lib.decDigits u).length) (xs ++ Lib.byteCells (Lib.decDigits u)) ∧ Below B w w' ∧ Lib.OthersKept 5 none w w' := Any.internal_strconv_AppendUint_10_small laysM288 B n u hu sv xs w hown hBw hlim
open Go.RowKit Go.Sort Go.Lib in
/-- internal/strconv.AppendUint(dst, i, 10), i FROM 100 ON: likewise; the digits are laid in an array of the call's own and appended. (LAID: no walk: one application.) -/
theorem internal_strconv_AppendUint_10_big (B n u : Nat) (hu : 100 ≤ u) (hu64 : u < 18446744073709551616) (sv : Value) (xs : List Value) (w : World) (hown : w.ownsRow B 5 1 sv n xs) (hBw : B ≤ w.heap.size) (hlim : n + 20 ≤ 140737488355328) (htab : Lib.TabIs Tryd.prog w tabName .u64 Lib.pow10Tab) :
    Calls Tryd.prog 31 #[sv, .int .u64 u, .int .i64 10] w fun e w' => ∃ v', e = .returned v' ∧ w'.ownsRow B 5 1 v' (n + (Lib.decDigits u).length) (xs ++ Lib.byteCells (Lib.decDigits u)) ∧ Below B w w' ∧ Lib.OthersKept 5 none w w' := Any.internal_strconv_AppendUint_10_big laysM288 B n u hu hu64 sv xs w hown hBw hlim htab
open Go.RowKit Go.Sort Go.Lib in
/-- internal/strconv.AppendUint(dst, i, 10): the two contracts as one. NO WALK. (LAID: no walk: one application.) -/
theorem internal_strconv_AppendUint_10 (B n u : Nat) (hu64 : u < 18446744073709551616) (sv : Value) (xs : List Value) (w : World) (hown : w.ownsRow B 5 1 sv n xs) (hBw : B ≤ w.heap.size) (hlim : n + 20 ≤ 140737488355328) (htab : Lib.TabIs Tryd.prog w tabName .u64 Lib.pow10Tab) :
    Calls Tryd.prog 31 #[sv, .int .u64 u, .int .i64 10] w fun e w' => ∃ v', e = .returned v' ∧ w'.ownsRow B 5 1 v' (n + (Lib.decDigits u).length) (xs ++ Lib.byteCells (Lib.decDigits u)) ∧ Below B w w' ∧ Lib.OthersKept 5 none w w' := Any.internal_strconv_AppendUint_10 laysM288 B n u hu64 sv xs w hown hBw hlim htab
end Go.Proofs.Qxb6603675aDoor.Sh
