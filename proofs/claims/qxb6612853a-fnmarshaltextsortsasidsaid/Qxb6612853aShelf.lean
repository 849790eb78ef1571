/-
  encoding/hex.EncodeToString's contract of the shelf, laid at this program (plain words, by the shelf's own tools).
-/
import Derived.Shelf.Hex.Encode
import Derived.Test.Qxb6612853aChecked
namespace Go.Proofs.Qxb6612853a
open Go.Shelf
def Try.laysPah39_ren : Go.Shelf.Ren := ⟨fun | 39 => 42 | 41 => 47 | 40 => 48 | n => n, fun | 30 => 48 | 9 => 9 | 3 => 3 | 0 => 0 | 5 => 5 | 46 => 56 | n => n, fun | n => n⟩
theorem Try.laysPah39 : Go.Proofs.Lays.ph39 Try.prog Try.laysPah39_ren := {
  mixed := by kernel_rfl
  f39 := Try.func42.trans (congrArg some (by kernel_rfl))
  f40 := Try.func48.trans (congrArg some (by kernel_rfl))
  f41 := Try.func47.trans (congrArg some (by kernel_rfl))
  t0 := Try.underlying0
  a0 := Try.isAgg0
  z0 := Try.sizeOf0
  v0 := Try.zeroValue0
  t3 := Try.underlying3
  a3 := Try.isAgg3
  z3 := Try.sizeOf3
  v3 := Try.zeroValue3
  t5 := Try.underlying5
  a5 := Try.isAgg5
  z5 := Try.sizeOf5
  v5 := Try.zeroValue5
  t9 := Try.underlying9
  a9 := Try.isAgg9
  z9 := Try.sizeOf9
  v9 := Try.zeroValue9
  t30 := Try.underlying48
  a30 := Try.isAgg48
  z30 := Try.sizeOf48
  v30 := Try.zeroValue48
  t46 := Try.underlying56
  a46 := Try.isAgg56
  z46 := Try.sizeOf56
  v46 := Try.zeroValue56
  info5 := by kernel_rfl }
open Go.RowKit Go.Lib in
/-- encoding/hex.EncodeToString: "EncodeToString returns the hexadecimal encoding of src.": src: n cells holding the numbers xs, each a byte's. IT RETURNS THE STRING OF 'Hx.encode (the bytes of src)'; what was there before the call is as it was ('Below': the call lays one new block). IT ASKS 2 * n ≤ 2^48 (makeslice's own limit). (LAID: no walk: one application.) -/
theorem Try.hex_EncodeToString (bs os n cs : Nat) (xs : List Int) (w : World) (hx : xs.length = n) (hr : ∀ i, i < n → 0 ≤ xs.getD i 0 ∧ xs.getD i 0 < 256) (hsrc : ∀ i, i < n → w.cell? ⟨bs, os + i, none⟩ = some (.int .u8 (xs.getD i 0))) (hb : bs < w.heap.size) (hbig : 2 * n ≤ 281474976710656) :
    Calls Try.prog 42 #[.slice (some ⟨bs, os, none⟩) n cs] w fun e w' => e = .returned (.string ⟨(Hx.encode (Lib.bytesOf xs)).toArray⟩) ∧ Below w.heap.size w w' := Any.hex_EncodeToString Try.laysPah39 bs os n cs xs w hx hr hsrc hb hbig
end Go.Proofs.Qxb6612853a
