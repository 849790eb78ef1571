/-
  The walks of (ID).String and (ID).MarshalText: the 64 lower-case hexadecimal digits of the 32 bytes.
-/
import Derived.Test.Qxb6612853aShelf
import Derived.WalkKit
import Derived.WalkSpells
import Derived.WalkLawsBesides
import Derived.Laws.IdiomStrings
namespace Go.Proofs.Qxb6612853a
open Go.RowKit

/-- The cells of an array of bytes: 32 numbers, each a byte's. -/
structure IsId (cs : Array Value) (xs : List Int) : Prop where
  size : cs.size = 32
  len : xs.length = 32
  cell : ∀ i, i < 32 → cs[i]? = some (.int .u8 (xs.getD i 0))
  byte : ∀ i, i < 32 → 0 ≤ xs.getD i 0 ∧ xs.getD i 0 < 256

/-- The text's numbers, and the text. -/
def tn (xs : List Int) : List Int := Lib.Hx.nums (Lib.bytesOf xs)
def txt (xs : List Int) : ByteArray := ⟨(Lib.Hx.encode (Lib.bytesOf xs)).toArray⟩
theorem tn_len (xs : List Int) (h : xs.length = 32) : (tn xs).length = 64 := by
  rw [tn, Lib.Hx.nums_length, Lib.bytesOf_length, h]
theorem txt_size (xs : List Int) (h : xs.length = 32) : (txt xs).size = 64 := by
  show (Lib.Hx.encode (Lib.bytesOf xs)).toArray.size = 64
  rw [List.size_toArray, Lib.Hx.encode_length, Lib.bytesOf_length, h]
theorem str_tn (xs : List Int) : strOfNums (tn xs) = txt xs := Lib.Hx.strOfNums_nums _
theorem row_txt (xs : List Int) (h : xs.length = 32) (c i : Nat) (hi : i < 64) : (bytesRow (txt xs) c)[i]? = some (.int .u8 ((tn xs).getD i 0)) := by
  have hs := txt_size xs h
  unfold bytesRow
  rw [Array.getElem?_append_left (by rw [Array.size_map]; show i < (txt xs).size; omega), Array.getElem?_map]
  show Option.map _ ((Lib.Hx.encode (Lib.bytesOf xs)).toArray[i]?) = _
  rw [List.getElem?_toArray, tn, Lib.Hx.nums_getD, List.getElem?_eq_getElem (by rw [Lib.Hx.encode_length, Lib.bytesOf_length, h]; exact hi)]
  rfl

set_option maxHeartbeats 400000 in
theorem string_any (cs : Array Value) (xs : List Int) (w : World) (h : IsId cs xs) :
    Calls Try.prog 30 #[.agg cs] w fun e w' => e = .returned (.string (txt xs)) ∧ Below w.heap.size w w' := by
  go_enter Try.func30, Try.ntmps30
  go_wp2_with fail
  refine (Try.hex_EncodeToString w.heap.size 0 32 32 xs _ h.len h.byte ?_ ?_ (by omega)).mono ?_
  · intro i hi
    have := h.cell i hi
    rw [World.cell?_alloc_mark, Nat.zero_add]; exact this
  · simp
  rintro e w1 ⟨rfl, hb⟩
  have HB : Hid (Below (w.alloc (.cells cs 27)).heap.size (w.alloc (.cells cs 27)) w1) := hb
  clear hb
  go_wp2
  go_ret
  exact ⟨rfl, ((Below.refl _ w).alloc (Nat.le_refl _) _).trans (HB.out.mono (by simp))⟩

set_option maxHeartbeats 400000 in
theorem marshal_any (cs : Array Value) (xs : List Int) (w : World) (h : IsId cs xs) :
    Calls Try.prog 29 #[.agg cs] w fun e w' => ∃ b cap, e = .returned (.tuple #[.slice (some ⟨b, 0, none⟩) 64 cap, .nilIface]) ∧ w.heap.size ≤ b ∧ b < w'.heap.size ∧
      (∀ i, i < 64 → w'.cell? ⟨b, i, none⟩ = some (.int .u8 ((tn xs).getD i 0))) ∧ Below w.heap.size w w' := by
  have hcv := fun w s => run_bytes_of_string (P := Try.prog) w 9 48 5 s Try.underlying9 Try.underlying48 Try.underlying5
  have hsz : (txt xs).size = 64 := txt_size xs h.len
  have hsz' : cs.size = 32 := h.size
  go_enter Try.func29, Try.ntmps29
  go_wp2_with (first
    | (refine wpList_load_row rfl 27 _ rfl w.heap.size rfl 27 cs (0, 0) _ (heap_alloc_new _ _) Try.underlying27 rfl (by rw [hsz']; kernel_rfl) ?_)
    | (go_at_call 30; refine (string_any cs xs _ h).mono ?_; rintro e w1 ⟨rfl, hb⟩))
  have HB : Hid (Below (w.alloc (.cells cs 27)).heap.size (w.alloc (.cells cs 27)) w1) := hb
  clear hb
  go_ret2
  refine ⟨w1.heap.size, _, rfl, ?_, ?_, ?_, ?_⟩
  · have := HB.out.size; simp at this; omega
  · simp
  · intro i hi
    show (w1.alloc _).cell? _ = _
    rw [World.cell?_alloc_mark, row_txt xs h.len _ i hi]
  · refine Below.drew (Below.alloc (((Below.refl _ w).alloc (Nat.le_refl _) _).trans (HB.out.mono (by simp))) ?_ _)
    have := HB.out.size; simp at this; omega

theorem ret_int {k : IntKind} {a b : Int} (h : a = b) : Ending.returned (.int k a) = .returned (.int k b) := by rw [h]
theorem ret_bool {a b : Bool} (h : a = b) : Ending.returned (.bool a) = .returned (.bool b) := by rw [h]
theorem ret_two {k : IntKind} {a b : Int} {v : Value} (h : a = b) : Ending.returned (.tuple #[.int k a, v]) = .returned (.tuple #[.int k b, v]) := by rw [h]

/-- zzHexVal: the value of a lower-case hexadecimal digit. -/
def hexVal (c : Int) : Int := if 48 ≤ c ∧ c ≤ 57 then c - 48 else c - 87
theorem hexval_any (c : Int) (w : World) (h : (48 ≤ c ∧ c ≤ 57) ∨ (97 ≤ c ∧ c ≤ 102)) :
    Calls Try.prog 31 #[.int .u8 c] w fun e w' => e = .returned (.tuple #[.int .u8 (hexVal c), .bool true]) ∧ w' = w := by
  rcases h with ⟨h1, h2⟩ | ⟨h1, h2⟩
  · go_enter Try.func31, Try.ntmps31
    go_wp2
    go_ret2
    exact ⟨ret_two (a := c - 48) (by rw [hexVal, if_pos ⟨h1, h2⟩]), rfl⟩
  · have h3 : ¬ c ≤ 57 := by omega
    go_enter Try.func31, Try.ntmps31
    go_wp2
    go_ret2
    exact ⟨ret_two (a := c - 97 + 10) (by rw [hexVal, if_neg (by omega)]; omega), rfl⟩
end Go.Proofs.Qxb6612853a
