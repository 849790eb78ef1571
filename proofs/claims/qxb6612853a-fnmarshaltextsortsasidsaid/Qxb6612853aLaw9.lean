import Derived.Test.Qxb6612853aWalkA
import Derived.Deep.RegionHeld3
import Derived.Deep.MidRow
import Derived.Deep.RegionWith
namespace Go.Proofs.Qxb6612853a
open Go.RowKit

theorem IsId.one {cs : Array Value} {xs : List Int} (h : IsId cs xs) : ∀ v ∈ cs.toList, v.oneCell' = true := by
  intro v hv
  obtain ⟨i, hi, rfl⟩ := List.getElem_of_mem hv
  have hi' : i < 32 := by have := h.size; simp at hi; omega
  have := h.cell i hi'
  rw [Array.getElem?_eq_getElem (by rw [h.size]; exact hi')] at this
  simp at this
  simp [this, Value.oneCell']

theorem conv_at (b cap : Nat) (xs : List Int) (hl : xs.length = 32) (w : World) (h : ∀ i, i < 64 → w.cell? ⟨b, i, none⟩ = some (.int .u8 ((tn xs).getD i 0))) :
    (convert 48 9 (.slice (some ⟨b, 0, none⟩) 64 cap)).run Try.prog w = .ok (.string (txt xs)) w := by
  rw [← str_tn]
  exact run_convert_bytes_arg w 48 5 Try.underlying48 Try.underlying5 b 0 64 cap (tn xs) (tn_len xs hl) (fun i hi => by rw [Nat.zero_add]; exact h i hi) 9 Try.underlying9

theorem range_of (w : World) (g : Nat) (cs : Array Value) (T : TypeId) (fr : Nat × Nat) (h : w.heap[g]? = some (.cells cs T fr)) : w.rangeAt g 0 cs.toList := fun j v hv => by
  rw [Nat.zero_add, cell_of_row w g j cs T fr h]; simpa using hv
theorem range_below {w w' : World} {g o : Nat} {cs : List Value} (h : w.rangeAt g o cs) {B : Nat} (hb : Below B w w') (hg : g < B) : w'.rangeAt g o cs := fun j v hv => by
  rw [hb.cell (p := ⟨g, o + j, none⟩) hg]; exact h j v hv

/-- What stays known of the world behind MarshalText's call: the text's cells, the box of id, and that nothing old has turned. -/
structure Kp (w : World) (cs : Array Value) (b : Nat) (xs : List Int) (w' : World) : Prop where
  cell : ∀ i, i < 64 → w'.cell? ⟨b, i, none⟩ = some (.int .u8 ((tn xs).getD i 0))
  hb : b < w'.heap.size
  hs : w.heap.size < w'.heap.size
  box : w'.heap[w.heap.size]? = some (.cells cs 22 (0, 0))
  bel : Below w.heap.size w w'
theorem Kp.drew {w : World} {cs : Array Value} {b : Nat} {xs : List Int} {w' : World} (k : Kp w cs b xs w') : Kp w cs b xs w'.drew := ⟨k.cell, k.hb, k.hs, k.box, k.bel.drew⟩
theorem Kp.below {w : World} {cs : Array Value} {b : Nat} {xs : List Int} {w' w2 : World} (k : Kp w cs b xs w') (h : Below w'.heap.size w' w2) : Kp w cs b xs w2 :=
  ⟨fun i hi => (h.cell (p := ⟨b, i, none⟩) k.hb).trans (k.cell i hi), Nat.lt_of_lt_of_le k.hb h.size, Nat.lt_of_lt_of_le k.hs h.size, (h.block _ k.hs).trans k.box, k.bel.trans (h.mono (Nat.le_of_lt k.hs))⟩
theorem Kp.all {w : World} {cs : Array Value} {b cap : Nat} {xs : List Int} {w' : World} (hl : xs.length = 32) (k : Kp w cs b xs w') :
    Kp w cs b xs w' ∧ w'.rangeAt w.heap.size 0 cs.toList ∧ (convert 48 9 (.slice (some ⟨b, 0, none⟩) 64 cap)).run Try.prog w' = .ok (.string (txt xs)) w' :=
  ⟨k, range_of _ _ _ _ _ k.box, conv_at b cap xs hl _ k.cell⟩

theorem digit_lo (d : Nat) (h : d < 16) : ((48 ≤ ((Lib.Hx.digit d).toNat : Int) ∧ ((Lib.Hx.digit d).toNat : Int) ≤ 57) ∨ (97 ≤ ((Lib.Hx.digit d).toNat : Int) ∧ ((Lib.Hx.digit d).toNat : Int) ≤ 102)) ∧ hexVal ((Lib.Hx.digit d).toNat : Int) = d := by
  have : ∀ d : Fin 16, ((48 ≤ ((Lib.Hx.digit d).toNat : Int) ∧ ((Lib.Hx.digit d).toNat : Int) ≤ 57) ∨ (97 ≤ ((Lib.Hx.digit d).toNat : Int) ∧ ((Lib.Hx.digit d).toNat : Int) ≤ 102)) ∧ hexVal ((Lib.Hx.digit d).toNat : Int) = d := by decide
  exact this ⟨d, h⟩
theorem dig2 (xs : List Int) {cs : Array Value} (h : IsId cs xs) (k : Nat) (hk : k < 32) :
    ((48 ≤ (tn xs).getD (2 * k) 0 ∧ (tn xs).getD (2 * k) 0 ≤ 57) ∨ (97 ≤ (tn xs).getD (2 * k) 0 ∧ (tn xs).getD (2 * k) 0 ≤ 102)) ∧
    ((48 ≤ (tn xs).getD (2 * k + 1) 0 ∧ (tn xs).getD (2 * k + 1) 0 ≤ 57) ∨ (97 ≤ (tn xs).getD (2 * k + 1) 0 ∧ (tn xs).getD (2 * k + 1) 0 ≤ 102)) ∧
    xs.getD k 0 = 16 * hexVal ((tn xs).getD (2 * k) 0) + hexVal ((tn xs).getD (2 * k + 1) 0) := by
  have hb := h.byte k hk
  have hl := h.len
  obtain ⟨e1, e2⟩ := Lib.Hx.encode_at (Lib.bytesOf xs) k _ (Lib.Hx.bytes_at xs k (by omega))
  have hn : (UInt8.ofNat (xs.getD k 0).toNat).toNat = (xs.getD k 0).toNat := Lib.Hx.byte_toNat _ hb.1 hb.2
  rw [hn] at e1 e2
  unfold tn
  rw [Lib.Hx.nums_getD, Lib.Hx.nums_getD, e1, e2]
  have d1 := digit_lo ((xs.getD k 0).toNat / 16) (by omega)
  have d2 := digit_lo ((xs.getD k 0).toNat % 16) (by omega)
  refine ⟨d1.1, d2.1, ?_⟩
  show _ = 16 * hexVal ((Lib.Hx.digit ((xs.getD k 0).toNat / 16)).toNat : Int) + hexVal ((Lib.Hx.digit ((xs.getD k 0).toNat % 16)).toNat : Int)
  rw [d1.2, d2.2]
  omega
theorem hexVal_lt (p : Int) (h : (48 ≤ p ∧ p ≤ 57) ∨ (97 ≤ p ∧ p ≤ 102)) : 0 ≤ hexVal p ∧ hexVal p < 16 := by
  unfold hexVal; split <;> omega

theorem hex_or (a b : Int) (ha : 0 ≤ a ∧ a < 16) (hb : 0 ≤ b ∧ b < 16) : bits BinOp.or IntKind.u8 (a * 16) b = a * 16 + b := by
  rw [u8_or _ _ (by omega) (by omega) (by omega) (by omega), nat_join 4 _ _ (by omega) (by omega)]
  omega

set_option maxHeartbeats 400000 in
theorem law9 (cs : Array Value) (xs : List Int) (w : World) (h : IsId cs xs) :
    Calls Try.prog 9 #[.agg cs] w fun e w' => e = .returned (.bool true) ∧ Below w.heap.size w w' := by
  have hsz' : cs.size = 32 := h.size
  go_enter Try.func9, Try.ntmps9
  go_wp2_with (first
    | (refine wpList_load_row rfl 22 _ rfl w.heap.size rfl 22 cs (0, 0) _ (heap_alloc_new _ _) Try.underlying22 rfl (by rw [hsz']; kernel_rfl) ?_))
  refine (marshal_any cs xs _ h).mono ?_
  rintro e w1 ⟨b, cap, rfl, hb1, hb2, hcl, hbel⟩
  have hk1 : Kp w cs b xs w1 := ⟨hcl, hb2, by simp at hb1; omega, by rw [hbel.block _ (by simp)]; exact heap_alloc_new _ _, ((Below.refl _ w).alloc (Nat.le_refl _) _).trans (hbel.mono (by simp))⟩
  clear hcl hbel hb1 hb2
  go_wp2_with fail
  have hu := Try.underlying22
  have hi : (Try.prog.info? 22).map (·.size) = some cs.toList.length := by rw [Array.length_toList, hsz']; kernel_rfl
  have hl : cs.toList.length = 32 := by rw [Array.length_toList, hsz']
  have h1 := h.one
  go_region_held3 (fun w' => Kp w cs b xs w' ∧ w'.rangeAt w.heap.size 0 cs.toList ∧ (convert 48 9 (.slice (some ⟨b, 0, none⟩) 64 cap)).run Try.prog w' = .ok (.string (txt xs)) w') (first | exact Kp.all h.len hk1 | exact Kp.all h.len hk1.drew | exact Kp.all h.len (Kp.below (And.left ‹_ ∧ _›) hb)| exact Kp.all h.len (Kp.below ‹Kp _ _ _ _ _› hb)) ((go_at_call 30; refine (string_any cs xs _ h).mono ?_; rintro e w2 ⟨rfl, hb⟩))
  have hk2 : Kp w cs b xs w2 := And.left ‹_ ∧ _›
  rename_i hheld
  clear hheld hk1 hb
  go_wp2
  go_loop [5] (fun i => ∃ k : Nat, k ≤ 32 ∧ i = .int .i64 k) (fun i => 32 - (intOf i).toNat)
  case atStart => exact ⟨0, by omega, rfl⟩
  case round =>
    obtain ⟨k, hk, rfl⟩ := hrel
    by_cases hlt : k < 32
    · have hc0 : w2.cell? ⟨b, 2 * k, none⟩ = some (.int .u8 ((tn xs).getD (2 * k) 0)) := hk2.cell _ (by omega)
      have hc1 : w2.cell? ⟨b, 2 * k + 1, none⟩ = some (.int .u8 ((tn xs).getD (2 * k + 1) 0)) := hk2.cell _ (by omega)
      have hc2 : w2.cell? ⟨w.heap.size, k, none⟩ = some (.int .u8 (xs.getD k 0)) := by rw [cell_of_row _ _ _ _ _ _ hk2.box]; exact h.cell k hlt
      obtain ⟨H1, H2, H3⟩ := dig2 xs h k hlt
      generalize (tn xs).getD (2 * k) 0 = p at *
      generalize (tn xs).getD (2 * k + 1) 0 = q at *
      generalize xs.getD k 0 = x at *
      have B1 := hexVal_lt p H1
      have B2 := hexVal_lt q H2
      have hor : (bits BinOp.or IntKind.u8 (hexVal p * 16) (hexVal q) != x) = false := by rw [hex_or _ _ B1 B2, H3]; simp; omega
      clear H3
      go_wp2_with (first
        | (go_at_call_of 31 (Value.int .u8 p); refine (hexval_any p _ H1).mono ?_; rintro e w' ⟨rfl, rfl⟩)
        | (go_at_call_of 31 (Value.int .u8 q); refine (hexval_any q _ H2).mono ?_; rintro e w' ⟨rfl, rfl⟩))
      go_round
      case rel => exact ⟨k + 1, by omega, by go_num⟩
      case measure => simp [intOf]; omega
    · go_wp2
      go_ret
      exact ⟨rfl, hk2.bel⟩
end Go.Proofs.Qxb6612853a
