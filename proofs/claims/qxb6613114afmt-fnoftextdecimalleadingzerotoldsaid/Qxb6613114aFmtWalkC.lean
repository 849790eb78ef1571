/-
  The walk of strconv.AppendUint at base 16, onto a nil slice.
-/
import Derived.Test.Qxb6613114aFmtWalkB
import Derived.Deep.AppendLies
namespace Go.Proofs.Qxb6613114aFmt
open Go.RowKit Go.Deep

set_option maxHeartbeats 400000 in
theorem isPow_16 (w : World) : Calls Tryf.prog 33 #[.int .i64 16] w fun e w' => e = .returned (.bool true) ∧ w' = w := by
  go_enter Tryf.func33, Tryf.ntmps33
  go_wp2
  go_ret
  exact ⟨rfl, rfl⟩

theorem tz_idx : IntKind.u64.wrap (bits BinOp.and IntKind.u64 16 (IntKind.u64.wrap (-16)) * 285870213051353865) / 288230376151711744 = 15 := by decide +kernel

set_option maxHeartbeats 400000 in
theorem tz64_16 (w : World) (h : w.cell? ⟨4, 15, none⟩ = some (.int .u8 4)) : Calls Tryf.prog 38 #[.int .u64 16] w fun e w' => e = .returned (.int .i64 4) ∧ w' = w := by
  have hidx := tz_idx
  go_enter Tryf.func38, Tryf.ntmps38
  go_wp2
  go_ret
  exact ⟨rfl, rfl⟩

set_option maxHeartbeats 400000 in
theorem tz_16 (w : World) (h : w.cell? ⟨4, 15, none⟩ = some (.int .u8 4)) : Calls Tryf.prog 34 #[.int .u64 16] w fun e w' => e = .returned (.int .i64 4) ∧ w' = w := by
  go_enter Tryf.func34, Tryf.ntmps34
  go_wp2_with (go_at_call 38; refine (tz64_16 _ h).mono ?_; rintro e w' ⟨rfl, rfl⟩)
  go_ret
  exact ⟨rfl, rfl⟩

theorem dig_at (d : Nat) (hd : d < 16) (h : d < (⟨#[48, 49, 50, 51, 52, 53, 54, 55, 56, 57, 97, 98, 99, 100, 101, 102, 103, 104, 105, 106, 107, 108, 109, 110, 111, 112, 113, 114, 115, 116, 117, 118, 119, 120, 121, 122]⟩ : ByteArray).size) :
    (((⟨#[48, 49, 50, 51, 52, 53, 54, 55, 56, 57, 97, 98, 99, 100, 101, 102, 103, 104, 105, 106, 107, 108, 109, 110, 111, 112, 113, 114, 115, 116, 117, 118, 119, 120, 121, 122]⟩ : ByteArray)[d]'h).toNat : Int) = hexD d := by
  have hc : d = 0 ∨ d = 1 ∨ d = 2 ∨ d = 3 ∨ d = 4 ∨ d = 5 ∨ d = 6 ∨ d = 7 ∨ d = 8 ∨ d = 9 ∨ d = 10 ∨ d = 11 ∨ d = 12 ∨ d = 13 ∨ d = 14 ∨ d = 15 := by omega
  rcases hc with rfl | rfl | rfl | rfl | rfl | rfl | rfl | rfl | rfl | rfl | rfl | rfl | rfl | rfl | rfl | rfl <;> rfl
theorem info5 : (Tryf.prog.info? 5).map (fun i => (i.zero, i.size, i.bytes)) = some (some (.int .u8 0), 1, 1) := by kernel_rfl

def z65 : Array Value := Array.replicate 65 (.int .u8 0)
theorem zero68 (w : World) : (zeroValue 68).run Tryf.prog w = .ok (.agg z65) w := by kernel_rfl

set_option maxHeartbeats 1000000 in
theorem formatBits_16 (u : Nat) (w : World) (hu : u < 18446744073709551616) (h4 : 4 < w.heap.size) (h : w.cell? ⟨4, 15, none⟩ = some (.int .u8 4)) :
    Calls Tryf.prog 23 #[.slice none 0 0, .int .u64 u, .int .i64 16, .bool false, .bool true] w fun e w' => ∃ v, e = .returned (.tuple #[v, .string ⟨#[]⟩]) ∧ Made w.heap.size v (hexL u) w' ∧ Below w.heap.size w w' := by
  have hz := zero68
  go_enter Tryf.func23, Tryf.ntmps23
  go_wp2_with (first
    | (go_at_call 33; refine (isPow_16 _).mono ?_; rintro e w' ⟨rfl, rfl⟩)
    | (go_at_call 34; refine (tz_16 _ (by go_simp)).mono ?_; rintro e w' ⟨rfl, rfl⟩))
  go_loopw [1, 13] (fun v i wr => ∃ (k x : Nat) (sfx : List Int) (f : Nat → Value), 49 < k ∧ k ≤ 65 ∧ Hid (x < 16 ^ (k - 49)) ∧ x < 18446744073709551616 ∧ v = .int .u64 x ∧ i = .int .i64 k ∧ Hid (sfx.length + k = 65) ∧ Hid (hexL u = hexQ (k - 50) x ++ sfx) ∧
      wr.rowIs w.heap.size 68 65 f ∧ Hid (∀ t, t < sfx.length → f (k + t) = .int .u8 (sfx.getD t 0)) ∧ Below w.heap.size w wr ∧ Hid (wr.heap.size = w.heap.size + 1)) (fun _ i _ => (intOf i).toNat)
  case atStart =>
    refine ⟨65, u, [], fun _ => .int .u8 0, by omega, by omega, hu, hu, rfl, rfl, rfl, by rw [List.append_nil]; rfl, ?_, (fun t h => by cases h), (Below.refl _ _).alloc (Nat.le_refl _) _, by unfold Hid; simp⟩
    refine World.rowIs_alloc w z65 68 _ ?_
    intro i hi
    have hi' : i < 65 := by simpa [z65] using hi
    simp [z65, hi']
  case round =>
    obtain ⟨k, x, sfx, f, hk0, hk, hx, hxx, rfl, rfl, hsl, hinv, hrow, hf, hbel, hsz⟩ := hrel
    obtain ⟨m, rfl⟩ : ∃ m, k = m + 1 := ⟨k - 1, by omega⟩
    have hcm := hrow.cell (i := m) (by omega)
    have hfm := hrow.frozen m
    have R4 := hrow.set m (.int .u8 (hexD (x % 16)))
    have R5 : Hid (∀ t, t < (hexD (x % 16) :: sfx).length → (fun j => if j = m then Value.int .u8 (hexD (x % 16)) else f j) (m + t) = .int .u8 ((hexD (x % 16) :: sfx).getD t 0)) := sfx_step hf.out
    have R6 : Below w.heap.size w (wr.setCell ⟨w.heap.size, m, none⟩ (.int .u8 (hexD (x % 16)))) := hbel.setCell (Nat.le_refl _) _
    have R7 : Hid ((wr.setCell ⟨w.heap.size, m, none⟩ (.int .u8 (hexD (x % 16)))).heap.size = w.heap.size + 1) := by have := hsz.out; unfold Hid; simpa [World.setCell] using this
    have R2 : Hid ((hexD (x % 16) :: sfx).length + m = 65) := by have := hsl.out; unfold Hid; simp; omega
    by_cases hx0 : 16 ≤ x
    · have hand : bits BinOp.and IntKind.u64 (x : Int) 15 = ((x % 16 : Nat) : Int) := and15 x hxx
      have hm50 : 49 < m := by
        rcases Nat.lt_or_ge 49 m with e | e
        · exact e
        · have : m = 49 := by omega
          subst this; have := hx.out; simp at this; omega
      have R1 : Hid (x / 16 < 16 ^ (m - 49)) := by have := hx.out; rw [show m + 1 - 49 = (m - 49) + 1 by omega, Nat.pow_succ] at this; unfold Hid; omega
      have R3 : Hid (hexL u = hexQ (m - 50) (x / 16) ++ (hexD (x % 16) :: sfx)) := by have := hinv.out; unfold Hid; rw [this, show m + 1 - 50 = (m - 50) + 1 by omega, hexQ_big _ x hx0]; simp
      clear hx hsl hinv hf hsz
      go_wp2_with fail
      go_roundw
      case rel =>
        rw [dig_at (x % 16) (by omega)]
        exact ⟨m, x / 16, _, _, by omega, by omega, R1, by omega, by go_num, by go_num, R2, R3, R4, R5, R6, R7⟩
      case measure => simp [intOf]
    · have hxm : x % 16 = x := by omega
      rw [hxm] at R2 R4 R5 R6 R7
      have R3 : Hid (hexL u = hexD x :: sfx) := by have := hinv.out; unfold Hid; rw [this, hexQ_small _ x (by omega)]; rfl
      obtain ⟨n, hn⟩ : ∃ n, n = (hexD x :: sfx).length := ⟨_, rfl⟩
      have hkn : n + m = 65 := by rw [hn]; exact R2.out
      have hn0 : 0 < n := by rw [hn]; simp
      have HN : Hid (n = (hexD x :: sfx).length) := hn
      have hsf := fun wx => slice_from 68 65 Tryf.underlying68 w.heap.size m n hkn hn0 wx
      have hnl : n ≤ 16 := by have := (hexL_len u).2; rw [R3.out, ← hn] at this; exact this
      have hnews : Hid (∀ (j : Nat) v, ((hexD x :: sfx).map (Value.int .u8))[j]? = some v → (wr.setCell ⟨w.heap.size, m, none⟩ (.int .u8 (hexD x))).cell? ((⟨w.heap.size, m, none⟩ : Addr).add j) = some v) := by
        intro j v hv
        have hj : j < (hexD x :: sfx).length := by have := (List.getElem?_eq_some_iff.1 hv).1; simpa using this
        have e1 := R5.out j hj
        have e2 := R4.cell (i := m + j) (by omega)
        simp only [] at e1 e2
        rw [List.getElem?_map, List.getElem?_eq_getElem hj] at hv
        rw [Addr.add_mid, e2, e1, List.getD_eq_getElem?_getD, List.getElem?_eq_getElem hj]
        simpa using hv
      have hone : Hid (∀ v ∈ (hexD x :: sfx).map (Value.int .u8), v.oneCell' = true) := by intro v hv; obtain ⟨y, _, rfl⟩ := List.mem_map.1 hv; rfl
      have hlen : Hid (((hexD x :: sfx).map (Value.int .u8)).length = n * 1) := by unfold Hid; rw [List.length_map, ← HN.out, Nat.mul_one]
      obtain ⟨i0, hi, hz0, hz1, hz2⟩ := info_parts info5
      clear hn hx hsl hinv hf hsz R2 R4 R5
      go_wp2_with (at_builtin; rw [dig_at x (by omega)]; refine wpList_append_lies _ rfl (.tmp 95) (.tmp 97) 22 rfl w.heap.size 5 i0 (.int .u8 0) 1 1 Tryf.underlying22 hi hz0 hz1 hz2 rfl (by decide) _ 0 [] rfl (World.ownsRow_nil _ _ _ _) ⟨w.heap.size, m, none⟩ n n ((hexD x :: sfx).map (Value.int .u8)) rfl hlen.out hnews.out hone.out hn0 (by unfold maxLen; omega) (by omega) R6.size _ rfl ?_; intro g cap w3 hown hgrow hat hlt; rw [Nat.zero_add] at hown)
      go_ret2
      have hg : w.heap.size ≤ g := by
        rcases hat with e | e
        · cases e
        · rw [e]; exact R6.size
      refine ⟨_, rfl, ⟨g, cap, by rw [R3.out, ← HN.out]; rfl, hg, hlt, ?_⟩, R6.grown hgrow R6.size (fun k hk => by cases hk)⟩
      intro i hi
      rw [R3.out] at hi ⊢
      rw [hown.cellAt i (by rw [HN.out]; omega), List.nil_append, List.getElem?_map, List.getElem?_eq_getElem hi, List.getD_eq_getElem?_getD, List.getElem?_eq_getElem hi]
      rfl

set_option maxHeartbeats 400000 in
theorem appendUint_16 (u : Nat) (w : World) (hu : u < 18446744073709551616) (h4 : 4 < w.heap.size) (h : w.cell? ⟨4, 15, none⟩ = some (.int .u8 4)) :
    Calls Tryf.prog 15 #[.slice none 0 0, .int .u64 u, .int .i64 16] w fun e w' => ∃ v, e = .returned v ∧ Made w.heap.size v (hexL u) w' ∧ Below w.heap.size w w' := by
  go_enter Tryf.func15, Tryf.ntmps15
  go_wp2_with fail
  refine (formatBits_16 u _ hu h4 h).mono ?_
  rintro e w1 ⟨v, rfl, hm, hb⟩
  go_wp2
  go_ret
  exact ⟨_, rfl, hm, hb⟩

set_option maxHeartbeats 400000 in
theorem appendUint (u : Nat) (w : World) (hu : u < 18446744073709551616) (h4 : 4 < w.heap.size) (h : w.cell? ⟨4, 15, none⟩ = some (.int .u8 4)) :
    Calls Tryf.prog 11 #[.slice none 0 0, .int .u64 u, .int .i64 16] w fun e w' => ∃ v, e = .returned v ∧ Made w.heap.size v (hexL u) w' ∧ Below w.heap.size w w' := by
  go_enter Tryf.func11, Tryf.ntmps11
  go_wp2_with fail
  refine (appendUint_16 u _ hu h4 h).mono ?_
  rintro e w1 ⟨v, rfl, hm, hb⟩
  go_wp2
  go_ret
  exact ⟨_, rfl, hm, hb⟩

set_option maxHeartbeats 400000 in
theorem closure_any (u : Nat) (w : World) (hu : u < 18446744073709551616) (h4 : 4 < w.heap.size) (h : w.cell? ⟨4, 15, none⟩ = some (.int .u8 4)) :
    Calls Tryf.prog 10 #[.int .u64 u] w fun e w' => ∃ v, e = .returned (.tuple #[v, .nilIface]) ∧ Made w.heap.size v (hexL u) w' ∧ Below w.heap.size w w' := by
  go_enter Tryf.func10, Tryf.ntmps10
  go_wp2_with fail
  refine (appendUint u _ hu h4 h).mono ?_
  rintro e w1 ⟨v, rfl, hm, hb⟩
  go_wp2
  go_ret2
  exact ⟨_, rfl, hm, hb⟩
end Go.Proofs.Qxb6613114aFmt
