/-
  The walk of hexOfUint.
-/
import Derived.Test.Qxb6613114aFmtWalkA
import Derived.Deep.OwnRows
import Derived.Laws.CopyOwn
import Derived.Deep.MidRow
namespace Go.Proofs.Qxb6613114aFmt
open Go.RowKit Go.Deep

/-- A slice of bytes that the call itself has made, holding the numbers xs. -/
def Made (B : Nat) (v : Value) (xs : List Int) (w : World) : Prop :=
  ∃ g cap, v = .slice (some ⟨g, 0, none⟩) xs.length cap ∧ B ≤ g ∧ g < w.heap.size ∧ ∀ i, i < xs.length → w.cell? ⟨g, i, none⟩ = some (.int .u8 (xs.getD i 0))

set_option maxHeartbeats 400000 in
theorem hexof_zero (w : World) :
    Calls Tryf.prog 9 #[.int .u64 0] w fun e w' => ∃ v, e = .returned v ∧ Made w.heap.size v (hexL 0) w' ∧ Below w.heap.size w w' := by
  go_enter Tryf.func9, Tryf.ntmps9
  go_wp2
  go_ret
  refine ⟨_, rfl, ⟨w.heap.size, 1, rfl, Nat.le_refl _, by simp, ?_⟩, (Below.refl _ _).alloc (Nat.le_refl _) _⟩
  intro i hi
  have : i = 0 := by simp [hexL_zero] at hi; omega
  subst this
  simp [hexL_zero]

theorem and15 (x : Nat) (hx : x < 18446744073709551616) : bits BinOp.and IntKind.u64 (x : Int) 15 = ((x % 16 : Nat) : Int) := by
  have h := u64_and_nat x 15 hx (by decide)
  rw [show ((15 : Nat) : Int) = 15 from rfl] at h
  rw [h, Nat.and_two_pow_sub_one_eq_mod x 4]

/-- 'a[k:]' of an array variable of N bytes, k below N. -/
theorem slice_from (T N : Nat) (hT : Tryf.prog.underlying T = some (.array N 5)) (g k n : Nat) (hk : n + k = N) (hn : 0 < n) (wx : World) :
    (Instr.sliceAt T (.pointer (some ⟨g, 0, none⟩)) (some (.int .i64 (k : Int))) none none).run Tryf.prog wx = .ok (.slice (some ⟨g, k, none⟩) n n) wx := by
  have e1 : Tryf.prog.elem T = 5 := by simp [Program.elem, hT]
  have e2 : Tryf.prog.arrayLen T = N := by simp [Program.arrayLen, hT]
  have e3 : (sizeOf 5).run Tryf.prog wx = .ok 1 wx := by kernel_rfl
  rw [run_sliceAt_array_l wx T ⟨g, 0, none⟩ (by rw [e1, e2]; exact hT) .i64 (k : Int) (by omega) (by rw [e2]; omega), e1, e2, e3]
  simp only [Result.andThen_ok, slicedAt, Int.toNat_natCast]
  rw [if_neg (by omega), show N - k = n by omega, Addr.add_mid, Nat.zero_add, Nat.mul_one]

/-- The row behind one more digit. -/
theorem sfx_step {f : Nat → Value} {m : Nat} {sfx : List Int} {d : Int} (hf : ∀ t, t < sfx.length → f (m + 1 + t) = .int .u8 (sfx.getD t 0)) :
    ∀ t, t < (d :: sfx).length → (fun j => if j = m then Value.int .u8 d else f j) (m + t) = .int .u8 ((d :: sfx).getD t 0) := by
  intro t ht
  cases t with
  | zero => simp
  | succ t =>
    have := hf t (by simpa using ht)
    rw [show m + 1 + t = m + (t + 1) by omega] at this
    simp only [List.getD_cons_succ]
    rw [if_neg (by omega), this]

set_option maxHeartbeats 1000000 in
theorem hexof_pos (u : Nat) (w : World) (h0 : 0 < u) (hu : u < 18446744073709551616) :
    Calls Tryf.prog 9 #[.int .u64 u] w fun e w' => ∃ v, e = .returned v ∧ Made w.heap.size v (hexL u) w' ∧ Below w.heap.size w w' := by
  have hne : ((u : Int) == 0) = false := by simp; omega
  have HL : Hid (hexL u = hexP 16 u) := hexL_pos u h0 hu
  go_enter Tryf.func9, Tryf.ntmps9
  go_wp2
  go_loopw [0, 4] (fun v i wr => ∃ (k x : Nat) (sfx : List Int) (f : Nat → Value), k ≤ 16 ∧ Hid (x < 16 ^ k) ∧ v = .int .u64 x ∧ i = .int .i64 k ∧ Hid (sfx.length + k = 16) ∧ Hid (hexP 16 u = hexP k x ++ sfx) ∧
      wr.rowIs w.heap.size 43 16 f ∧ Hid (∀ t, t < sfx.length → f (k + t) = .int .u8 (sfx.getD t 0)) ∧ Below w.heap.size w wr ∧ Hid (wr.heap.size = w.heap.size + 1)) (fun _ i _ => (intOf i).toNat)
  case atStart =>
    refine ⟨16, u, [], fun _ => .int .u8 0, by omega, hu, rfl, rfl, rfl, by rw [List.append_nil]; trivial, ?_, (fun t h => by cases h), (Below.refl _ _).alloc (Nat.le_refl _) _, by unfold Hid; simp⟩
    refine World.rowIs_alloc w _ 43 _ ?_
    intro i hi
    have : ∀ i : Fin 16, (#[Value.int IntKind.u8 0, Value.int IntKind.u8 0, Value.int IntKind.u8 0, Value.int IntKind.u8 0, Value.int IntKind.u8 0, Value.int IntKind.u8 0, Value.int IntKind.u8 0, Value.int IntKind.u8 0, Value.int IntKind.u8 0, Value.int IntKind.u8 0, Value.int IntKind.u8 0, Value.int IntKind.u8 0, Value.int IntKind.u8 0, Value.int IntKind.u8 0, Value.int IntKind.u8 0, Value.int IntKind.u8 0] : Array Value)[i.val]? = some (.int .u8 0) := by
      intro ⟨i, hi⟩
      have hc : i = 0 ∨ i = 1 ∨ i = 2 ∨ i = 3 ∨ i = 4 ∨ i = 5 ∨ i = 6 ∨ i = 7 ∨ i = 8 ∨ i = 9 ∨ i = 10 ∨ i = 11 ∨ i = 12 ∨ i = 13 ∨ i = 14 ∨ i = 15 := by omega
      rcases hc with rfl | rfl | rfl | rfl | rfl | rfl | rfl | rfl | rfl | rfl | rfl | rfl | rfl | rfl | rfl | rfl <;> rfl
    exact this ⟨i, hi⟩
  case round =>
    obtain ⟨k, x, sfx, f, hk, hx, rfl, rfl, hsl, hinv, hrow, hf, hbel, hsz⟩ := hrel
    by_cases hx0 : 0 < x
    · obtain ⟨m, rfl⟩ : ∃ m, k = m + 1 := ⟨k - 1, by rcases Nat.eq_zero_or_pos k with e | e; (subst e; have := hx.out; simp at this; omega); omega⟩
      have hxx : x < 18446744073709551616 := Nat.lt_of_lt_of_le hx.out (Nat.pow_le_pow_right (by omega) hk)
      have hcm := hrow.cell (i := m) (by omega)
      have hfm := hrow.frozen m
      obtain ⟨d, hd⟩ : ∃ d, d = x % 16 := ⟨_, rfl⟩
      have hand : bits BinOp.and IntKind.u64 (x : Int) 15 = (d : Int) := by rw [hd]; exact and15 x hxx
      have hd16 : d < 16 := by omega
      have R1 : Hid (x / 16 < 16 ^ m) := by have := hx.out; rw [Nat.pow_succ] at this; unfold Hid; omega
      have R2 : Hid ((hexD d :: sfx).length + m = 16) := by have := hsl.out; unfold Hid; simp; omega
      have R3 : Hid (hexP 16 u = hexP m (x / 16) ++ (hexD d :: sfx)) := by have := hinv.out; unfold Hid; rw [this, hexP_pos m x hx0, hd]; simp
      have R4 := hrow.set m (.int .u8 (hexD d))
      have R5 : Hid (∀ t, t < (hexD d :: sfx).length → (fun j => if j = m then Value.int .u8 (hexD d) else f j) (m + t) = .int .u8 ((hexD d :: sfx).getD t 0)) := sfx_step hf.out
      have R6 : Below w.heap.size w (wr.setCell ⟨w.heap.size, m, none⟩ (.int .u8 (hexD d))) := hbel.setCell (Nat.le_refl _) _
      have R7 : Hid ((wr.setCell ⟨w.heap.size, m, none⟩ (.int .u8 (hexD d))).heap.size = w.heap.size + 1) := by have := hsz.out; unfold Hid; simpa [World.setCell] using this
      clear hd hx hsl hinv hf hsz
      go_wp2_with ((go_at_call 14; refine (hexdigit_any d _ hd16).mono ?_; rintro e w' ⟨rfl, rfl⟩))
      go_roundw
      case rel => exact ⟨m, x / 16, _, _, by omega, R1, by go_num, by go_num, R2, R3, R4, R5, R6, R7⟩
      case measure => simp [intOf]
    · have hz : x = 0 := by omega
      subst hz
      have HS : Hid (hexL u = sfx) := by unfold Hid; rw [HL.out, hinv.out, hexP_zero]; rfl
      have hl := hexL_len u
      rw [HS.out] at hl
      obtain ⟨n, hn⟩ : ∃ n, n = sfx.length := ⟨_, rfl⟩
      have hkn : n + k = 16 := by rw [hn]; exact hsl.out
      have hn0 : 0 < n := by omega
      have hmk : ∀ wx : World, (Instr.makeSlice 22 (.int .i64 (16 - (k : Int))) (.int .i64 (16 - (k : Int)))).run Tryf.prog wx = .ok (.slice (some ⟨wx.heap.size, 0, none⟩) n n) (wx.alloc (.cells (madeCells #[.int .u8 0] n) 5)) := fun wx => by
        have h := run_make_row' (P := Tryf.prog) 22 5 (.int .u8 0) 1 Tryf.underlying22 (by kernel_rfl) rfl .i64 .i64 n (by omega) (by omega) wx
        rwa [show ((n : Nat) : Int) = 16 - (k : Int) by omega] at h
      have HN : Hid (n = sfx.length) := hn
      have hsf := fun wx => slice_from 43 16 Tryf.underlying43 w.heap.size k n hkn hn0 wx
      have HSZ : Hid (wr.heap.size = w.heap.size + 1) := hsz
      have g1 : Hid ((wr.alloc (.cells (madeCells #[.int .u8 0] n) 5)).heap[wr.heap.size]? = some (.cells (List.replicate n (.int .u8 0)).toArray 5 (0, 0))) := by
        unfold Hid; rw [heap_alloc_new, ← toList_madeCells_one]
      have hsrc : Hid (∀ (j : Nat) v, (sfx.map (Value.int .u8))[j]? = some v → (wr.alloc (.cells (madeCells #[.int .u8 0] n) 5)).cell? ((⟨w.heap.size, k, none⟩ : Addr).add j) = some v) := by
        intro j v hv
        have hj : j < sfx.length := by have := (List.getElem?_eq_some_iff.1 hv).1; simpa using this
        have e1 := hf.out j hj
        have e2 := (hrow.alloc (.cells (madeCells #[.int .u8 0] n) 5)).cell (i := k + j) (by omega)
        rw [List.getElem?_map, List.getElem?_eq_getElem hj] at hv
        rw [Addr.add_mid, e2, e1, List.getD_eq_getElem?_getD, List.getElem?_eq_getElem hj]
        simpa using hv
      have hbel2 : Below w.heap.size w (wr.alloc (.cells (madeCells #[.int .u8 0] n) 5)) := hbel.alloc hbel.size _
      have hBg : w.heap.size ≤ wr.heap.size := hbel.size
      clear hn hl hinv hsl hx HL hf hsz
      go_wp2_with (refine wpList_copy_splice rfl (.tmp 24) (.tmp 26) 22 22 rfl 5 Tryf.underlying22 (by kernel_rfl) _ _ n n n n rfl rfl wr.heap.size 0 (List.replicate n (.int .u8 0)) 5 g1.out (sfx.map (Value.int .u8)) (by rw [List.length_map, ← HN.out]; exact (Nat.min_self n).symm) (fun _ => ⟨rfl, _, rfl, hsrc.out⟩) (by simp [← HN.out]) (by intro v hv; obtain ⟨y, _, rfl⟩ := List.mem_map.1 hv; rfl) w.heap.size w hbel2 hBg ?_; intro w3 hg3 hb3)
      go_ret
      refine ⟨_, rfl, ⟨wr.heap.size, n, by rw [HS.out, ← HN.out]; rfl, hBg, ?_, ?_⟩, hb3⟩
      · rcases Nat.lt_or_ge wr.heap.size w3.heap.size with h | h
        · exact h
        · have := hg3.out; rw [Array.getElem?_eq_none h] at this; cases this
      · intro i hi
        rw [HS.out] at hi
        rw [cell_of_row _ _ _ _ _ _ hg3.out, HS.out]
        have : splice (List.replicate n (Value.int .u8 0)) 0 (sfx.map (Value.int .u8)) = sfx.map (Value.int .u8) := by
          unfold splice
          rw [List.take_zero, List.drop_eq_nil_of_le (by simp [← HN.out])]; simp
        rw [this, List.getElem?_toArray, List.getElem?_map, List.getElem?_eq_getElem hi, List.getD_eq_getElem?_getD, List.getElem?_eq_getElem hi]
        rfl
end Go.Proofs.Qxb6613114aFmt
