/-
  What 'make' and 'copy' leave: a slice of ints that can be read.
-/
import Derived.Test.Qxb6613363aMakeA
import Derived.Laws.CopyOwn
namespace Go.Proofs.Qxb6613363a
open Go.RowKit Go.Deep

theorem copy_src {w W : World} {ad : Addr} {n m : Nat} {xs : List Int} (t : IS w (some ad) n m xs) (hb : Below w.heap.size w W) (j : Nat) (v : Value) (h : (xs.map (Value.int .i64))[j]? = some v) : W.cell? (ad.add j) = some v := by
  have hj : j < xs.length := by have := (List.getElem?_eq_some_iff.1 h).1; simpa using this
  have hl := t.len
  rcases t.lies with e | ⟨b, o, e, hbl, hc⟩
  · omega
  · cases e
    rw [List.getElem?_map, List.getElem?_eq_getElem hj] at h
    have e1 : (⟨b, o, none⟩ : Addr).add j = ⟨b, o + j, none⟩ := by unfold Addr.add; split <;> simp_all
    rw [e1, hb.cell (p := ⟨b, o + j, none⟩) hbl, hc j (by omega), List.getD_eq_getElem?_getD, List.getElem?_eq_getElem hj]
    simpa using h

theorem made_heap (w : World) (n : Nat) : (w.alloc (.cells (madeCells #[.int .i64 0] n) 3)).heap[w.heap.size]? = some (.cells (List.replicate n (.int .i64 0)).toArray 3 (0, 0)) := by
  rw [heap_alloc_new, ← toList_madeCells_one]

theorem copied_is {w : World} {h n : Nat} {xs : List Int} (hl : xs.length = n) (hn : n ≤ 17592186044416) (hg : w.heap[h]? = some (.cells (splice (List.replicate n (.int .i64 0)) 0 (xs.map (Value.int .i64))).toArray 3 (0, 0))) : IS w (some ⟨h, 0, none⟩) n n xs := by
  refine ⟨hl, Nat.le_refl _, hn, fun e => (by cases e), .inr ⟨h, 0, rfl, ?_, fun i hi => ?_⟩⟩
  · rcases Nat.lt_or_ge h w.heap.size with h1 | h1
    · exact h1
    · rw [Array.getElem?_eq_none h1] at hg; cases hg
  · rw [Nat.zero_add, cell_of_row _ _ _ _ _ _ hg]
    have : splice (List.replicate n (Value.int .i64 0)) 0 (xs.map (Value.int .i64)) = xs.map (Value.int .i64) := by
      unfold splice
      rw [List.take_zero, List.drop_eq_nil_of_le (by simp [hl])]; simp
    rw [this, List.getElem?_toArray, List.getElem?_map, List.getElem?_eq_getElem (by omega), List.getD_eq_getElem?_getD, List.getElem?_eq_getElem (by omega)]
    rfl

theorem made_len {n : Nat} {xs : List Int} (hl : xs.length = n) : (xs.map (Value.int .i64)).length = Nat.min n n := by rw [List.length_map, hl]; exact (Nat.min_self n).symm
theorem made_fit {n : Nat} {xs : List Int} (hl : xs.length = n) : 0 + (xs.map (Value.int .i64)).length ≤ (List.replicate n (Value.int .i64 0)).length := by simp [hl]
theorem made_one {xs : List Int} : ∀ v ∈ xs.map (Value.int .i64), v.oneCell' = true := by intro v hv; obtain ⟨y, _, rfl⟩ := List.mem_map.1 hv; rfl
theorem IS.lenZ {w : World} {n c : Nat} {xs : List Int} (t : IS w none n c xs) : n = 0 ∧ c = 0 := by
  have h1 := t.nil rfl
  have h2 := t.cap
  omega
end Go.Proofs.Qxb6613363a
