/-
  The arguments, opened: slices of cells.
-/
import Derived.Test.Qxb6613880aCutA
import Derived.ProofKit
import Derived.OpenShut
import Derived.ChangeOld
import Derived.SizedLaws
import Derived.ChangeSlices
import Derived.Deep.Slices
import Derived.Deep.Strs
namespace Go.Proofs.Qxb6613880a
open Go.ChangeShapes Go.WideShapes Go.ChangeAt Go.RowKit Go.Deep

theorem cells33 : Try.prog.cellsOf 33 = 3 := by kernel_rfl
theorem bytes33 : Try.prog.bytesOf 33 = 48 := by kernel_rfl

theorem cells3_inv {W : World} {base : Nat} {a : Addr} {cs : List Value} (h : W.cells? base a 3 = some cs) : ∃ v0 v1 v2, cs = [v0, v1, v2] ∧ W.cell? (a.add 0) = some v0 ∧ W.cell? (a.add 1) = some v1 ∧ W.cell? (a.add 2) = some v2 := by
  unfold World.cells? at h
  split at h
  · rw [show List.range 3 = [0, 1, 2] from rfl] at h
    simp only [List.mapM_cons, List.mapM_nil, Option.bind_eq_bind, Option.bind_eq_some_iff, Option.pure_def, Option.some.injEq] at h
    obtain ⟨v0, h0, _, ⟨v1, h1, _, ⟨v2, h2, _, rfl, rfl⟩, rfl⟩, rfl⟩ := h
    exact ⟨v0, v1, v2, rfl, h0, h1, h2⟩
  · cases h

/-- A cell, opened. -/
theorem c3_of_trod {H : Type} {enc : TypeId × Value → H} {W : World} {base : Nat} {sp : Nat → Bool} {hd : Bool} {fuel : Nat} {v0 v1 v2 : Value} {x : DataW H × List MemPlace}
    (h : DataW.trod enc Try.prog W base sp hd fuel 33 [v0, v1, v2] = some x) : ∃ y : C3, Ok3 y ∧ v0 = .string y.a ∧ v1 = .string y.b ∧ v2 = .string y.c := by
  obtain ⟨y0, y1, y2, n, _, _, h0, h1, h2⟩ := trod_struct3 Try.underlying33 h
  simp only [cells9] at h0 h1 h2
  obtain ⟨s0, e0, _, l0⟩ := DataW.trod_string Try.underlying9 h0
  obtain ⟨s1, e1, _, l1⟩ := DataW.trod_string Try.underlying9 h1
  obtain ⟨s2, e2, _, l2⟩ := DataW.trod_string Try.underlying9 h2
  simp at e0 e1 e2
  exact ⟨⟨s0, s1, s2⟩, ⟨l0, l1, l2⟩, e0, e1, e2⟩

theorem pick_cells {P : Nat → C3 → Prop} : ∀ n, (∀ i, i < n → ∃ r, P i r) → ∃ rs : List C3, rs.length = n ∧ ∀ i (h : i < rs.length), P i rs[i]
  | 0, _ => ⟨[], rfl, fun i h => absurd h (Nat.not_lt_zero i)⟩
  | n + 1, h => by
    obtain ⟨rs, hl, hr⟩ := pick_cells n (fun i hi => h i (by omega))
    obtain ⟨r, hp⟩ := h n (by omega)
    refine ⟨rs ++ [r], by simp [hl], fun i hi => ?_⟩
    by_cases e : i < rs.length
    · rw [List.getElem_append_left e]; exact hr i e
    · have : i = n := by simp [hl] at hi; omega
      subst this
      rw [List.getElem_append_right (by omega)]
      simpa [hl] using hp

/-- A slice of cells, opened. -/
theorem cs_of_trod {H : Type} {enc : TypeId × Value → H} {W : World} {base : Nat} {sp : Nat → Bool} {hd : Bool} {fuel : Nat} {cs : List Value} {d : DataW H} {p : List MemPlace}
    (h : DataW.trod enc Try.prog W base sp hd fuel 22 cs = some (d, p)) (hw : ∀ n ∈ d.weights Try.prog 22, n ≤ reachBytes) : ∃ a n c xs, cs = [.slice a n c] ∧ CS W a n c xs := by
  rcases open_slice Try.underlying22 h with ⟨rfl, _⟩ | ⟨x, len, cap, m, n, D, Pl, rfl, _, hl, hm, hmm, hx, hcell⟩
  · exact ⟨none, 0, 0, [], rfl, rfl, Nat.le_refl _, by omega, fun _ => rfl, .inl rfl, fun r hr => (by cases hr)⟩
  · simp only [Prod.mk.injEq] at hx
    obtain ⟨rfl, _⟩ := hx
    have hlm : len ≤ m := by rw [hmm]; split <;> omega
    have hw8 := hw ((((List.range len).map D).length + ((List.range (m - len)).map fun j => D (len + j)).length) * Try.prog.bytesOf 33) (by simp [DataW.weights, Try.underlying22])
    rw [bytes33] at hw8
    have hmax : len ≤ 17592186044416 := by
      simp only [List.length_map, List.length_range, reachBytes] at hw8; omega
    have hall : ∀ i, i < len → ∃ y : C3, Ok3 y ∧ W.cell? ((x.add (i * 3)).add 0) = some (.string y.a) ∧ W.cell? ((x.add (i * 3)).add 1) = some (.string y.b) ∧ W.cell? ((x.add (i * 3)).add 2) = some (.string y.c) := fun i hi => by
      obtain ⟨cs', hc, ht⟩ := hcell i (by omega)
      rw [cells33] at hc
      obtain ⟨v0, v1, v2, rfl, e0, e1, e2⟩ := cells3_inv hc
      obtain ⟨y, hy, rfl, rfl, rfl⟩ := c3_of_trod ht
      exact ⟨y, hy, e0, e1, e2⟩
    obtain ⟨ys, hyl, hy⟩ := pick_cells len hall
    refine ⟨some x, len, cap, ys, rfl, hyl, hl, hmax, fun e => (by cases e), ?_, fun y hy' => ?_⟩
    · rcases Nat.eq_zero_or_pos len with e | e
      · exact .inl e
      · have h0 := (hy 0 (by omega)).2.1
        have hx0 : x = ⟨x.block, x.off, none⟩ ∧ x.block < W.heap.size := by
          have h1 := World.cell?_spot h0
          have h2 := World.block_lt_of_cell? W _ h0
          obtain ⟨b, o, s⟩ := x
          cases s with
          | none =>
            refine ⟨rfl, ?_⟩
            rw [addPlain, addPlain] at h2; exact h2
          | some k => simp [Addr.add] at h1
        obtain ⟨e1, e2⟩ := hx0
        refine .inr ⟨x.block, x.off, by rw [← e1], e2, fun i hi => ?_⟩
        have := (hy i hi).2
        rw [e1] at this
        simp only [addPlain] at this
        exact this
    · obtain ⟨i, hi, rfl⟩ := List.getElem_of_mem hy'
      exact (hy i hi).1
end Go.Proofs.Qxb6613880a
