/-
  The arguments, opened: slices of ints, slices of slices of ints.
-/
import Derived.Test.Qxb6613363aBase
import Derived.ProofKit
import Derived.OpenShut
import Derived.ChangeOld
import Derived.SizedLaws
import Derived.ChangeSlices
import Derived.Deep.Slices
namespace Go.Proofs.Qxb6613363a
open Go.ChangeShapes Go.WideShapes Go.ChangeAt Go.RowKit Go.Deep

theorem cells3 : Try.prog.cellsOf 3 = 1 := by kernel_rfl
theorem cells23 : Try.prog.cellsOf 23 = 1 := by kernel_rfl
theorem bytes3 : Try.prog.bytesOf 3 = 8 := by kernel_rfl
theorem bytes23 : Try.prog.bytesOf 23 = 24 := by kernel_rfl

theorem spot_of {W : World} {x : Addr} {v : Value} (h : W.cell? (x.add 0) = some v) : x = ⟨x.block, x.off, none⟩ ∧ x.block < W.heap.size := by
  have h1 := World.cell?_spot h
  have h2 := World.block_lt_of_cell? W _ h
  obtain ⟨b, o, s⟩ := x
  cases s with
  | none =>
    refine ⟨rfl, ?_⟩
    have hb : ((⟨b, o, none⟩ : Addr).add 0).block = b := by unfold Addr.add; split <;> rfl
    rw [hb] at h2; exact h2
  | some k => simp [Addr.add] at h1

theorem add_plain (b o i : Nat) : (⟨b, o, none⟩ : Addr).add i = ⟨b, o + i, none⟩ := by unfold Addr.add; split <;> simp_all

/-- A slice of ints, opened. -/
theorem is_of_trod {H : Type} {enc : TypeId × Value → H} {W : World} {base : Nat} {sp : Nat → Bool} {hd : Bool} {fuel : Nat} {cs : List Value} {d : DataW H} {p : List MemPlace}
    (h : DataW.trod enc Try.prog W base sp hd fuel 23 cs = some (d, p)) (hw : ∀ n ∈ d.weights Try.prog 23, n ≤ reachBytes) : ∃ a n c xs, cs = [.slice a n c] ∧ IS W a n c xs := by
  rcases open_ints Try.underlying23 Try.underlying3 cells3 h with ⟨rfl, _⟩ | ⟨x, len, cap, zs, rfl, _, hl, hm, hz, hx, hcell, _⟩
  · exact ⟨none, 0, 0, [], rfl, rfl, Nat.le_refl _, by omega, fun _ => rfl, .inl rfl⟩
  · simp only [Prod.mk.injEq] at hx
    obtain ⟨rfl, _⟩ := hx
    have hlz : len ≤ zs.length := by rw [hz]; split <;> omega
    have hlt : (zs.take len).length = len := by rw [List.length_take]; omega
    have hw8 := hw (((lits .i64 (zs.take len) : List (DataW H)).length + (lits .i64 (zs.drop len) : List (DataW H)).length) * Try.prog.bytesOf 3) (by simp [DataW.weights, Try.underlying23])
    rw [bytes3] at hw8
    have hmax : len ≤ 17592186044416 := by
      simp only [lits, List.length_map, List.length_take, List.length_drop, reachBytes] at hw8; omega
    refine ⟨some x, len, cap, zs.take len, rfl, hlt, hl, hmax, fun e => (by cases e), ?_⟩
    rcases Nat.eq_zero_or_pos len with e | e
    · exact .inl e
    · obtain ⟨e1, e2⟩ := spot_of (hcell 0 (by omega))
      refine .inr ⟨x.block, x.off, by rw [← e1], e2, fun i hi => ?_⟩
      have := hcell i (by omega)
      rw [e1, add_plain] at this
      rw [this, List.getD_eq_getElem?_getD, List.getD_eq_getElem?_getD, List.getElem?_take_of_lt hi]

theorem pick_rows {P : Nat → Rw → Prop} : ∀ n, (∀ i, i < n → ∃ r, P i r) → ∃ rs : List Rw, rs.length = n ∧ ∀ i (h : i < rs.length), P i rs[i]
  | 0, _ => ⟨[], rfl, fun i h => absurd h (Nat.not_lt_zero i)⟩
  | n + 1, h => by
    obtain ⟨rs, hl, hr⟩ := pick_rows n (fun i hi => h i (by omega))
    obtain ⟨r, hp⟩ := h n (by omega)
    refine ⟨rs ++ [r], by simp [hl], fun i hi => ?_⟩
    by_cases e : i < rs.length
    · rw [List.getElem_append_left e]; exact hr i e
    · have : i = n := by simp [hl] at hi; omega
      subst this
      rw [List.getElem_append_right (by omega)]
      simpa [hl] using hp

theorem weightsAll_mem {H : Type} {e : TypeId} : ∀ {l : List (DataW H)} {d : DataW H}, d ∈ l → ∀ n ∈ d.weights Try.prog e, n ∈ DataW.weightsAll Try.prog e l
  | [], _, hd => by cases hd
  | x :: l, d, hd => fun n hn => by
    simp only [DataW.weightsAll, List.mem_append]
    rcases List.mem_cons.1 hd with rfl | h
    · exact .inl hn
    · exact .inr (weightsAll_mem h n hn)

/-- A slice of slices of ints, opened. -/
theorem iss_of_trod {H : Type} {enc : TypeId × Value → H} {W : World} {base : Nat} {sp : Nat → Bool} {hd : Bool} {fuel : Nat} {cs : List Value} {d : DataW H} {p : List MemPlace}
    (h : DataW.trod enc Try.prog W base sp hd fuel 22 cs = some (d, p)) (hw : ∀ n ∈ d.weights Try.prog 22, n ≤ reachBytes) : ∃ a n c rs, cs = [.slice a n c] ∧ ISS W a n c rs := by
  rcases open_slice1 Try.underlying22 cells23 h with ⟨rfl, _⟩ | ⟨x, len, cap, m, n, V, D, Pl, rfl, _, hl, hm, hmm, hx, hcell⟩
  · exact ⟨none, 0, 0, [], rfl, rfl, Nat.le_refl _, by omega, fun _ => rfl, .inl rfl, fun r hr => (by cases hr)⟩
  · simp only [Prod.mk.injEq] at hx
    obtain ⟨rfl, _⟩ := hx
    have hlm : len ≤ m := by rw [hmm]; split <;> omega
    have hw8 := hw ((((List.range len).map D).length + ((List.range (m - len)).map fun j => D (len + j)).length) * Try.prog.bytesOf 23) (by simp [DataW.weights, Try.underlying22])
    rw [bytes23] at hw8
    have hmax : len ≤ 17592186044416 := by
      simp only [List.length_map, List.length_range, reachBytes] at hw8; omega
    obtain ⟨rs, hrl, hr⟩ := pick_rows (P := fun i r => V i = .slice r.a r.n r.c ∧ IS W r.a r.n r.c r.xs) len (fun i hi => by
      obtain ⟨a, n', c, xs, e, t⟩ := is_of_trod (hcell i (by omega)).2 (fun k hk => hw k (by
        simp only [DataW.weights, Try.underlying22, List.mem_cons, List.mem_append]
        exact .inr (.inl (weightsAll_mem (List.mem_map.2 ⟨i, List.mem_range.2 hi, rfl⟩) k hk))))
      exact ⟨⟨a, n', c, xs⟩, by simpa using e, t⟩)
    refine ⟨some x, len, cap, rs, rfl, hrl, hl, hmax, fun e => (by cases e), ?_, fun r hr' => ?_⟩
    · rcases Nat.eq_zero_or_pos len with e | e
      · exact .inl e
      · obtain ⟨e1, e2⟩ := spot_of (hcell 0 (by omega)).1
        refine .inr ⟨x.block, x.off, by rw [← e1], e2, fun i hi => ?_⟩
        have := (hcell i (by omega)).1
        rw [e1, add_plain] at this
        rw [this, (hr i hi).1]
    · obtain ⟨i, hi, rfl⟩ := List.getElem_of_mem hr'
      exact (hr i hi).2
end Go.Proofs.Qxb6613363a
