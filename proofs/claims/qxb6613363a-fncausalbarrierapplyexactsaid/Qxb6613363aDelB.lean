/-
  slices.DeleteFunc over precedents, whatever the barrier names.
-/
import Derived.Test.Qxb6613363aApA
import Derived.Lib.SliceRun
namespace Go.Proofs.Qxb6613363a
open Go.RowKit Go.Deep

theorem flat_set (ps : List Pc) (a : Nat) (p : Pc) (h : a < ps.length) :
    flat (ps.set a p) = ((((flat ps).set (a * 4) (.int .i64 p.x)).set (a * 4 + 1) (.int .i64 p.y)).set (a * 4 + 2) (.int .i64 p.z)).set (a * 4 + 3) p.v := by
  induction ps generalizing a with
  | nil => simp at h
  | cons q ps ih =>
    cases a with
    | zero => simp [flat_cons]
    | succ a =>
      rw [List.set_cons_succ, flat_cons, flat_cons, ih a (by simpa using h), show (a + 1) * 4 = a * 4 + 1 + 1 + 1 + 1 by omega]
      simp [Nat.add_assoc]
theorem flat_take (ps : List Pc) (a : Nat) : (flat ps).take (a * 4) = flat (ps.take a) := by
  induction ps generalizing a with
  | nil => simp [flat]
  | cons q ps ih =>
    cases a with
    | zero => simp [flat]
    | succ a => rw [List.take_succ_cons, flat_cons, flat_cons, show (a + 1) * 4 = a * 4 + 1 + 1 + 1 + 1 by omega]; simp [ih]

/-- What is kept. -/
def kept (ts : List Int) (m : Nat) (p : Pc) : Bool := !nm ts m p.x p.y p.z

theorem setCells_own (g t : Nat) : ∀ (vs : List Value) (o : Nat) (w : World) (cur : Array Value), w.heap[g]? = some (.cells cur t (0, 0)) →
    ∃ cur', (w.setCells g o vs).heap[g]? = some (.cells cur' t (0, 0)) ∧ cur'.size = cur.size ∧ cur'.toList.take o = cur.toList.take o ∧ w.grownBy (w.setCells g o vs) (some g)
  | [], o, w, cur, h => ⟨cur, h, rfl, rfl, World.grownBy.refl _ _⟩
  | v :: vs, o, w, cur, h => by
    have h1 : (w.setCell ⟨g, o, none⟩ v).heap[g]? = some (.cells (cur.setIfInBounds o v) t (0, 0)) := by
      simp [World.setCell, Array.getElem?_modify, h]
    obtain ⟨cur', e1, e2, e3, e4⟩ := setCells_own g t vs (o + 1) _ _ h1
    refine ⟨cur', e1, by simpa using e2, ?_, (grown_set w g o v).trans e4⟩
    have e5 := congrArg (List.take o) e3
    rw [List.take_take, List.take_take, Nat.min_eq_left (by omega)] at e5
    rw [e5, Array.toList_setIfInBounds, List.take_set_of_le (by omega)]

theorem und40 : Try.prog.underlying 40 = some (.slice 46) := Try.underlying40

/-- 'clear' of a slice of precedents of the call's own: what lies ahead of it is as it was. -/
theorem clear46 (w : World) (base g n cap a : Nat) (xs : List Value) (h : w.ownsRow base 46 4 (.slice (some ⟨g, 0, none⟩) n cap) n xs) (ha : a < n) (c ty : Nat) :
    ∃ w', (Builtin.clear_ #[40] ty #[.slice (some ⟨g, a * 4, none⟩) (n - a) c]).run Try.prog w = .ok (.tuple #[]) w' ∧ w'.ownsRow base 46 4 (.slice (some ⟨g, 0, none⟩) a cap) a (xs.take (a * 4)) ∧ w.grownBy w' (some g) := by
  rcases h.2 with ⟨e, _⟩ | ⟨g', cap', cur, e, hb, hg, hnc, hcm, hcs, htake⟩
  · cases e
  · cases e
    have hzv : ∀ w, (zeroValue 46).run Try.prog w = .ok (.agg #[.int .i64 0, .int .i64 0, .int .i64 0, .slice none 0 0]) w := fun w => by kernel_rfl
    obtain ⟨vs, hvs⟩ : ∃ vs, vs = (Builtin.zeroCells (Value.agg #[.int .i64 0, .int .i64 0, .int .i64 0, .slice none 0 0]).cells (n - a)).toList := ⟨_, rfl⟩
    have hvl : vs.length = (n - a) * 4 := by rw [hvs]; simp [Builtin.zeroCells, Value.cells]
    have hv1 : ∀ v ∈ vs, v.oneCell' = true := by
      rw [hvs]
      intro v hv
      simp only [Builtin.zeroCells, Value.cells, Array.toList_map, List.mem_map] at hv
      obtain ⟨i, _, rfl⟩ := hv
      have h4 : i % 4 < 4 := Nat.mod_lt _ (by omega)
      show Value.oneCell' (#[Value.int .i64 0, .int .i64 0, .int .i64 0, .slice none 0 0][i % 4]!) = true
      rcases (by omega : i % 4 = 0 ∨ i % 4 = 1 ∨ i % 4 = 2 ∨ i % 4 = 3) with e | e | e | e <;> rw [e] <;> rfl
    have hst := run_storeCells_cells (P := Try.prog) g (a * 4) vs 0 w (fun j hj => by
        rw [cell_of_row w g _ cur 46 _ hg]; simp; omega) (fun j hj => by simp [World.frozen?, hg]) hv1
    simp only [Nat.add_zero] at hst
    obtain ⟨cur', e1, e2, e3, e4⟩ := setCells_own g 46 vs (a * 4) w cur hg
    obtain ⟨k, hk⟩ : ∃ k, n - a = k + 1 := ⟨n - a - 1, by omega⟩
    refine ⟨w.setCells g (a * 4) vs, ?_, ⟨?_, .inr ⟨g, cap, cur', rfl, hb, e1, by omega, hcm, by omega, ?_⟩⟩, e4⟩
    · rw [hk] at hvs ⊢
      simp [Builtin.clear_, run_underlying und40, hzv, ← hvs, hst]
    · rw [List.length_take, h.1]; omega
    · rw [e3, ← htake, List.take_take, Nat.min_eq_left (by omega)]
end Go.Proofs.Qxb6613363a
