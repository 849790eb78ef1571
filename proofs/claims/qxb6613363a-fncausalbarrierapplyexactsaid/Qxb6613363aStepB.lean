/-
  Rows of a slice of slices.
-/
import Derived.Test.Qxb6613363aStepA
namespace Go.Proofs.Qxb6613363a
open Go.RowKit Go.Deep

theorem ISS.at {w : World} {a : Option Addr} {n c : Nat} {rs : List Rw} (t : ISS w a n c rs) (k : Nat) (hk : k < n) :
    ∃ b o r, a = some ⟨b, o, none⟩ ∧ b < w.heap.size ∧ rs[k]? = some r ∧ w.cell? ⟨b, o + k, none⟩ = some (.slice r.a r.n r.c) ∧ IS w r.a r.n r.c r.xs := by
  have hl := t.len
  rcases t.lies with e | ⟨b, o, e, h1, h2⟩
  · omega
  · exact ⟨b, o, rs[k]'(by omega), e, h1, List.getElem?_eq_getElem _, h2 k (by omega), t.row _ (List.getElem_mem _)⟩

theorem ISS.drewN {w : World} {a : Option Addr} {n c : Nat} {rs : List Rw} (t : ISS w a n c rs) (q : Nat) : ISS (w.drewN q) a n c rs := t.below (below_drewN (Below.refl _ _) q)

/-- Of two lists of rows with the same numbers. -/
theorem row_same {rs rs' : List Rw} {ps : List Pc} {extra : List Pc} (h1 : rs'.map Rw.xs = (ps ++ extra).map Pc.row) (h2 : ps.map Pc.row = rs.map Rw.xs) {k : Nat} {r r' : Rw} (hr : rs[k]? = some r) (hr' : rs'[k]? = some r') : r'.xs = r.xs := by
  have e1 : (rs'.map Rw.xs)[k]? = some r'.xs := by rw [List.getElem?_map, hr']; rfl
  have e2 : (rs.map Rw.xs)[k]? = some r.xs := by rw [List.getElem?_map, hr]; rfl
  rw [h1, List.map_append, h2, List.getElem?_append_left (by simpa using (List.getElem?_eq_some_iff.1 hr).1), e2] at e1
  exact (Option.some.inj e1).symm

theorem row_same2 {rs rs' : List Rw} {ps : List Pc} {p q : Pc} (h1 : rs'.map Rw.xs = (ps ++ [p] ++ [q]).map Pc.row) (h2 : ps.map Pc.row = rs.map Rw.xs) {k : Nat} {r r' : Rw} (hr : rs[k]? = some r) (hr' : rs'[k]? = some r') : r'.xs = r.xs :=
  row_same (extra := [p] ++ [q]) (by rw [← List.append_assoc]; exact h1) h2 hr hr'

theorem row_last1 {rs' : List Rw} {ps : List Pc} {p q : Pc} (h1 : rs'.map Rw.xs = (ps ++ [p] ++ [q]).map Pc.row) {n : Nat} (hn : ps.length = n) {r' : Rw} (hr' : rs'[n]? = some r') : r'.xs = p.row := by
  have e1 : (rs'.map Rw.xs)[n]? = some r'.xs := by rw [List.getElem?_map, hr']; rfl
  rw [h1, List.append_assoc, List.map_append, List.getElem?_append_right (by simp [hn])] at e1
  simp [hn] at e1
  exact e1.symm
theorem row_last2 {rs' : List Rw} {ps : List Pc} {p q : Pc} (h1 : rs'.map Rw.xs = (ps ++ [p] ++ [q]).map Pc.row) {n : Nat} (hn : ps.length = n) {r' : Rw} (hr' : rs'[n + 1]? = some r') : r'.xs = q.row := by
  have e1 : (rs'.map Rw.xs)[n + 1]? = some r'.xs := by rw [List.getElem?_map, hr']; rfl
  rw [h1, List.append_assoc, List.map_append, List.getElem?_append_right (by simp [hn])] at e1
  simp [hn] at e1
  exact e1.symm
theorem rows_len {rs' : List Rw} {ps : List Pc} {p q : Pc} (h1 : rs'.map Rw.xs = (ps ++ [p] ++ [q]).map Pc.row) {n : Nat} (hn : ps.length = n) : rs'.length = n + 2 := by
  have := congrArg List.length h1
  simpa [hn] using this
theorem rows_small {rs : List Rw} {ps : List Pc} (h : ps.map Pc.row = rs.map Rw.xs) (hr : ∀ r ∈ rs, r.xs.length ≤ 1000000) : ∀ p ∈ ps, p.row.length ≤ 1000000 := fun p hp => by
  have : p.row ∈ rs.map Rw.xs := by rw [← h]; exact List.mem_map_of_mem hp
  obtain ⟨r, h1, h2⟩ := List.mem_map.1 this
  rw [← h2]; exact hr r h1
theorem rows_small2 {ps : List Pc} {x1 y1 z1 x2 y2 z2 : Int} {v1 v2 : Value} {m1 m2 : Nat} (h : ∀ p ∈ ps, p.row.length ≤ 1000000) : ∀ p ∈ ps ++ [⟨x1, y1, z1, v1, m1, []⟩] ++ [⟨x2, y2, z2, v2, m2, []⟩], p.row.length ≤ 1000000 := fun p hp => by
  rcases List.mem_append.mp hp with hp | hp
  · rcases List.mem_append.mp hp with hp | hp
    · exact h p hp
    · rw [List.mem_singleton.mp hp]; simp [Pc.row]
  · rw [List.mem_singleton.mp hp]; simp [Pc.row]
end Go.Proofs.Qxb6613363a
