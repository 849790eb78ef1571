/-
  What is read: slices of ints, slices of slices of ints; small lemmas.
-/
import Derived.Test.Qxb6613363aRows
import Derived.WalkKit
import Derived.WalkSpells
import Derived.WalkLawsBesides
import Derived.BigQuiet
import Derived.Deep.QuietTactic
import Derived.Deep.OwnRows
import Derived.Deep.MidRow
import Derived.Laws.IdiomStrings
namespace Go.Proofs.Qxb6613363a
open Go.RowKit

theorem ret_int {k : IntKind} {a b : Int} (h : a = b) : Ending.returned (.int k a) = .returned (.int k b) := by rw [h]
theorem ret_bool {a b : Bool} (h : a = b) : Ending.returned (.bool a) = .returned (.bool b) := by rw [h]

/-- A slice of ints that can be read: its numbers xs. -/
structure IS (w : World) (a : Option Addr) (n c : Nat) (xs : List Int) : Prop where
  len : xs.length = n
  cap : n ≤ c
  max : n ≤ 17592186044416
  nil : a = none → c = 0
  lies : n = 0 ∨ ∃ b o, a = some ⟨b, o, none⟩ ∧ b < w.heap.size ∧ ∀ i, i < n → w.cell? ⟨b, o + i, none⟩ = some (.int .i64 (xs.getD i 0))

theorem IS.below {w w' : World} {a : Option Addr} {n c : Nat} {xs : List Int} (t : IS w a n c xs) (h : Below w.heap.size w w') : IS w' a n c xs := by
  refine ⟨t.len, t.cap, t.max, t.nil, ?_⟩
  rcases t.lies with e | ⟨b, o, e, hb, hc⟩
  · exact .inl e
  · exact .inr ⟨b, o, e, Nat.lt_of_lt_of_le hb h.size, fun i hi => (h.cell (p := ⟨b, o + i, none⟩) hb).trans (hc i hi)⟩

/-- The same under draws alone. -/
theorem IS.drewN {w : World} {a : Option Addr} {n c : Nat} {xs : List Int} (t : IS w a n c xs) (q : Nat) : IS (w.drewN q) a n c xs := t.below (below_drewN (Below.refl _ _) q)

/-- A row of a slice of slices: its value and its numbers. -/
structure Rw where
  a : Option Addr
  n : Nat
  c : Nat
  xs : List Int

/-- A slice of slices of ints that can be read. -/
structure ISS (w : World) (a : Option Addr) (n c : Nat) (rs : List Rw) : Prop where
  len : rs.length = n
  cap : n ≤ c
  max : n ≤ 17592186044416
  nil : a = none → c = 0
  lies : n = 0 ∨ ∃ b o, a = some ⟨b, o, none⟩ ∧ b < w.heap.size ∧ ∀ i (h : i < rs.length), w.cell? ⟨b, o + i, none⟩ = some (.slice rs[i].a rs[i].n rs[i].c)
  row : ∀ r ∈ rs, IS w r.a r.n r.c r.xs

theorem ISS.below {w w' : World} {a : Option Addr} {n c : Nat} {rs : List Rw} (t : ISS w a n c rs) (h : Below w.heap.size w w') : ISS w' a n c rs := by
  refine ⟨t.len, t.cap, t.max, t.nil, ?_, fun r hr => (t.row r hr).below h⟩
  rcases t.lies with e | ⟨b, o, e, hb, hc⟩
  · exact .inl e
  · exact .inr ⟨b, o, e, Nat.lt_of_lt_of_le hb h.size, fun i hi => (h.cell (p := ⟨b, o + i, none⟩) hb).trans (hc i hi)⟩

theorem getD_mem {xs : List Int} {i : Nat} (h : i < xs.length) : xs.getD i 0 ∈ xs := by
  rw [List.getD_eq_getElem?_getD, List.getElem?_eq_getElem h]; exact List.getElem_mem _
theorem drop_getD (l : List Int) (k : Nat) (h : k < l.length) : l.drop k = l.getD k 0 :: l.drop (k + 1) := by
  rw [List.drop_eq_getElem_cons h, List.getD_eq_getElem?_getD, List.getElem?_eq_getElem h]; rfl

/-- A call that only reads and answers a bool of which P holds. -/
structure BP (P : Bool → Prop) (w : World) (e : Ending) (w' : World) : Prop where
  ex : ∃ b, e = .returned (.bool b) ∧ w' = w ∧ P b
end Go.Proofs.Qxb6613363a
