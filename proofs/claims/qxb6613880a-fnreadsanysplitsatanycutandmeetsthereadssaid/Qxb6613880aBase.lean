/-
  What is read: slices of cells (three strings each); the maps' keys.
-/
import Derived.Test.Qxb6613880aRows
import Derived.WalkKit
import Derived.WalkSpells
import Derived.WalkLawsBesides
import Derived.Maps.RangeWalk
import Derived.Maps.OwnSet
import Derived.DeepKeys4
namespace Go.Proofs.Qxb6613880a
open Go.RowKit Go.Maps

theorem ret_int {k : IntKind} {a b : Int} (h : a = b) : Ending.returned (.int k a) = .returned (.int k b) := by rw [h]
theorem ret_bool {a b : Bool} (h : a = b) : Ending.returned (.bool a) = .returned (.bool b) := by rw [h]

/-- A cell: its table, its row, its column. -/
structure C3 where
  a : ByteArray
  b : ByteArray
  c : ByteArray

/-- The cell as a key of the maps. -/
def kv (x : C3) : Value := .agg #[.string x.a, .string x.b, .string x.c]

theorem kv_inj {x y : C3} (h : kv x = kv y) : x = y := by
  obtain ⟨a, b, c⟩ := x
  obtain ⟨a', b', c'⟩ := y
  simp [kv] at h
  obtain ⟨rfl, rfl, rfl⟩ := h
  rfl

/-- Its strings are no longer than a string may be. -/
structure Ok3 (x : C3) : Prop where
  a : x.a.size ≤ maxLen
  b : x.b.size ≤ maxLen
  c : x.c.size ≤ maxLen

theorem laidOutT : laidOutB Try.prog = true := by kernel_rfl
theorem row52 : (52 : TypeId) < Try.prog.types.size := of_decide_eq_true (by kernel_rfl)
theorem wide52 : (match Try.prog.underlying 52 with | some (.array _ _) | some (.struct _) => true | _ => false) = true := by rw [Try.underlying52]
theorem law52 : Keyed Try.prog 52 := Keyed.of_law (deep_law_laid laidOutT (m := 2) (by omega) row52 (by kernel_rfl) wide52)
theorem cells52 : Try.prog.cellsOf 52 = 3 := by kernel_rfl
theorem cells9 : Try.prog.cellsOf 9 = 1 := by kernel_rfl
theorem keyType52 : Try.prog.keyType 52 = true := by kernel_rfl

theorem tyN : Try.prog.types.size + 1 = 93 + 1 + 1 := by kernel_rfl

/-- A string as a part of a key. -/
def s9 : Value → Option (List Lit)
  | .string s => if s.size ≤ maxLen then some [.string s.data.toList] else none
  | _ => none

theorem s9_inv {v : Value} {l : List Lit} (h : s9 v = some l) : ∃ s, v = .string s := by
  cases v <;> simp [s9] at h
  exact ⟨_, rfl⟩

theorem lits9 (n : Nat) (v : Value) : Try.prog.keyLits (n + 1) 9 [v] = s9 v := by
  unfold Program.keyLits
  rw [Try.underlying9]
  cases v <;> rfl

theorem lits52 (n : Nat) (x y z : Value) : Try.prog.keyLits (n + 1 + 1) 52 [x, y, z] = (s9 x).bind fun a => (s9 y).bind fun b => (s9 z).bind fun c => some (a ++ (b ++ c)) := by
  unfold Program.keyLits
  rw [Try.underlying52]
  simp [cells52, cells9, lits9, Option.map_bind, Function.comp_def]
  cases s9 x <;> cases s9 y <;> cases s9 z <;> simp

theorem key52 (v : Value) : keyOf Try.prog 52 v = if v.formed Try.prog 52 = true then (Try.prog.keyLits (93 + 1 + 1) 52 v.cells.toList).map fun ls => .string (keyBytes ls) else none := by
  unfold keyOf
  rw [Try.underlying52, keyType52, tyN]
  simp only [Bool.true_and]

theorem key_ex {x : C3} (h : Ok3 x) : ∃ kl, keyOf Try.prog 52 (kv x) = some kl := by
  obtain ⟨ha, hb, hc⟩ := h
  have hf : (kv x).formed Try.prog 52 = true := by simp [Value.formed, kv, Try.underlying52, cells52]
  have hcs : (kv x).cells.toList = [.string x.a, .string x.b, .string x.c] := rfl
  rw [key52, if_pos hf, hcs, lits52]
  simp [s9, ha, hb, hc]

theorem key_inv {v : Value} {kl : Lit} (h : keyOf Try.prog 52 v = some kl) : ∃ x : C3, v = kv x := by
  rw [key52] at h
  split at h
  · rename_i hf
    cases v <;> simp [Value.formed, Try.underlying52, cells52] at hf
    rename_i cs
    obtain ⟨l⟩ := cs
    match l, hf with
    | [x, y, z], _ =>
      have hcs : (Value.agg #[x, y, z]).cells.toList = [x, y, z] := rfl
      rw [hcs, lits52] at h
      simp only [Option.map_eq_some_iff, Option.bind_eq_some_iff] at h
      obtain ⟨_, ⟨_, ha, _, hb, _, hc, _⟩, _⟩ := h
      obtain ⟨_, rfl⟩ := s9_inv ha
      obtain ⟨_, rfl⟩ := s9_inv hb
      obtain ⟨_, rfl⟩ := s9_inv hc
      exact ⟨⟨_, _, _⟩, rfl⟩
  · cases h

/-- A slice of cells that can be read. -/
structure CS (w : World) (a : Option Addr) (n c : Nat) (xs : List C3) : Prop where
  len : xs.length = n
  cap : n ≤ c
  max : n ≤ 17592186044416
  nil : a = none → c = 0
  lies : n = 0 ∨ ∃ b o, a = some ⟨b, o, none⟩ ∧ b < w.heap.size ∧ ∀ i (h : i < xs.length),
    w.cell? ⟨b, o + i * 3, none⟩ = some (.string xs[i].a) ∧ w.cell? ⟨b, o + i * 3 + 1, none⟩ = some (.string xs[i].b) ∧ w.cell? ⟨b, o + i * 3 + 2, none⟩ = some (.string xs[i].c)
  ok : ∀ x ∈ xs, Ok3 x

theorem CS.below {w w' : World} {a : Option Addr} {n c : Nat} {xs : List C3} (t : CS w a n c xs) (h : Below w.heap.size w w') : CS w' a n c xs := by
  refine ⟨t.len, t.cap, t.max, t.nil, ?_, t.ok⟩
  rcases t.lies with e | ⟨b, o, e, hb, hc⟩
  · exact .inl e
  · exact .inr ⟨b, o, e, Nat.lt_of_lt_of_le hb h.size, fun i hi => ⟨(h.cell (p := ⟨b, _, none⟩) hb).trans (hc i hi).1, (h.cell (p := ⟨b, _, none⟩) hb).trans (hc i hi).2.1, (h.cell (p := ⟨b, _, none⟩) hb).trans (hc i hi).2.2⟩⟩

theorem CS.drewN {w : World} {a : Option Addr} {n c : Nat} {xs : List C3} (t : CS w a n c xs) (q : Nat) : CS (w.drewN q) a n c xs := t.below (below_drewN (Below.refl _ _) q)

/-- The cell number k. -/
theorem CS.at {w : World} {a : Option Addr} {n c : Nat} {xs : List C3} (t : CS w a n c xs) (k : Nat) (hk : k < n) :
    ∃ b o x, a = some ⟨b, o, none⟩ ∧ b < w.heap.size ∧ xs[k]? = some x ∧ Ok3 x ∧ w.cell? ⟨b, o + k * 3, none⟩ = some (.string x.a) ∧ w.cell? ⟨b, o + k * 3 + 1, none⟩ = some (.string x.b) ∧ w.cell? ⟨b, o + k * 3 + 2, none⟩ = some (.string x.c) := by
  have hl := t.len
  rcases t.lies with e | ⟨b, o, e, h1, h2⟩
  · omega
  · have := h2 k (by omega)
    exact ⟨b, o, xs[k]'(by omega), e, h1, List.getElem?_eq_getElem _, t.ok _ (List.getElem_mem _), this.1, this.2.1, this.2.2⟩

theorem take_snoc {xs : List C3} {k : Nat} {x : C3} (h : xs[k]? = some x) : xs.take (k + 1) = xs.take k ++ [x] := by
  rw [List.take_add_one, h]; rfl

/-- A call that only reads and answers a bool of which P holds. -/
structure BP (P : Bool → Prop) (w : World) (e : Ending) (w' : World) : Prop where
  ex : ∃ b, e = .returned (.bool b) ∧ w' = w ∧ P b
/-- A call that only reads and answers an int of which P holds. -/
structure NP (P : Int → Prop) (w : World) (e : Ending) (w' : World) : Prop where
  ex : ∃ n, e = .returned (.int .i64 n) ∧ w' = w ∧ P n
end Go.Proofs.Qxb6613880a
