/-
  The maps as sets of cells: ZZNewTx, ZZAddRead, ZZNewCells, ZZAddCell.
-/
import Derived.Test.Qxb6613880aBase
namespace Go.Proofs.Qxb6613880a
open Go.RowKit Go.Maps

/-- How an element of m cells reads: what it holds is not looked at. -/
def elN (m : Nat) : Value → Option (DataW Unit × List MemPlace)
  | .agg cs => if cs.size = m ∧ cs.toList.all Value.oneCell' = true then some (.nil, []) else none
  | _ => none

theorem elN_mk {m : Nat} {cs : Array Value} (h : cs.size = m) (h1 : cs.toList.all Value.oneCell' = true) : elN m (.agg cs) = some (.nil, []) := if_pos ⟨h, h1⟩
theorem elN_inv {m : Nat} {v : Value} {y : DataW Unit × List MemPlace} (h : elN m v = some y) : ∃ cs : { l : Array Value // l.size = m ∧ l.toList.all Value.oneCell' = true }, v = .agg cs.1 := by
  cases v <;> simp only [elN] at h <;> try (cases h; done)
  split at h
  · rename_i h1
    exact ⟨⟨_, h1⟩, rfl⟩
  · cases h

/-- The datum D holds just the cells of xs as its keys. -/
def Holds (D : DataW Unit) (xs : List C3) : Prop := ∀ x kl, keyOf Try.prog 52 (kv x) = some kl → (Maps.has D kl = true ↔ x ∈ xs)

theorem holds_nil : Holds (.map []) [] := fun x kl _ => by simp [Maps.has]

theorem holds_put {D : DataW Unit} {xs : List C3} (hD : IsMap D) (h : Holds D xs) {x : C3} {kl : Lit} (hx : keyOf Try.prog 52 (kv x) = some kl) : Holds (D.put kl .nil) (xs ++ [x]) := fun y ky hy => by
  by_cases e : ky = kl
  · subst e
    have := kv_inj (law52.inj hy hx)
    subst this
    simp [has_put_same hD (law52.key hx)]
  · have hne : y ≠ x := fun h1 => e (by subst h1; rw [hx] at hy; exact (Option.some.inj hy).symm)
    rw [has_put_other e, h y ky hy]
    simp [hne]

/-- Block b is a map of at most n entries, of elements of m cells each, whose keys are the cells of xs. -/
structure MS (m : Nat) (w : World) (b n : Nat) (xs : List C3) : Prop where
  ex : ∃ D, w.ownsMap Try.prog 52 (elN m) b n D ∧ Holds D xs

theorem MS.lt {m : Nat} {w : World} {b n : Nat} {xs : List C3} (h : MS m w b n xs) : b < w.heap.size := by
  obtain ⟨D, h1, _⟩ := h.ex
  exact h1.lt
theorem MS.kept {m : Nat} {w w' : World} {b n : Nat} {xs : List C3} {row : Option Nat} (h : MS m w b n xs) (hg : w.grownBy w' row) (hne : some b ≠ row) : MS m w' b n xs := by
  obtain ⟨D, h1, h2⟩ := h.ex
  exact ⟨D, h1.kept hg hne, h2⟩
theorem MS.drewN {m : Nat} {w : World} {b n : Nat} {xs : List C3} (h : MS m w b n xs) (q : Nat) : MS m (w.drewN q) b n xs := by
  obtain ⟨D, h1, h2⟩ := h.ex
  exact ⟨D, h1, h2⟩
theorem MS.below {m : Nat} {w w' : World} {b n : Nat} {xs : List C3} (h : MS m w b n xs) {base : Nat} (hb : Below base w w') (hlt : b < base) : MS m w' b n xs := by
  obtain ⟨D, ⟨es, clock, h1, h2, h3, h4⟩, hD⟩ := h.ex
  exact ⟨D, ⟨es, clock, (hb.block b hlt).trans h1, h2, h3, h4⟩, hD⟩

/-- Behind a store into the map. -/
structure AddOut (m : Nat) (b n : Nat) (xs : List C3) (w : World) (e : Ending) (w' : World) : Prop where
  ret : e = .returned (.tuple #[])
  set : MS m w' b n xs
  grown : w.grownBy w' (some b)

set_option maxRecDepth 100000 in
theorem addCell_any (b n : Nat) (xs : List C3) (x : C3) (w : World) (h : MS 13 w b n xs) (hn : n ≤ 1000000) (hx : Ok3 x) :
    Calls Try.prog 12 #[.map (some b), .string x.a, .string x.b, .string x.c] w (AddOut 13 b (n + 1) (xs ++ [x]) w) := by
  obtain ⟨D, hown, hD⟩ := h.ex
  obtain ⟨kl, hkey⟩ := key_ex hx
  have hb : n < maxLen := by unfold maxLen; omega
  have HP : Hid (Holds (D.put kl .nil) (xs ++ [x])) := holds_put hown.isMap hD hkey
  unfold kv at hkey
  obtain ⟨xa, xb, xc⟩ := x
  dsimp only at hkey ⊢
  clear h hD hx
  go_enter Try.func12, Try.ntmps12
  go_wp2_with (first
    | (at_mapUpdate; refine wpList_mapUpdate_own _ rfl _ _ _ 28 rfl 52 50 law52 Try.underlying28 _ b n D rfl hown hb _ _ kl rfl rfl hkey .nil [] (elN_mk rfl rfl) ?_; intro w1 hown1 hg1; go_frame)
    | go_in)
  go_end0
  exact ⟨rfl, ⟨_, hown1, HP.out⟩, hg1⟩

set_option maxRecDepth 100000 in
theorem addRead_any (p b n : Nat) (xs : List C3) (x : C3) (w : World) (h : MS 12 w b n xs) (hc : w.cell? ⟨p, 4, none⟩ = some (.map (some b))) (hn : n ≤ 1000000) (hx : Ok3 x) :
    Calls Try.prog 15 #[.pointer (some ⟨p, 0, none⟩), .string x.a, .string x.b, .string x.c] w (AddOut 12 b (n + 1) (xs ++ [x]) w) := by
  obtain ⟨D, hown, hD⟩ := h.ex
  obtain ⟨kl, hkey⟩ := key_ex hx
  have hb : n < maxLen := by unfold maxLen; omega
  have HP : Hid (Holds (D.put kl .nil) (xs ++ [x])) := holds_put hown.isMap hD hkey
  unfold kv at hkey
  obtain ⟨xa, xb, xc⟩ := x
  dsimp only at hkey ⊢
  clear h hD hx
  go_enter Try.func15, Try.ntmps15
  go_wp2_with (first
    | (at_mapUpdate; refine wpList_mapUpdate_own _ rfl _ _ _ 53 rfl 52 64 law52 Try.underlying53 _ b n D rfl hown hb _ _ kl rfl rfl hkey .nil [] (elN_mk rfl rfl) ?_; intro w1 hown1 hg1; go_frame)
    | go_in)
  go_end0
  exact ⟨rfl, ⟨_, hown1, HP.out⟩, hg1⟩

/-- Behind ZZNewCells and newCells. -/
structure McOut (xs : List C3) (n : Nat) (w : World) (e : Ending) (w' : World) : Prop where
  ex : ∃ b, e = .returned (.map (some b)) ∧ w.heap.size ≤ b ∧ MS 13 w' b n xs ∧ Below w.heap.size w w'

theorem newCells0_any (w : World) : Calls Try.prog 17 #[] w (McOut [] 0 w) := by
  have hmm := @run_makeMap Try.prog
  go_enter Try.func17, Try.ntmps17
  go_wp2
  go_ret
  exact ⟨⟨_, rfl, Nat.le_refl _, ⟨_, World.ownsMap_made _ _ _ _, holds_nil⟩, (Below.refl _ _).alloc (Nat.le_refl _) _⟩⟩

theorem cell_at_new (W : World) (cs : Array Value) (t : TypeId) (i : Nat) {v : Value} (h : cs[i]? = some v) : (W.alloc (.cells cs t)).cell? ⟨W.heap.size, i, none⟩ = some v := by
  unfold World.cell?
  rw [(MapKept.heap_alloc W (.cells cs t)).1]
  simpa using h

/-- Behind ZZNewTx and newTx. -/
structure TxOut (xs : List C3) (n : Nat) (w : World) (e : Ending) (w' : World) : Prop where
  ex : ∃ p b, e = .returned (.pointer (some ⟨p, 0, none⟩)) ∧ w.heap.size ≤ p ∧ w.heap.size ≤ b ∧ p ≠ b ∧ p < w'.heap.size ∧ w'.cell? ⟨p, 4, none⟩ = some (.map (some b)) ∧ MS 12 w' b n xs ∧ Below w.heap.size w w'

set_option maxRecDepth 100000 in
theorem newTx0_any (w : World) : Calls Try.prog 14 #[] w (TxOut [] 0 w) := by
  have hmm := @run_makeMap Try.prog
  go_enter Try.func14, Try.ntmps14
  go_wp2
  go_ret
  refine ⟨⟨_, w.heap.size, rfl, ?_, Nat.le_refl _, ?_, ?_, ?_, ⟨_, (World.ownsMap_made _ _ _ _).alloc _, holds_nil⟩, ((Below.refl _ _).alloc (Nat.le_refl _) _).alloc (by simp) _⟩⟩
  · simp
  · simp
  · simp
  · rw [show w.heap.size + 1 = (w.alloc (.map #[] 0)).heap.size by simp]
    exact cell_at_new _ _ _ _ rfl
end Go.Proofs.Qxb6613880a
