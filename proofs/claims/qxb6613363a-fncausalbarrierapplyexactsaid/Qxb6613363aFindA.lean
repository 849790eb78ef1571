/-
  slices.Index, slices.Contains over timestamps.
-/
import Derived.Test.Qxb6613363aMakeC
import Derived.Laws.StructEq
namespace Go.Proofs.Qxb6613363a
open Go.RowKit Go.Deep

/-- Is the stamp number j of ts the stamp (x, y, z)? -/
def at3 (ts : List Int) (x y z : Int) (j : Nat) : Bool := decide (ts.getD (3 * j) 0 = x) && decide (ts.getD (3 * j + 1) 0 = y) && decide (ts.getD (3 * j + 2) 0 = z)
/-- Do the first m stamps of ts hold (x, y, z)? -/
def nm (ts : List Int) (m : Nat) (x y z : Int) : Bool := (List.range m).any (at3 ts x y z)

theorem nm_zero (ts : List Int) (x y z : Int) : nm ts 0 x y z = false := rfl
theorem nm_succ (ts : List Int) (m : Nat) (x y z : Int) : nm ts (m + 1) x y z = (nm ts m x y z || at3 ts x y z m) := by
  unfold nm; rw [List.range_succ, List.any_append]; simp
theorem nm_yes {ts : List Int} {m k : Nat} {x y z : Int} (hk : k < m) (h : at3 ts x y z k = true) : nm ts m x y z = true := by
  unfold nm; rw [List.any_eq_true]; exact ⟨k, List.mem_range.mpr hk, h⟩

theorem guard42 : Try.prog.eqGuardType Try.prog.depth 42 = false := by kernel_rfl
theorem eq42 (x y z a b c : Int) (w : World) : (binOp .eql 42 (.agg #[.int .i64 x, .int .i64 y, .int .i64 z]) (.agg #[.int .i64 a, .int .i64 b, .int .i64 c])).run Try.prog w = .ok (.bool (decide (a = x) && decide (b = y) && decide (c = z))) w := by
  have u3 := Try.underlying3
  have a3 := Try.isAgg3
  have z3 := Try.sizeOf3
  have hS : Try.prog.underlying 42 = some (.struct (Try.prog.fieldsOf 42)) := by kernel_rfl
  have hp : Try.prog.stoodInHeld 42 = false := by kernel_rfl
  rw [run_eql_struct, show (10000 : Nat) = 9999 + 1 from rfl, run_equalIn_agg w 9999 42 _ _ hS hp]
  simp only [Program.fieldsOf, Try.underlying42]
  go_simp
  by_cases h1 : x = a <;> by_cases h2 : y = b <;> by_cases h3 : z = c <;> simp_all [eq_comm]

/-- What Index gives back. -/
structure IxOut (P : Bool) (w : World) (e : Ending) (w' : World) : Prop where
  ex : ∃ r : Int, e = .returned (.int .i64 r) ∧ (0 ≤ r ↔ P = true) ∧ Below w.heap.size w w'

theorem own_cell {w : World} {base e size n : Nat} {v : Value} {xs : List Value} (h : w.ownsRow base e size v n xs) (hn : 0 < n) : ∃ g cap, v = .slice (some ⟨g, 0, none⟩) n cap ∧ g < w.heap.size ∧ n ≤ cap ∧ ∀ j, j < n * size → w.cell? ⟨g, j, none⟩ = xs[j]? := by
  obtain ⟨g, cap, rfl, hb, hg⟩ := h.form hn
  refine ⟨g, cap, rfl, hg, ?_, fun j hj => h.cellAt j hj⟩
  rcases h.2 with ⟨e, _⟩ | ⟨g', cap', cur, e, _, _, hc, _⟩
  · cases e
  · cases e; exact hc

set_option maxRecDepth 100000 in
set_option maxHeartbeats 1000000 in
theorem index_any (bv : Value) (m base : Nat) (ts : List Int) (x y z : Int) (w : World) (hown : w.ownsRow base 42 3 bv m (ts.map (Value.int .i64))) (hm : m ≤ 1000000) :
    Calls Try.prog 31 #[bv, .agg #[.int .i64 x, .int .i64 y, .int .i64 z]] w (IxOut (nm ts m x y z) w) := by
  obtain ⟨va, vn, vc, rfl⟩ := own_slice hown
  have hvn : vn = m := by
    rcases hown.2 with ⟨e, e2⟩ | ⟨g', cap', cur, e, _⟩
    · cases e; omega
    · cases e; rfl
  subst hvn
  have HO : Hid (w.ownsRow base 42 3 (.slice va vn vc) vn (ts.map (Value.int .i64))) := hown
  have hz := World.rowIs_alloc w #[.int .i64 x, .int .i64 y, .int .i64 z] 42 (fun i => #[.int .i64 x, .int .i64 y, .int .i64 z].getD i (.int .i64 x)) (fun i hi => by
    rw [Array.getElem?_eq_getElem hi]; congr 1; simp only [Array.getD, dif_pos hi]; rfl)
  clear hown
  go_enter Try.func31, Try.ntmps31
  go_wp2_with fail
  obtain ⟨W0, hW0⟩ : ∃ W0, W0 = w.alloc (.cells #[.int .i64 x, .int .i64 y, .int .i64 z] 42) := ⟨_, rfl⟩
  rw [← hW0] at hz ⊢
  have HB : Hid (Below w.heap.size w W0) := by rw [hW0]; exact (Below.refl _ _).alloc (Nat.le_refl _) _
  have HS : Hid (W0.heap.size = w.heap.size + 1) := by unfold Hid; rw [hW0]; simp
  clear hW0
  go_loopw [8] (fun i wr => ∃ k : Nat, k ≤ vn ∧ i = .int .i64 k ∧ Hid (nm ts k x y z = false) ∧ Below W0.heap.size W0 wr) (fun i _ => vn - (intOf i).toNat)
  case atStart => exact ⟨0, by omega, rfl, rfl, Below.refl _ _⟩
  case round =>
    obtain ⟨k, hk, rfl, hno, hbel⟩ := hrel
    have HE : Hid (Below w.heap.size w wr) := HB.out.trans (hbel.mono (by rw [HS.out]; omega))
    by_cases hlt : k < vn
    · have hz0 : wr.cell? ⟨w.heap.size, 0, none⟩ = some (.int .i64 x) := (hbel.cell (p := ⟨w.heap.size, 0, none⟩) (by rw [HS.out]; simp)).trans (hz.cell (i := 0) (by simp))
      have hz1 : wr.cell? ⟨w.heap.size, 1, none⟩ = some (.int .i64 y) := (hbel.cell (p := ⟨w.heap.size, 1, none⟩) (by rw [HS.out]; simp)).trans (hz.cell (i := 1) (by simp))
      have hz2 : wr.cell? ⟨w.heap.size, 2, none⟩ = some (.int .i64 z) := (hbel.cell (p := ⟨w.heap.size, 2, none⟩) (by rw [HS.out]; simp)).trans (hz.cell (i := 2) (by simp))
      obtain ⟨g, cap, hgv, hgl, hgc, hcell⟩ := own_cell HO.out (by omega)
      cases hgv
      have hln : (ts.map (Value.int .i64)).length = vn * 3 := HO.out.1
      have cg : ∀ j, j < vn * 3 → wr.cell? ⟨g, j, none⟩ = some (.int .i64 (ts.getD j 0)) := fun j hj => by
        rw [HE.out.cell (p := ⟨g, j, none⟩) hgl, hcell j hj]
        rw [List.length_map] at hln
        rw [List.getElem?_map, List.getD_eq_getElem?_getD, List.getElem?_eq_getElem (by omega)]; rfl
      have c0 : wr.cell? ⟨g, k * 3, none⟩ = some (.int .i64 (ts.getD (3 * k) 0)) := by rw [Nat.mul_comm k 3]; exact cg (3 * k) (by omega)
      have c1 : wr.cell? ⟨g, k * 3 + 1, none⟩ = some (.int .i64 (ts.getD (3 * k + 1) 0)) := by rw [Nat.mul_comm k 3]; exact cg (3 * k + 1) (by omega)
      have c2 : wr.cell? ⟨g, k * 3 + 2, none⟩ = some (.int .i64 (ts.getD (3 * k + 2) 0)) := by rw [Nat.mul_comm k 3]; exact cg (3 * k + 2) (by omega)
      have ha : Hid (at3 ts x y z k = (decide (ts.getD (3 * k) 0 = x) && decide (ts.getD (3 * k + 1) 0 = y) && decide (ts.getD (3 * k + 2) 0 = z))) := rfl
      generalize ts.getD (3 * k) 0 = t0 at *
      generalize ts.getD (3 * k + 1) 0 = t1 at *
      generalize ts.getD (3 * k + 2) 0 = t2 at *
      clear cg hcell hln hz
      have he42 := eq42
      have hg42 := guard42
      go_wp2_with fail
      go_quiet (fail)
      obtain ⟨bb, hbb⟩ : ∃ bb, (decide (t0 = x) && decide (t1 = y) && decide (t2 = z)) = bb := ⟨_, rfl⟩
      have HA : Hid (at3 ts x y z k = bb) := ha.out.trans hbb
      rw [hbb]
      clear hbb ha he42 hg42
      have HE' : Hid (Below w.heap.size w (wr.drewN nq)) := below_drewN HE.out nq
      have hb' := below_drewN hbel nq
      cases bb with
      | true =>
        go_wp2
        go_ret
        exact ⟨_, rfl, ⟨fun _ => nm_yes hlt HA.out, fun _ => by omega⟩, HE'.out⟩
      | false =>
        have HN : Hid (nm ts (k + 1) x y z = false) := by unfold Hid; rw [nm_succ, hno.out, HA.out]; rfl
        go_wp2
        go_roundw
        case rel => exact ⟨k + 1, by omega, by go_num, HN, hb'⟩
        case measure => simp [intOf]; omega
    · obtain rfl : k = vn := by omega
      go_wp2
      go_ret
      exact ⟨_, rfl, ⟨fun h => by omega, fun h => by rw [hno.out] at h; cases h⟩, HE.out⟩

/-- A call that answers the bool P and only lays new memory. -/
structure BoolOut (P : Bool) (w : World) (e : Ending) (w' : World) : Prop where
  ex : e = .returned (.bool P) ∧ Below w.heap.size w w'

set_option maxRecDepth 100000 in
set_option maxHeartbeats 1000000 in
theorem contains_any (bv : Value) (m base : Nat) (ts : List Int) (x y z : Int) (w : World) (hown : w.ownsRow base 42 3 bv m (ts.map (Value.int .i64))) (hm : m ≤ 1000000) :
    Calls Try.prog 28 #[bv, .agg #[.int .i64 x, .int .i64 y, .int .i64 z]] w (BoolOut (nm ts m x y z) w) := by
  have H0 : Hid (((w.alloc (.cells #[.int .i64 x, .int .i64 y, .int .i64 z] 42)).ownsRow base 42 3 bv m (ts.map (Value.int .i64)))) := hown.alloc _
  have HB : Hid (Below w.heap.size w (w.alloc (.cells #[.int .i64 x, .int .i64 y, .int .i64 z] 42))) := (Below.refl _ _).alloc (Nat.le_refl _) _
  clear hown
  go_enter Try.func28, Try.ntmps28
  go_wp2_with fail
  refine (index_any bv m base ts x y z _ H0.out hm).mono ?_
  rintro e w1 ⟨⟨r, rfl, hr, hb⟩⟩
  have HE : Hid (Below w.heap.size w w1) := HB.out.trans (hb.mono (by simp))
  clear hb
  have HR : Hid (decide (0 ≤ r) = nm ts m x y z) := by
    unfold Hid
    cases h : nm ts m x y z
    · rw [h] at hr; exact decide_eq_false (fun h0 => by cases hr.mp h0)
    · exact decide_eq_true (hr.mpr h)
  clear hr
  go_wp2
  go_ret
  exact ⟨ret_bool HR.out, HE.out⟩

set_option maxRecDepth 100000 in
set_option maxHeartbeats 1000000 in
theorem closure_any (bb : Nat) (bv : Value) (m base : Nat) (ts : List Int) (x y z : Int) (pa : Option Addr) (pn pc : Nat) (w : World) (hbb : w.cell? ⟨bb, 2, none⟩ = some bv) (hown : w.ownsRow base 42 3 bv m (ts.map (Value.int .i64))) (hm : m ≤ 1000000) :
    Calls Try.prog 27 (#[.agg #[.int .i64 x, .int .i64 y, .int .i64 z, .slice pa pn pc]] ++ #[.pointer (some ⟨bb, 0, none⟩)]) w (BoolOut (nm ts m x y z) w) := by
  obtain ⟨va, vn, vc, rfl⟩ := own_slice hown
  obtain ⟨W0, hW0⟩ : ∃ W0, W0 = w.alloc (.cells #[.int .i64 x, .int .i64 y, .int .i64 z, .slice pa pn pc] 46) := ⟨_, rfl⟩
  have HB : Hid (Below w.heap.size w W0) := by rw [hW0]; exact (Below.refl _ _).alloc (Nat.le_refl _) _
  have H0 : Hid (W0.ownsRow base 42 3 (.slice va vn vc) m (ts.map (Value.int .i64))) := own_below hown HB.out
  have hcb : W0.cell? ⟨bb, 2, none⟩ = some (.slice va vn vc) := (HB.out.cell (p := ⟨bb, 2, none⟩) (World.block_lt_of_cell? w _ hbb)).trans hbb
  rw [hW0] at hcb
  clear hbb hown
  go_enter Try.func27, Try.ntmps27
  go_wp2_with fail
  rw [← hW0]
  refine (contains_any _ m base ts x y z _ H0.out hm).mono ?_
  rintro e w1 ⟨⟨rfl, hb⟩⟩
  have HE : Hid (Below w.heap.size w w1) := HB.out.trans (hb.mono HB.out.size)
  clear hb hW0 H0
  go_wp2
  go_ret
  exact ⟨rfl, HE.out⟩
end Go.Proofs.Qxb6613363a
