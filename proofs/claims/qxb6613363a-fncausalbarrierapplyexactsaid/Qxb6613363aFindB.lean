/-
  slices.IndexFunc over precedents.
-/
import Derived.Test.Qxb6613363aFindA
namespace Go.Proofs.Qxb6613363a
open Go.RowKit Go.Deep

theorem flat_cons (p : Pc) (ps : List Pc) : flat (p :: ps) = .int .i64 p.x :: .int .i64 p.y :: .int .i64 p.z :: p.v :: flat ps := by
  simp [flat, Pc.four]
theorem flat_len (ps : List Pc) : (flat ps).length = ps.length * 4 := by
  induction ps with
  | nil => rfl
  | cons p ps ih => rw [flat_cons]; simp [ih]; omega
theorem flat_get (ps : List Pc) (k : Nat) (p : Pc) (h : ps[k]? = some p) : (flat ps)[k * 4]? = some (.int .i64 p.x) ∧ (flat ps)[k * 4 + 1]? = some (.int .i64 p.y) ∧ (flat ps)[k * 4 + 2]? = some (.int .i64 p.z) ∧ (flat ps)[k * 4 + 3]? = some p.v := by
  induction ps generalizing k with
  | nil => simp at h
  | cons q ps ih =>
    rw [flat_cons]
    cases k with
    | zero => simp at h; subst h; simp
    | succ k =>
      have := ih k (by simpa using h)
      rw [show (k + 1) * 4 = k * 4 + 1 + 1 + 1 + 1 by omega]
      simpa [Nat.add_assoc] using this

/-- What IndexFunc gives back. -/
structure IfOut (P : Pc → Bool) (ps : List Pc) (w : World) (e : Ending) (w' : World) : Prop where
  ex : ∃ r : Int, e = .returned (.int .i64 r) ∧ ((r = -1 ∧ ∀ p ∈ ps, P p = false) ∨ ∃ (i : Nat) (p : Pc), r = i ∧ ps[i]? = some p ∧ P p = true ∧ ∀ q ∈ ps.take i, P q = false) ∧ Below w.heap.size w w'

set_option maxRecDepth 100000 in
set_option maxHeartbeats 1000000 in
theorem indexFunc_any (pv : Value) (ps : List Pc) (bb : Nat) (bv : Value) (m base : Nat) (ts : List Int) (w : World) (hown : w.ownsRow base 46 4 pv ps.length (flat ps)) (hst : Sts w base ps) (hn : ps.length ≤ 1000000)
    (hbb : w.cell? ⟨bb, 2, none⟩ = some bv) (hb : w.ownsRow base 42 3 bv m (ts.map (Value.int .i64))) (hm : m ≤ 1000000) :
    Calls Try.prog 30 #[pv, .func (.func 27) #[] #[.pointer (some ⟨bb, 0, none⟩)]] w (IfOut (fun p => nm ts m p.x p.y p.z) ps w) := by
  obtain ⟨va, vn, vc, rfl⟩ := own_slice hown
  obtain ⟨n, hpl⟩ : ∃ n, n = ps.length := ⟨_, rfl⟩
  rw [← hpl] at hown hn
  have hvn : vn = n := by
    rcases hown.2 with ⟨e, e2⟩ | ⟨g', cap', cur, e, _⟩
    · cases e; omega
    · cases e; rfl
  subst hvn
  have HPL : Hid (vn = ps.length) := hpl
  have HO : Hid (w.ownsRow base 46 4 (.slice va vn vc) vn (flat ps)) := hown
  have HST : Hid (Sts w base ps) := hst
  have HBB : Hid (w.cell? ⟨bb, 2, none⟩ = some bv) := hbb
  have HBO : Hid (w.ownsRow base 42 3 bv m (ts.map (Value.int .i64))) := hb
  clear hown hst hbb hb hpl
  go_enter Try.func30, Try.ntmps30
  go_wp2_with fail
  go_loopw [8] (fun i wr => ∃ k : Nat, k ≤ vn ∧ i = .int .i64 k ∧ Hid (∀ q ∈ ps.take k, nm ts m q.x q.y q.z = false) ∧ Below w.heap.size w wr) (fun i _ => vn - (intOf i).toNat)
  case atStart => exact ⟨0, by omega, rfl, (fun q hq => by simp at hq), Below.refl _ _⟩
  case round =>
    obtain ⟨k, hk, rfl, hno, hbel⟩ := hrel
    by_cases hlt : k < vn
    · obtain ⟨g, cap, hgv, hgl, hgc, hcell⟩ := own_cell HO.out (by omega)
      cases hgv
      obtain ⟨p, hp⟩ : ∃ p, ps[k]? = some p := ⟨_, List.getElem?_eq_getElem (by rw [← HPL.out]; omega)⟩
      have HP : Hid (ps[k]? = some p) := hp
      obtain ⟨pa, pn, pc, hpv⟩ := own_slice (HST.out p (List.mem_of_getElem? hp))
      obtain ⟨f0, f1, f2, f3⟩ := flat_get ps k p hp
      have c0 : wr.cell? ⟨g, k * 4, none⟩ = some (.int .i64 p.x) := (hbel.cell (p := ⟨g, k * 4, none⟩) hgl).trans ((hcell _ (by omega)).trans f0)
      have c1 : wr.cell? ⟨g, k * 4 + 1, none⟩ = some (.int .i64 p.y) := (hbel.cell (p := ⟨g, k * 4 + 1, none⟩) hgl).trans ((hcell _ (by omega)).trans f1)
      have c2 : wr.cell? ⟨g, k * 4 + 2, none⟩ = some (.int .i64 p.z) := (hbel.cell (p := ⟨g, k * 4 + 2, none⟩) hgl).trans ((hcell _ (by omega)).trans f2)
      have c3 : wr.cell? ⟨g, k * 4 + 3, none⟩ = some (.slice pa pn pc) := (hbel.cell (p := ⟨g, k * 4 + 3, none⟩) hgl).trans ((hcell _ (by omega)).trans (f3.trans (by rw [hpv])))
      have H1 : Hid (wr.cell? ⟨bb, 2, none⟩ = some bv) := (hbel.cell (p := ⟨bb, 2, none⟩) (World.block_lt_of_cell? w _ HBB.out)).trans HBB.out
      have H2 : Hid (wr.ownsRow base 42 3 bv m (ts.map (Value.int .i64))) := own_below HBO.out hbel
      clear hp f0 f1 f2 f3 hcell hpv
      go_wp2_with fail
      refine (closure_any bb bv m base ts _ _ _ _ _ _ _ H1.out H2.out hm).mono ?_
      rintro e w1 ⟨⟨rfl, hb1⟩⟩
      have hb2 : Below w.heap.size w w1 := hbel.trans (hb1.mono hbel.size)
      obtain ⟨bb', hbb'⟩ : ∃ bb', nm ts m p.x p.y p.z = bb' := ⟨_, rfl⟩
      rw [hbb']
      have HBB' : Hid (nm ts m p.x p.y p.z = bb') := hbb'
      clear hbb' hb1
      cases bb' with
      | true =>
        go_wp2
        go_ret
        exact ⟨_, rfl, .inr ⟨k, p, rfl, HP.out, HBB'.out, hno.out⟩, hb2⟩
      | false =>
        have HN : Hid (∀ q ∈ ps.take (k + 1), nm ts m q.x q.y q.z = false) := fun q hq => by
          rw [List.take_add_one, HP.out] at hq
          rcases List.mem_append.mp hq with hq | hq
          · exact hno.out q hq
          · simp at hq; subst hq; exact HBB'.out
        go_wp2
        go_roundw
        case rel => exact ⟨k + 1, by omega, by go_num, HN, hb2⟩
        case measure => simp [intOf]; omega
    · obtain rfl : k = vn := by omega
      go_wp2
      go_ret
      exact ⟨_, rfl, .inl ⟨rfl, fun p hp => hno.out p (by rw [List.take_of_length_le (by rw [← HPL.out]; exact Nat.le_refl _)]; exact hp)⟩, hbel⟩
end Go.Proofs.Qxb6613363a
