/-
  ZZPrecedents.
-/
import Derived.Test.Qxb6613363aApC
namespace Go.Proofs.Qxb6613363a
open Go.RowKit Go.Deep

def Rw.v (r : Rw) : Value := .slice r.a r.n r.c

theorem info23 : (Try.prog.info? 23).map (fun i => (i.zero, i.size, i.bytes)) = some (some (.slice none 0 0), 1, 24) := by kernel_rfl

theorem own_len {w : World} {base e size n vn vc : Nat} {va : Option Addr} {xs : List Value} (h : w.ownsRow base e size (.slice va vn vc) n xs) : vn = n := by
  rcases h.2 with ⟨e, e2⟩ | ⟨g', cap', cur, e, _⟩
  · cases e; omega
  · cases e; rfl

/-- A slice of ints of the call's own can be read. -/
theorem own_is {w : World} {base n vn vc : Nat} {va : Option Addr} {xs : List Int} (h : w.ownsRow base 3 1 (.slice va vn vc) n (xs.map (Value.int .i64))) (hb : vn ≤ 17592186044416) : IS w va vn vc xs := by
  have hl := h.1
  rw [List.length_map] at hl
  rcases h.2 with ⟨e, e2⟩ | ⟨g, cap, cur, e, hg1, hg, hnc, _⟩
  · cases e
    exact ⟨by omega, by omega, by omega, fun _ => rfl, .inl rfl⟩
  · cases e
    refine ⟨by omega, hnc, hb, fun e => (by cases e), .inr ⟨g, 0, rfl, ?_, fun i hi => ?_⟩⟩
    · by_cases hlt : g < w.heap.size
      · exact hlt
      · rw [Array.getElem?_eq_none (by omega)] at hg; cases hg
    · rw [Nat.zero_add, h.cellAt i (by omega), List.getElem?_map, List.getD_eq_getElem?_getD, List.getElem?_eq_getElem (by omega)]; rfl

/-- A slice of slices of ints of the call's own can be read. -/
theorem own_iss {w : World} {base k on oc : Nat} {oa : Option Addr} {rs : List Rw} (h : w.ownsRow base 23 1 (.slice oa on oc) k (rs.map Rw.v)) (hl : rs.length = k) (hon : on = k) (hk : k ≤ 1000000)
    (hr : ∀ r ∈ rs, r.n ≤ 17592186044416 ∧ w.ownsRow base 3 1 r.v r.n (r.xs.map (Value.int .i64))) : ISS w oa on oc rs := by
  subst hon
  rcases h.2 with ⟨e, e2⟩ | ⟨g, cap, cur, e, hg1, hg, hnc, _⟩
  · cases e
    exact ⟨hl, Nat.le_refl _, by omega, fun _ => rfl, .inl rfl, fun r hr' => own_is (hr r hr').2 (hr r hr').1⟩
  · cases e
    refine ⟨hl, hnc, by omega, fun e => (by cases e), .inr ⟨g, 0, rfl, ?_, fun i hi => ?_⟩, fun r hr' => own_is (hr r hr').2 (hr r hr').1⟩
    · by_cases hlt : g < w.heap.size
      · exact hlt
      · rw [Array.getElem?_eq_none (by omega)] at hg; cases hg
    · rw [Nat.zero_add, h.cellAt i (by omega), List.getElem?_map, List.getElem?_eq_getElem hi]; rfl

/-- What ZZPrecedents gives back. -/
structure PrOut (ps : List Pc) (w : World) (e : Ending) (w' : World) : Prop where
  ex : ∃ rs a n c, e = .returned (.slice a n c) ∧ ISS w' a n c rs ∧ rs.map Rw.xs = ps.map Pc.row ∧ Below w.heap.size w w'

set_option maxRecDepth 100000 in
set_option maxHeartbeats 2000000 in
theorem precs_any (base c kb n V : Nat) (w : World) (ps : List Pc) (K : List Int) (h : CB base c kb n V w ps K) (hps : ps.length ≤ 1000000) (hpm : ∀ p ∈ ps, p.m ≤ 1000000) :
    Calls Try.prog 13 #[.pointer (some ⟨c, 0, none⟩)] w (PrOut ps w) := by
  obtain ⟨f, pv, hf, f2, f6, f7, ho⟩ := h.row
  obtain ⟨va, vn, vc, rfl⟩ := own_slice ho
  have hvn := own_len ho
  have c6 : w.cell? ⟨c, 6, none⟩ = some (.slice va vn vc) := (hf.cell (i := 6) (by decide)).trans (by rw [f6])
  have HO : Hid (w.ownsRow base 46 4 (.slice va vn vc) ps.length (flat ps)) := ho
  have HST : Hid (Sts w base ps) := h.st
  have HPM : Hid (∀ p ∈ ps, p.m ≤ 1000000) := hpm
  have HC : Hid (w.rowIs c 50 8 f) := hf
  rw [← hvn] at hps
  have HVN : Hid (vn = ps.length) := hvn
  clear h hf f2 f6 f7 ho hpm hvn
  obtain ⟨i0, hi, hz0, hz1, hz2⟩ := info_parts info23
  obtain ⟨j0, hj, hy0, hy1, hy2⟩ := info_parts info3
  go_enter Try.func13, Try.ntmps13
  go_wp2_with (at_make; refine wpList_make_own _ rfl (.const (.int .i64 0)) (.tmp 13) 22 rfl w.heap.size 23 i0 _ 1 Try.underlying22 hi hz0 hz1 .i64 .i64 _ vn rfl rfl (by omega) (by rw [hz2]; omega) (by unfold maxLen; omega) (Nat.le_refl _) ?_; intro w3 hown3 hgr3; have b3 : Below w.heap.size w w3 := (Below.refl _ w).grown hgr3 (Nat.le_refl _) (fun k h => by cases h); have c6' : w3.cell? ⟨c, 6, none⟩ = some (.slice va vn vc) := (b3.cell (p := ⟨c, 6, none⟩) HC.out.lt).trans c6)
  go_loopw [3, 20] (fun v i wr => ∃ k : Nat, k ≤ vn ∧ i = .int .i64 k ∧ Below w.heap.size w wr ∧ Hid (∃ rs : List Rw, rs.length = k ∧ rs.map Rw.xs = (ps.take k).map Pc.row ∧ wr.ownsRow w.heap.size 23 1 v k (rs.map Rw.v) ∧ (∀ r ∈ rs, r.n ≤ 17592186044416 ∧ wr.ownsRow w.heap.size 3 1 r.v r.n (r.xs.map (Value.int .i64))))) (fun _ i _ => vn - (intOf i).toNat)
  case atStart => exact ⟨0, by omega, rfl, b3, [], rfl, rfl, hown3, fun p hp => by cases hp⟩
  case round =>
    obtain ⟨k, hk, rfl, hbel, hrs⟩ := hrel
    obtain ⟨wk, hwk⟩ : ∃ wk, wk = wr := ⟨_, rfl⟩
    subst hwk
    by_cases hlt : k < vn
    · obtain ⟨g, cap, hgv, hgl, hgc, hcell⟩ := own_cell HO.out (by rw [← HVN.out]; omega)
      cases hgv
      obtain ⟨p, hp⟩ : ∃ p, ps[k]? = some p := ⟨_, List.getElem?_eq_getElem (by rw [← HVN.out]; omega)⟩
      have HP : Hid (ps[k]? = some p) := hp
      have HSO : Hid (w.ownsRow base 42 3 p.v p.m (p.ts.map (Value.int .i64))) := HST.out p (List.mem_of_getElem? hp)
      have hpm := HPM.out p (List.mem_of_getElem? hp)
      obtain ⟨f0, f1, f2, f3⟩ := flat_get ps k p hp
      obtain ⟨px, py, pz, pv, pm, pts⟩ := p
      dsimp only at hpm HSO f0 f1 f2 f3
      obtain ⟨sa, sn, sc, rfl⟩ := own_slice HSO.out
      obtain rfl := own_len HSO.out
      have hvl := HVN.out
      have c0 : wk.cell? ⟨g, k * 4, none⟩ = some (.int .i64 px) := (hbel.cell (p := ⟨g, k * 4, none⟩) hgl).trans ((hcell _ (by omega)).trans f0)
      have c1 : wk.cell? ⟨g, k * 4 + 1, none⟩ = some (.int .i64 py) := (hbel.cell (p := ⟨g, k * 4 + 1, none⟩) hgl).trans ((hcell _ (by omega)).trans f1)
      have c2 : wk.cell? ⟨g, k * 4 + 2, none⟩ = some (.int .i64 pz) := (hbel.cell (p := ⟨g, k * 4 + 2, none⟩) hgl).trans ((hcell _ (by omega)).trans f2)
      have c3 : wk.cell? ⟨g, k * 4 + 3, none⟩ = some (.slice sa sn sc) := (hbel.cell (p := ⟨g, k * 4 + 3, none⟩) hgl).trans ((hcell _ (by omega)).trans f3)
      clear hp f0 f1 f2 f3 hcell hvl
      go_wp2_with fail
      have hinit : ((wk.alloc (.cells #[.int .i64 px, .int .i64 py, .int .i64 pz, .slice sa sn sc] 46)).alloc (.cells #[.int .i64 px, .int .i64 py, .int .i64 pz] 3)).ownsRow wk.heap.size 3 1 (.slice (some ⟨wk.heap.size + 1, 0, none⟩) 3 3) (3 + 3 * 0) ((px :: py :: pz :: pts.take (3 * 0)).map (Value.int .i64)) := by
        have := World.ownsRow_lit (base := wk.heap.size) (e := 3) (size := 1) (wk.alloc (.cells #[.int .i64 px, .int .i64 py, .int .i64 pz, .slice sa sn sc] 46)) #[.int .i64 px, .int .i64 py, .int .i64 pz] 3 (by simp) (by decide) rfl
        simpa using this
      have binit : Below wk.heap.size wk ((wk.alloc (.cells #[.int .i64 px, .int .i64 py, .int .i64 pz, .slice sa sn sc] 46)).alloc (.cells #[.int .i64 px, .int .i64 py, .int .i64 pz] 3)) := ((Below.refl _ _).alloc (Nat.le_refl _) _).alloc (by simp) _
      go_loopw [6, 37] (fun v i wr => ∃ j : Nat, j ≤ sn ∧ i = .int .i64 j ∧ Below wk.heap.size wk wr ∧ Hid (wr.ownsRow wk.heap.size 3 1 v (3 + 3 * j) ((px :: py :: pz :: pts.take (3 * j)).map (Value.int .i64)))) (fun _ i _ => sn - (intOf i).toNat)
      case atStart => exact ⟨0, by omega, rfl, binit, hinit⟩
      case round =>
        obtain ⟨j, hj2, rfl, hb5, HR⟩ := hrel
        clear hinit binit
        by_cases hlt2 : j < sn
        · obtain ⟨sg, scap, hsv, hsl, hsc, hscell⟩ := own_cell HSO.out (by omega)
          cases hsv
          have hln : (pts.map (Value.int .i64)).length = sn * 3 := HSO.out.1
          rw [List.length_map] at hln
          have hsb : Below w.heap.size w wr := hbel.trans (hb5.mono hbel.size)
          have cg : ∀ i, i < sn * 3 → wr.cell? ⟨sg, i, none⟩ = some (.int .i64 (pts.getD i 0)) := fun i hi => by
            rw [hsb.cell (p := ⟨sg, i, none⟩) hsl, hscell i hi]
            rw [List.getElem?_map, List.getD_eq_getElem?_getD, List.getElem?_eq_getElem (by omega)]; rfl
          have d0 : wr.cell? ⟨sg, j * 3, none⟩ = some (.int .i64 (pts.getD (3 * j) 0)) := by rw [Nat.mul_comm j 3]; exact cg (3 * j) (by omega)
          have d1 : wr.cell? ⟨sg, j * 3 + 1, none⟩ = some (.int .i64 (pts.getD (3 * j + 1) 0)) := by rw [Nat.mul_comm j 3]; exact cg (3 * j + 1) (by omega)
          have d2 : wr.cell? ⟨sg, j * 3 + 2, none⟩ = some (.int .i64 (pts.getD (3 * j + 2) 0)) := by rw [Nat.mul_comm j 3]; exact cg (3 * j + 2) (by omega)
          have HT3 : Hid (pts.take (3 * (j + 1)) = pts.take (3 * j) ++ [pts.getD (3 * j) 0, pts.getD (3 * j + 1) 0, pts.getD (3 * j + 2) 0]) := take3 pts j (by omega)
          generalize pts.getD (3 * j) 0 = t0 at *
          generalize pts.getD (3 * j + 1) 0 = t1 at *
          generalize pts.getD (3 * j + 2) 0 = t2 at *
          have HNEW : Hid (((wr.alloc (.cells #[.int .i64 t0, .int .i64 t1, .int .i64 t2] 42)).alloc (.cells #[.int .i64 t0, .int .i64 t1, .int .i64 t2] 3)).heap[wr.heap.size + 1]? = some (.cells #[.int .i64 t0, .int .i64 t1, .int .i64 t2] 3 (0, 0))) := by
            have := heap_alloc_new (wr.alloc (.cells #[.int .i64 t0, .int .i64 t1, .int .i64 t2] 42)) (.cells #[.int .i64 t0, .int .i64 t1, .int .i64 t2] 3)
            unfold Hid; simpa using this
          have hs5 := hb5.size
          clear cg hscell
          go_wp2_with (at_builtin; refine wpList_append_lies _ rfl _ _ 23 rfl wk.heap.size 3 j0 _ 1 8 Try.underlying23 hj hy0 hy1 hy2 rfl (by decide) u6 (3 + 3 * j) _ rfl ((HR.out.alloc _).alloc _) ⟨wr.heap.size + 1, 0, none⟩ 3 3 [.int .i64 t0, .int .i64 t1, .int .i64 t2] rfl rfl (World.news_of_block (cs := #[.int .i64 t0, .int .i64 t1, .int .i64 t2]) (t := 3) (fr := (0, 0)) HNEW.out) (by simp [Value.oneCell']) (by decide) (by unfold maxLen; omega) (by omega) (by simp; omega) _ rfl ?_; intro gg gcap w6 hown6 hg6 hat6 hlt6)
          refine ⟨⟨j + 1, by omega, by go_num, ?_, ?_⟩, by simp [intOf]; omega⟩
          · exact ((hb5.alloc hs5 _).alloc (by simp; omega) _).grown hg6 (by simp; omega) (fun g hg => own_ge HR.out hg)
          · unfold Hid
            rw [HT3.out, show 3 + 3 * (j + 1) = 3 + 3 * j + 3 by omega]
            simpa using hown6
        · obtain rfl : j = sn := by omega
          have hln : (pts.map (Value.int .i64)).length = j * 3 := HSO.out.1
          rw [List.length_map] at hln
          have etk : pts.take (3 * j) = pts := List.take_of_length_le (by omega)
          rw [etk] at HR
          obtain ⟨ra, rn, rc, rfl⟩ := own_slice HR.out
          have hrn := own_len HR.out
          obtain ⟨rs, hrl, hrx, hout, hrows⟩ := hrs.out
          have HOut : Hid (wr.ownsRow w.heap.size 23 1 u3 k (rs.map Rw.v)) := own_below hout hb5
          have HRows : Hid (∀ r ∈ rs, r.n ≤ 17592186044416 ∧ wr.ownsRow w.heap.size 3 1 r.v r.n (r.xs.map (Value.int .i64))) := fun r hr => ⟨(hrows r hr).1, own_below (hrows r hr).2 hb5⟩
          have HRX : Hid (rs.map Rw.xs = (ps.take k).map Pc.row) := hrx
          have HRL : Hid (rs.length = k) := hrl
          have HRN : Hid (rn = 3 + 3 * j) := hrn
          have hs5 := hb5.size
          have hs6 := hbel.size
          clear etk hout hrows hrx hrl hrs hrn
          go_wp2_with (at_builtin; refine wpList_append_lies _ rfl _ _ 22 rfl w.heap.size 23 i0 _ 1 24 Try.underlying22 hi hz0 hz1 hz2 rfl (by decide) u3 k _ rfl (HOut.out.alloc _) ⟨wr.heap.size, 0, none⟩ 1 1 [.slice ra rn rc] rfl rfl (World.news_of_block (cs := #[.slice ra rn rc]) (t := 23) (fr := (0, 0)) (heap_alloc_new wr _)) (by simp [Value.oneCell']) (by decide) (by unfold maxLen; omega) (by omega) (by simp; omega) _ rfl ?_; intro gg gcap w6 hown6 hg6 hat6 hlt6)
          refine ⟨⟨k + 1, by omega, by go_num, ?_, rs ++ [⟨ra, rn, rc, px :: py :: pz :: pts⟩], ?_, ?_, ?_, ?_⟩, by simp [intOf]; omega⟩
          · exact ((hbel.trans (hb5.mono hs6)).alloc (by omega) _).grown hg6 (by simp; omega) (fun g hg => own_ge HOut.out hg)
          · rw [List.length_append, HRL.out]; rfl
          · rw [List.take_add_one, HP.out, List.map_append, List.map_append, HRX.out]; rfl
          · rw [List.map_append]; exact hown6
          · intro r hr
            rcases List.mem_append.mp hr with hr | hr
            · have h1 := (HRows.out r hr).2.alloc (.cells #[.slice ra rn rc] 23)
              exact ⟨(HRows.out r hr).1, h1.kept hg6 (own_tags h1 (HOut.out.alloc (.cells #[.slice ra rn rc] 23)) (by decide))⟩
            · rw [List.mem_singleton.mp hr]
              have h1 : (wr.alloc (.cells #[.slice ra rn rc] 23)).ownsRow w.heap.size 3 1 (.slice ra rn rc) rn ((px :: py :: pz :: pts).map (Value.int .i64)) := by
                rw [HRN.out] at HR ⊢
                exact (World.ownsRow.mono HR.out hs6).alloc _
              refine ⟨?_, h1.kept hg6 (own_tags h1 (HOut.out.alloc (.cells #[.slice ra rn rc] 23)) (by decide))⟩
              show rn ≤ _
              rw [HRN.out]; omega
    · obtain ⟨rs, hrl, hrx, hout, hrows⟩ := hrs.out
      obtain rfl : k = vn := by omega
      obtain ⟨oa, on, oc, rfl⟩ := own_slice hout
      have hon := own_len hout
      have HF : Hid (PrOut ps w (.returned (.slice oa on oc)) wk) := by
        refine ⟨rs, oa, on, oc, rfl, ?_, ?_, hbel⟩
        · exact own_iss hout hrl hon (by omega) hrows
        · rw [hrx, List.take_of_length_le (by rw [HVN.out]; exact Nat.le_refl _)]
      clear hout hrows hrx hrl hrs hon
      go_wp2
      go_ret
      exact HF.out
end Go.Proofs.Qxb6613363a
