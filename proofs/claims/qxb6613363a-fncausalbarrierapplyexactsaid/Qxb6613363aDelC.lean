/-
  slices.DeleteFunc over precedents, whatever the barrier names: the walk.
-/
import Derived.Test.Qxb6613363aDelB
namespace Go.Proofs.Qxb6613363a
open Go.RowKit Go.Deep

theorem filter_take_succ {f : Pc → Bool} {ps : List Pc} {b : Nat} {p : Pc} (h : ps[b]? = some p) : (ps.take (b + 1)).filter f = (ps.take b).filter f ++ [p].filter f := by
  rw [List.take_add_one, h, List.filter_append]; rfl

/-- The row while the loop runs. -/
structure DL (base : Nat) (g n cap : Nat) (f : Pc → Bool) (ps : List Pc) (w : World) (a b : Nat) (wr : World) : Prop where
  ab : a < b
  bn : b ≤ n
  row : ∃ cur : List Pc, cur.length = n ∧ cur.take a = (ps.take b).filter f ∧ cur.drop b = ps.drop b ∧ wr.ownsRow base 46 4 (.slice (some ⟨g, 0, none⟩) n cap) n (flat cur)
  grown : w.grownBy wr (some g)

theorem DL.elem {base g n cap : Nat} {f : Pc → Bool} {ps : List Pc} {w : World} {a b : Nat} {wr : World} (h : DL base g n cap f ps w a b wr) {p : Pc} (hp : ps[b]? = some p) (hb : b < n) :
    wr.cell? ⟨g, b * 4, none⟩ = some (.int .i64 p.x) ∧ wr.cell? ⟨g, b * 4 + 1, none⟩ = some (.int .i64 p.y) ∧ wr.cell? ⟨g, b * 4 + 2, none⟩ = some (.int .i64 p.z) ∧ wr.cell? ⟨g, b * 4 + 3, none⟩ = some p.v := by
  obtain ⟨cur, hl, _, hd, ho⟩ := h.row
  have hc : cur[b]? = some p := by
    have := congrArg (fun l => l[0]?) hd
    simp only [List.getElem?_drop, Nat.add_zero] at this
    rw [this, hp]
  obtain ⟨f0, f1, f2, f3⟩ := flat_get cur b p hc
  exact ⟨(ho.cellAt _ (by omega)).trans f0, (ho.cellAt _ (by omega)).trans f1, (ho.cellAt _ (by omega)).trans f2, (ho.cellAt _ (by omega)).trans f3⟩

theorem DL.skip {base g n cap : Nat} {f : Pc → Bool} {ps : List Pc} {w : World} {a b : Nat} {wr w2 : World} (h : DL base g n cap f ps w a b wr) (hb : Below wr.heap.size wr w2) {p : Pc} (hp : ps[b]? = some p) (hf : f p = false) (hbn : b < n) : DL base g n cap f ps w a (b + 1) w2 := by
  obtain ⟨cur, hl, ht, hd, ho⟩ := h.row
  refine ⟨by have := h.ab; omega, hbn, ⟨cur, hl, ?_, ?_, own_below ho hb⟩, h.grown.trans (below_grown hb _)⟩
  · rw [filter_take_succ hp, ht]; simp [hf]
  · rw [← List.drop_drop, hd, List.drop_drop]

theorem DL.keep {base g n cap : Nat} {f : Pc → Bool} {ps : List Pc} {w : World} {a b : Nat} {wr w2 : World} (h : DL base g n cap f ps w a b wr) (hb : Below wr.heap.size wr w2) {p : Pc} (hp : ps[b]? = some p) (hf : f p = true) (hbn : b < n) :
    DL base g n cap f ps w (a + 1) (b + 1) ((((w2.setCell ⟨g, a * 4, none⟩ (.int .i64 p.x)).setCell ⟨g, a * 4 + 1, none⟩ (.int .i64 p.y)).setCell ⟨g, a * 4 + 2, none⟩ (.int .i64 p.z)).setCell ⟨g, a * 4 + 3, none⟩ p.v) := by
  obtain ⟨cur, hl, ht, hd, ho⟩ := h.row
  have hab := h.ab
  have s1 := (own_below ho hb).stored (a * 4) (.int .i64 p.x)
  have s2 := s1.1.stored (a * 4 + 1) (.int .i64 p.y)
  have s3 := s2.1.stored (a * 4 + 2) (.int .i64 p.z)
  have s4 := s3.1.stored (a * 4 + 3) p.v
  refine ⟨by omega, hbn, ⟨cur.set a p, by simpa using hl, ?_, ?_, ?_⟩, (((h.grown.trans (below_grown hb _)).trans s1.2).trans s2.2).trans (s3.2.trans s4.2)⟩
  · rw [filter_take_succ hp, ← ht, List.take_add_one, List.getElem?_set_self (by omega), List.take_set_of_le (by omega)]; simp [hf]
  · rw [List.drop_set_of_lt (by omega), ← List.drop_drop, hd, List.drop_drop]
  · rw [flat_set cur a p (by omega)]; exact s4.1

set_option maxRecDepth 100000 in
set_option maxHeartbeats 1000000 in
theorem delete_any (pv : Value) (ps : List Pc) (bb : Nat) (va : Option Addr) (vn vc m base : Nat) (ts : List Int) (w : World) (hown : w.ownsRow base 46 4 pv ps.length (flat ps)) (hst : Sts w base ps) (hn : ps.length ≤ 1000000)
    (hbb : w.cell? ⟨bb, 2, none⟩ = some (.slice va vn vc)) (hb : w.ownsRow base 42 3 (.slice va vn vc) m (ts.map (Value.int .i64))) (hm : m ≤ 1000000) :
    Calls Try.prog 26 #[pv, .func (.func 27) #[] #[.pointer (some ⟨bb, 0, none⟩)]] w (DelOut base pv (ps.filter (kept ts m)) w) := by
  have HO : Hid (w.ownsRow base 46 4 pv ps.length (flat ps)) := hown
  have HST : Hid (Sts w base ps) := hst
  have HBB : Hid (w.cell? ⟨bb, 2, none⟩ = some (.slice va vn vc)) := hbb
  have HBO : Hid (w.ownsRow base 42 3 (.slice va vn vc) m (ts.map (Value.int .i64))) := hb
  have HC := indexFunc_any pv ps bb (.slice va vn vc) m base ts w hown hst hn hbb hb hm
  clear hown hst hbb hb
  go_enter Try.func26, Try.ntmps26
  go_wp2_with fail
  refine HC.mono ?_
  rintro e w1 ⟨⟨r, rfl, hr, hb1⟩⟩
  clear HC
  rcases hr with ⟨rfl, hno⟩ | ⟨i, p, rfl, hp, hP, hno⟩
  · have HF : Hid (DelOut base pv (ps.filter (kept ts m)) w (.returned pv) w1) := by
      have e1 : ps.filter (kept ts m) = ps := List.filter_eq_self.2 (fun p hp => by simp [kept, hno p hp])
      rw [e1]
      exact ⟨pv, rfl, own_below HO.out hb1, below_grown hb1 _⟩
    clear hno hb1
    go_wp2
    go_ret
    exact HF.out
  · have hil := (List.getElem?_eq_some_iff.1 hp).1
    obtain ⟨g, cap, rfl, hgl, hgc, hcell⟩ := own_cell HO.out (by omega)
    obtain ⟨n, hnl⟩ : ∃ n, n = ps.length := ⟨_, rfl⟩
    have hbg : bb ≠ g := by
      rintro rfl
      obtain ⟨p0, hp0⟩ : ∃ p0, ps[0]? = some p0 := ⟨_, List.getElem?_eq_getElem (by omega)⟩
      have f2 := (flat_get ps 0 p0 hp0).2.2.1
      have := (hcell 2 (by omega)).trans f2
      rw [HBB.out] at this; cases this
    have HOn : Hid (w.ownsRow base 46 4 (.slice (some ⟨g, 0, none⟩) n cap) n (flat ps)) := by rw [hnl]; exact HO.out
    have HD0 : Hid (DL base g n cap (kept ts m) ps w i (i + 1) w1) := by
      refine ⟨by omega, by omega, ⟨ps, hnl.symm, ?_, rfl, own_below HOn.out hb1⟩, below_grown hb1 _⟩
      rw [filter_take_succ hp, List.filter_eq_self.2 (fun q hq => by simp [kept, hno q hq])]
      simp [kept, hP]
    have HNL : Hid (n = ps.length) := hnl
    rw [← hnl] at hil hn hgc ⊢
    have hib : ((i : Int) == -1) = false := by simp
    clear hno hP hp hcell HO hnl hb1
    go_wp2_with fail
    go_loopw [5, 6] (fun v5 v6 wr => ∃ a b : Nat, v5 = .int .i64 a ∧ v6 = .int .i64 b ∧ b ≤ n ∧ Hid (DL base g n cap (kept ts m) ps w a b wr)) (fun _ v6 _ => n - (intOf v6).toNat)
    case atStart => exact ⟨i, i + 1, rfl, by go_num, by omega, HD0⟩
    case round =>
      obtain ⟨a, b, rfl, rfl, hbn, HD⟩ := hrel
      have hab := HD.out.ab
      clear HD0
      by_cases hlt : b < n
      · obtain ⟨p, hp⟩ : ∃ p, ps[b]? = some p := ⟨_, List.getElem?_eq_getElem (by rw [← HNL.out]; omega)⟩
        have HP : Hid (ps[b]? = some p) := hp
        have HSO : Hid (w.ownsRow base 42 3 p.v p.m (p.ts.map (Value.int .i64))) := HST.out p (List.mem_of_getElem? hp)
        obtain ⟨c0, c1, c2, c3⟩ := HD.out.elem hp hlt
        obtain ⟨px, py, pz, pv, pm, pts⟩ := p
        dsimp only at HSO c0 c1 c2 c3
        obtain ⟨sa, sn, sc, rfl⟩ := own_slice HSO.out
        have hbb : wr.cell? ⟨bb, 2, none⟩ = some (.slice va vn vc) := (HD.out.grown.cell_far ⟨bb, 2, none⟩ (World.block_lt_of_cell? w _ HBB.out) (fun e => hbg (by cases e; rfl))).trans HBB.out
        have hbo : wr.ownsRow base 42 3 (.slice va vn vc) m (ts.map (Value.int .i64)) := HBO.out.kept HD.out.grown (own_tags HBO.out HOn.out (by decide))
        have hbA : Below wr.heap.size wr (wr.alloc (.cells #[.int .i64 px, .int .i64 py, .int .i64 pz, .slice sa sn sc] 46)) := (Below.refl _ _).alloc (Nat.le_refl _) _
        have HCL := closure_any bb (.slice va vn vc) m base ts px py pz sa sn sc (wr.alloc (.cells #[.int .i64 px, .int .i64 py, .int .i64 pz, .slice sa sn sc] 46)) ((hbA.cell (p := ⟨bb, 2, none⟩) (World.block_lt_of_cell? wr _ hbb)).trans hbb) (hbo.alloc _) hm
        have HNEW := World.rowIs_alloc wr #[.int .i64 px, .int .i64 py, .int .i64 pz, .slice sa sn sc] 46 (fun i => #[.int .i64 px, .int .i64 py, .int .i64 pz, .slice sa sn sc].getD i (.bool false)) (fun i hi => by
          rw [Array.getElem?_eq_getElem hi]; congr 1; simp only [Array.getD, dif_pos hi]; rfl)
        have HN2 : Hid _ := HNEW
        have HBA : Hid _ := hbA
        clear hp hbb hbo hbA HNEW
        go_wp2_with fail
        refine HCL.mono ?_
        rintro e w2 ⟨⟨rfl, hb2⟩⟩
        have hbw : Below wr.heap.size wr w2 := HBA.out.trans (hb2.mono HBA.out.size)
        have r2 := row_kept HN2.out (below_grown hb2 none) (by simp)
        have k0 := r2.cell (i := 0) (by simp)
        have k1 := r2.cell (i := 1) (by simp)
        have k2 := r2.cell (i := 2) (by simp)
        have k3 := r2.cell (i := 3) (by simp)
        obtain ⟨bq, hbq⟩ : ∃ bq, nm ts m px py pz = bq := ⟨_, rfl⟩
        rw [hbq]
        have HBQ : Hid (nm ts m px py pz = bq) := hbq
        clear hbq HCL r2 hb2
        cases bq with
        | true =>
          have HS := HD.out.skip hbw HP.out (by simp [kept, HBQ.out]) hlt
          go_wp2
          go_roundw
          case rel => exact ⟨a, b + 1, rfl, by go_num, by omega, HS⟩
          case measure => simp [intOf]; omega
        | false =>
          have HS := HD.out.keep hbw HP.out (by simp [kept, HBQ.out]) hlt
          obtain ⟨cur, hcl, _, _, ho⟩ := HD.out.row
          have ho2 := own_below ho hbw
          have hfl := flat_len cur
          obtain ⟨e0, q0⟩ : ∃ u, w2.cell? ⟨g, a * 4, none⟩ = some u := ⟨_, (ho2.cellAt (a * 4) (by omega)).trans (List.getElem?_eq_getElem (by omega))⟩
          obtain ⟨e1, q1⟩ : ∃ u, w2.cell? ⟨g, a * 4 + 1, none⟩ = some u := ⟨_, (ho2.cellAt (a * 4 + 1) (by omega)).trans (List.getElem?_eq_getElem (by omega))⟩
          obtain ⟨e2, q2⟩ : ∃ u, w2.cell? ⟨g, a * 4 + 2, none⟩ = some u := ⟨_, (ho2.cellAt (a * 4 + 2) (by omega)).trans (List.getElem?_eq_getElem (by omega))⟩
          obtain ⟨e3, q3⟩ : ∃ u, w2.cell? ⟨g, a * 4 + 3, none⟩ = some u := ⟨_, (ho2.cellAt (a * 4 + 3) (by omega)).trans (List.getElem?_eq_getElem (by omega))⟩
          have z0 := ho2.frozenAt (a * 4)
          have z1 := ho2.frozenAt (a * 4 + 1)
          have z2 := ho2.frozenAt (a * 4 + 2)
          have z3 := ho2.frozenAt (a * 4 + 3)
          have ia : (a : Int) < (n : Int) := by omega
          clear ho ho2 hcl hfl
          go_wp2
          go_roundw
          case rel => exact ⟨a + 1, b + 1, by go_num, by go_num, by omega, HS⟩
          case measure => simp [intOf]; omega
      · obtain rfl : b = n := by omega
        obtain ⟨cur, hcl, htk, _, ho⟩ := HD.out.row
        obtain ⟨wc, hclr, hoc, hgc2⟩ := clear46 wr base g b cap a (flat cur) ho hab (cap - a) 0
        have HF : Hid (DelOut base (.slice (some ⟨g, 0, none⟩) ps.length cap) (ps.filter (kept ts m)) w (.returned (.slice (some ⟨g, 0, none⟩) a cap)) wc) := by
          have e1 : ps.filter (kept ts m) = cur.take a := by rw [htk, List.take_of_length_le (by rw [← HNL.out]; exact Nat.le_refl _)]
          refine ⟨_, rfl, ?_, HD.out.grown.trans hgc2⟩
          rw [e1, ← flat_take, List.length_take, hcl, Nat.min_eq_left (by omega)]
          exact hoc
        have ia : (a : Int) ≤ (b : Int) := by omega
        have ia2 : (a : Int) ≤ (cap : Int) := by omega
        clear hoc hgc2 ho htk hcl HD
        go_wp2
        go_ret
        exact HF.out
end Go.Proofs.Qxb6613363a
