/-
  What lies in memory while Apply runs.
-/
import Derived.Test.Qxb6613363aDelA
namespace Go.Proofs.Qxb6613363a
open Go.RowKit Go.Deep

theorem grown_set (w : World) (b i : Nat) (u : Value) : w.grownBy (w.setCell ⟨b, i, none⟩ u) (some b) :=
  ⟨rfl, rfl, rfl, by simp [World.setCell], fun k _ hne => Below.heap_setCell w ⟨b, i, none⟩ u k (fun e => hne (by rw [e]))⟩
theorem row_kept {w w' : World} {b t n : Nat} {f : Nat → Value} {row : Option Nat} (h : w.rowIs b t n f) (hg : w.grownBy w' row) (hne : some b ≠ row) : w'.rowIs b t n f := h.of_block (hg.block b h.lt hne)
theorem row_ne {w : World} {b t n b' t' n' : Nat} {f f' : Nat → Value} (h : w.rowIs b t n f) (h' : w.rowIs b' t' n' f') (ht : t ≠ t') : b ≠ b' := by
  rintro rfl
  obtain ⟨c, hc, _⟩ := h
  obtain ⟨c', hc', _⟩ := h'
  rw [hc] at hc'
  simp at hc'
  exact ht hc'.2
theorem row_own_ne {w : World} {b t n base e s m : Nat} {f : Nat → Value} {v : Value} {xs : List Value} (h : w.rowIs b t n f) (h' : w.ownsRow base e s v m xs) (ht : t ≠ e) : some b ≠ v.ownBlock := by
  rcases h'.2 with ⟨ev, _⟩ | ⟨g, cap, cur, ev, _, hg, _⟩
  · rw [ev]; simp [Value.ownBlock]
  · rw [ev]
    simp only [Value.ownBlock, ne_eq, Option.some.injEq]
    rintro rfl
    obtain ⟨c, hc, _⟩ := h
    rw [hc] at hg
    simp at hg
    exact ht hg.2
theorem own_row_ne {w : World} {b t n base e s m : Nat} {f : Nat → Value} {v : Value} {xs : List Value} (h' : w.ownsRow base e s v m xs) (h : w.rowIs b t n f) (ht : t ≠ e) : v.ownBlock = none ∨ v.ownBlock ≠ some b := .inr (fun e => row_own_ne h h' ht e.symm)

/-- What lies in memory while Apply runs. -/
structure AP (base c kb n h0 V : Nat) (fr wt vr : Int) (cv bv : Value) (m : Nat) (ts : List Int) (w0 w : World) (pv : Value) (ps : List Pc) (K : List Int) : Prop where
  row : ∃ f, w.rowIs c 50 8 f ∧ f 2 = .int .i64 V ∧ f 6 = pv ∧ f 7 = .slice (some ⟨kb, 0, none⟩) n n
  own : w.ownsRow base 46 4 pv ps.length (flat ps)
  st : Sts w base ps
  bar : w.ownsRow base 42 3 bv m (ts.map (Value.int .i64))
  kl : K.length = n
  known : w.rowIs kb 3 n (fun j => .int .i64 (K.getD j 0))
  r63 : ∃ f, w.rowIs h0 63 10 f ∧ f 1 = .int .i64 fr ∧ f 3 = .int .i64 vr
  r52 : ∃ f, w.rowIs (h0 + 1) 52 4 f
  r61 : ∃ f, w.rowIs (h0 + 1 + 1) 61 3 f ∧ f 0 = .int .i64 wt ∧ f 1 = cv ∧ f 2 = bv
  bc : base ≤ c
  bk : base ≤ kb
  b0 : base ≤ h0
  bs : base ≤ w.heap.size
  bel : Below base w0 w

section
variable {base c kb n h0 V : Nat} {fr wt vr : Int} {cv bv : Value} {m : Nat} {ts : List Int} {w0 w w1 : World} {pv pv' : Value} {ps ps' : List Pc} {K : List Int}

/-- Every block but the precedents' row is as it was: all but what the new row says. -/
theorem AP.grow (h : AP base c kb n h0 V fr wt vr cv bv m ts w0 w pv ps K) (hg : w.grownBy w1 pv.ownBlock) (ho : w1.ownsRow base 46 4 pv' ps'.length (flat ps')) (hs : Sts w1 base ps') :
    AP base c kb n h0 V fr wt vr cv bv m ts w0 (w1.setCell ⟨c, 6, none⟩ pv') pv' ps' K := by
  obtain ⟨f, hf, f2, f6, f7⟩ := h.row
  obtain ⟨f63, h63, q1, q3⟩ := h.r63
  obtain ⟨f52, h52⟩ := h.r52
  obtain ⟨f61, h61, s0, s1, s2⟩ := h.r61
  have a1 := row_kept hf hg (row_own_ne hf h.own (by decide))
  have a2 := row_kept h.known hg (row_own_ne h.known h.own (by decide))
  have a3 := row_kept h63 hg (row_own_ne h63 h.own (by decide))
  have a4 := row_kept h52 hg (row_own_ne h52 h.own (by decide))
  have a5 := row_kept h61 hg (row_own_ne h61 h.own (by decide))
  have a6 := h.bar.kept hg (own_tags h.bar h.own (by decide))
  have hB : Below base w0 w1 := h.bel.grown hg h.bs (fun k hk => own_ge h.own hk)
  refine ⟨⟨_, a1.set 6 pv', ?_, ?_, ?_⟩, ?_, ?_, ?_, h.kl, ?_, ⟨f63, ?_, q1, q3⟩, ⟨f52, ?_⟩, ⟨f61, ?_, s0, s1, s2⟩, h.bc, h.bk, h.b0, ?_, hB.setCell h.bc _⟩
  · rw [if_neg (by decide)]; exact f2
  · rw [if_pos rfl]
  · rw [if_neg (by decide)]; exact f7
  · exact ho.kept (grown_set _ _ _ _) (own_row_ne ho a1 (by decide))
  · exact fun p hp => (hs p hp).kept (grown_set _ _ _ _) (own_row_ne (hs p hp) a1 (by decide))
  · exact a6.kept (grown_set _ _ _ _) (own_row_ne a6 a1 (by decide))
  · exact a2.setOther (row_ne a2 a1 (by decide)) _
  · exact a3.setOther (row_ne a3 a1 (by decide)) _
  · exact a4.setOther (row_ne a4 a1 (by decide)) _
  · exact a5.setOther (row_ne a5 a1 (by decide)) _
  · have := hg.size; have := h.bs; simp [World.setCell]; omega

theorem AP.c6 (h : AP base c kb n h0 V fr wt vr cv bv m ts w0 w pv ps K) : w.cell? ⟨c, 6, none⟩ = some pv := by
  obtain ⟨f, hf, _, f6, _⟩ := h.row
  exact (hf.cell (i := 6) (by decide)).trans (by rw [f6])
theorem AP.z6 (h : AP base c kb n h0 V fr wt vr cv bv m ts w0 w pv ps K) : w.frozen? ⟨c, 6, none⟩ = false := by
  obtain ⟨f, hf, _⟩ := h.row
  exact hf.frozen 6
theorem AP.cfr (h : AP base c kb n h0 V fr wt vr cv bv m ts w0 w pv ps K) : w.cell? ⟨h0, 1, none⟩ = some (.int .i64 fr) := by
  obtain ⟨f, hf, f1, _⟩ := h.r63
  exact (hf.cell (i := 1) (by decide)).trans (by rw [f1])
theorem AP.cvr (h : AP base c kb n h0 V fr wt vr cv bv m ts w0 w pv ps K) : w.cell? ⟨h0, 3, none⟩ = some (.int .i64 vr) := by
  obtain ⟨f, hf, _, f3⟩ := h.r63
  exact (hf.cell (i := 3) (by decide)).trans (by rw [f3])
theorem AP.cwt (h : AP base c kb n h0 V fr wt vr cv bv m ts w0 w pv ps K) : w.cell? ⟨h0 + 1 + 1, 0, none⟩ = some (.int .i64 wt) := by
  obtain ⟨f, hf, f0, _⟩ := h.r61
  exact (hf.cell (i := 0) (by decide)).trans (by rw [f0])
theorem AP.ccv (h : AP base c kb n h0 V fr wt vr cv bv m ts w0 w pv ps K) : w.cell? ⟨h0 + 1 + 1, 1, none⟩ = some cv := by
  obtain ⟨f, hf, _, f1, _⟩ := h.r61
  exact (hf.cell (i := 1) (by decide)).trans (by rw [f1])
theorem AP.cbv (h : AP base c kb n h0 V fr wt vr cv bv m ts w0 w pv ps K) : w.cell? ⟨h0 + 1 + 1, 2, none⟩ = some bv := by
  obtain ⟨f, hf, _, _, f2⟩ := h.r61
  exact (hf.cell (i := 2) (by decide)).trans (by rw [f2])
theorem AP.ne0 (h : AP base c kb n h0 V fr wt vr cv bv m ts w0 w pv ps K) : h0 ≠ c ∧ h0 + 1 + 1 ≠ c := by
  obtain ⟨f, hf, _⟩ := h.row
  obtain ⟨f63, h63, _⟩ := h.r63
  obtain ⟨f61, h61, _⟩ := h.r61
  exact ⟨row_ne h63 hf (by decide), row_ne h61 hf (by decide)⟩

theorem AP.mid (h : AP base c kb n h0 V fr wt vr cv bv m ts w0 w pv ps K) (hg : w.grownBy w1 pv.ownBlock) : ∃ f, w1.rowIs c 50 8 f := by
  obtain ⟨f, hf, _⟩ := h.row
  exact ⟨f, row_kept hf hg (row_own_ne hf h.own (by decide))⟩

theorem AP.keep0 (h : AP base c kb n h0 V fr wt vr cv bv m ts w0 w pv ps K) (hg : w.grownBy w1 pv.ownBlock) :
    (w1.cell? ⟨h0, 1, none⟩ = w.cell? ⟨h0, 1, none⟩ ∧ w1.cell? ⟨h0, 3, none⟩ = w.cell? ⟨h0, 3, none⟩) ∧ w1.cell? ⟨h0 + 1 + 1, 0, none⟩ = w.cell? ⟨h0 + 1 + 1, 0, none⟩ ∧ w1.cell? ⟨h0 + 1 + 1, 2, none⟩ = w.cell? ⟨h0 + 1 + 1, 2, none⟩ := by
  obtain ⟨f63, h63, _⟩ := h.r63
  obtain ⟨f61, h61, _⟩ := h.r61
  have e1 := row_own_ne h63 h.own (by decide)
  have e2 := row_own_ne h61 h.own (by decide)
  exact ⟨⟨hg.cell_far _ h63.lt e1, hg.cell_far _ h63.lt e1⟩, hg.cell_far _ h61.lt e2, hg.cell_far _ h61.lt e2⟩

theorem AP.below (h : AP base c kb n h0 V fr wt vr cv bv m ts w0 w pv ps K) (hb : Below w.heap.size w w1) : AP base c kb n h0 V fr wt vr cv bv m ts w0 w1 pv ps K := by
  obtain ⟨f, hf, f2, f6, f7⟩ := h.row
  obtain ⟨f63, h63, q1, q3⟩ := h.r63
  obtain ⟨f52, h52⟩ := h.r52
  obtain ⟨f61, h61, s0, s1, s2⟩ := h.r61
  have g := below_grown hb none
  refine ⟨⟨f, row_kept hf g (by simp), f2, f6, f7⟩, own_below h.own hb, h.st.below hb, own_below h.bar hb, h.kl, row_kept h.known g (by simp), ⟨f63, row_kept h63 g (by simp), q1, q3⟩, ⟨f52, row_kept h52 g (by simp)⟩, ⟨f61, row_kept h61 g (by simp), s0, s1, s2⟩, h.bc, h.bk, h.b0, Nat.le_trans h.bs hb.size, h.bel.trans (hb.mono h.bs)⟩

theorem AP.raise (h : AP base c kb n h0 V fr wt vr cv bv m ts w0 w pv ps K) (i : Nat) (x : Int) (hi : i < n) : AP base c kb n h0 V fr wt vr cv bv m ts w0 (w.setCell ⟨kb, i, none⟩ (.int .i64 x)) pv ps (K.set i x) := by
  obtain ⟨f, hf, f2, f6, f7⟩ := h.row
  obtain ⟨f63, h63, q1, q3⟩ := h.r63
  obtain ⟨f52, h52⟩ := h.r52
  obtain ⟨f61, h61, s0, s1, s2⟩ := h.r61
  have hk := h.known
  refine ⟨⟨f, hf.setOther (row_ne hf hk (by decide)) _, f2, f6, f7⟩, h.own.kept (grown_set _ _ _ _) (own_row_ne h.own hk (by decide)), fun p hp => (h.st p hp).kept (grown_set _ _ _ _) (own_row_ne (h.st p hp) hk (by decide)),
    h.bar.kept (grown_set _ _ _ _) (own_row_ne h.bar hk (by decide)), by simp [h.kl], (hk.set i _).congr (fun j hj => ?_), ⟨f63, h63.setOther (row_ne h63 hk (by decide)) _, q1, q3⟩, ⟨f52, h52.setOther (row_ne h52 hk (by decide)) _⟩,
    ⟨f61, h61.setOther (row_ne h61 hk (by decide)) _, s0, s1, s2⟩, h.bc, h.bk, h.b0, ?_, h.bel.setCell h.bk _⟩
  · by_cases e : j = i
    · subst e
      rw [if_pos rfl, List.getD_eq_getElem?_getD, List.getElem?_set_self (by rw [h.kl]; exact hi)]; rfl
    · rw [if_neg e, List.getD_eq_getElem?_getD, List.getD_eq_getElem?_getD, List.getElem?_set_ne (Ne.symm e)]
  · have := h.bs; simp [World.setCell]; exact this

theorem AP.w52 (h : AP base c kb n h0 V fr wt vr cv bv m ts w0 w pv ps K) (i : Nat) (u : Value) : AP base c kb n h0 V fr wt vr cv bv m ts w0 (w.setCell ⟨h0 + 1, i, none⟩ u) pv ps K := by
  obtain ⟨f, hf, f2, f6, f7⟩ := h.row
  obtain ⟨f63, h63, q1, q3⟩ := h.r63
  obtain ⟨f52, h52⟩ := h.r52
  obtain ⟨f61, h61, s0, s1, s2⟩ := h.r61
  refine ⟨⟨f, hf.setOther (row_ne hf h52 (by decide)) _, f2, f6, f7⟩, h.own.kept (grown_set _ _ _ _) (own_row_ne h.own h52 (by decide)), fun p hp => (h.st p hp).kept (grown_set _ _ _ _) (own_row_ne (h.st p hp) h52 (by decide)),
    h.bar.kept (grown_set _ _ _ _) (own_row_ne h.bar h52 (by decide)), h.kl, h.known.setOther (row_ne h.known h52 (by decide)) _, ⟨f63, h63.setOther (row_ne h63 h52 (by decide)) _, q1, q3⟩, ⟨_, h52.set i u⟩,
    ⟨f61, h61.setOther (row_ne h61 h52 (by decide)) _, s0, s1, s2⟩, h.bc, h.bk, h.b0, ?_, h.bel.setCell (by have := h.b0; simp; omega) _⟩
  have := h.bs; simp [World.setCell]; exact this
end
end Go.Proofs.Qxb6613363a
