/-
  CausalBarrier.Apply.
-/
import Derived.Test.Qxb6613363aApA
namespace Go.Proofs.Qxb6613363a
open Go.RowKit Go.Deep

theorem assert61 (v : Value) (w : World) : (Instr.typeAssert (.iface 61 v) 20 61 false).run Try.prog w = .ok v w := by kernel_rfl
theorem mkf (fn : Fn) (first cap : Array Value) (w : World) : (Instr.makeFunc fn first cap).run Try.prog w = .ok (.func fn first cap) w := rfl

theorem arr_getD {xs : Array Value} {d : Value} {i : Nat} (_ : Value) (hi : i < xs.size) : xs[i]? = some (xs.getD i d) := by
  rw [Array.getElem?_eq_getElem hi]; congr 1; simp only [Array.getD, dif_pos hi]; rfl

/-- The arrival that ZZApply builds. -/
def arrival (fr wt vr : Int) (ca : Option Addr) (cn cc : Nat) (bv : Value) : Value :=
  .agg #[.int .u8 0, .int .i64 fr, .int .i64 0, .int .i64 vr, .string ⟨#[]⟩, .slice none 0 0, .int .i64 0, .slice none 0 0, .iface 61 (.agg #[.int .i64 wt, .slice ca cn cc, bv]), .bool false]

/-- What a barrier's memory holds. -/
structure CB (base c kb n V : Nat) (w : World) (ps : List Pc) (K : List Int) : Prop where
  row : ∃ f pv, w.rowIs c 50 8 f ∧ f 2 = .int .i64 V ∧ f 6 = pv ∧ f 7 = .slice (some ⟨kb, 0, none⟩) n n ∧ w.ownsRow base 46 4 pv ps.length (flat ps)
  st : Sts w base ps
  kl : K.length = n
  known : w.rowIs kb 3 n (fun j => .int .i64 (K.getD j 0))
  bc : base ≤ c
  bk : base ≤ kb
  bs : base ≤ w.heap.size

theorem AP.toCB {base c kb n h0 V : Nat} {fr wt vr : Int} {cv bv : Value} {m : Nat} {ts : List Int} {w0 w : World} {pv : Value} {ps : List Pc} {K : List Int} (h : AP base c kb n h0 V fr wt vr cv bv m ts w0 w pv ps K) : CB base c kb n V w ps K := by
  obtain ⟨f, hf, f2, f6, f7⟩ := h.row
  exact ⟨⟨f, pv, hf, f2, f6, f7, h.own⟩, h.st, h.kl, h.known, h.bc, h.bk, h.bs⟩

theorem AP.start {base c kb n V : Nat} {fr wt vr : Int} {ca : Option Addr} {cn cc : Nat} {va : Option Addr} {vn vc m : Nat} {ts : List Int} {w : World} {ps : List Pc} {K : List Int} (h : CB base c kb n V w ps K)
    (hb : w.ownsRow base 42 3 (.slice va vn vc) m (ts.map (Value.int .i64))) : ∃ pv, AP base c kb n w.heap.size V fr wt vr (.slice ca cn cc) (.slice va vn vc) m ts w
      (((w.alloc (.cells #[.int .u8 0, .int .i64 fr, .int .i64 0, .int .i64 vr, .string ⟨#[]⟩, .slice none 0 0, .int .i64 0, .slice none 0 0, .iface 61 (.agg #[.int .i64 wt, .slice ca cn cc, .slice va vn vc]), .bool false] 63)).alloc
        (.cells #[.bool false, .bool false, .bool false, .bool false] 52)).alloc (.cells #[.int .i64 wt, .slice ca cn cc, .slice va vn vc] 61)) pv ps K := by
  obtain ⟨f, pv, hf, f2, f6, f7, ho⟩ := h.row
  refine ⟨pv, ⟨f, ((hf.alloc _).alloc _).alloc _, f2, f6, f7⟩, ((ho.alloc _).alloc _).alloc _, ((h.st.alloc _).alloc _).alloc _, ((hb.alloc _).alloc _).alloc _, h.kl, ((h.known.alloc _).alloc _).alloc _,
    ⟨_, ((World.rowIs_alloc w _ 63 (fun i => #[.int .u8 0, .int .i64 fr, .int .i64 0, .int .i64 vr, .string ⟨#[]⟩, .slice none 0 0, .int .i64 0, .slice none 0 0, .iface 61 (.agg #[.int .i64 wt, .slice ca cn cc, .slice va vn vc]), .bool false].getD i (.bool false)) (fun i hi => arr_getD (.bool false) hi)).alloc _).alloc _, rfl, rfl⟩,
    ⟨fun i => #[.bool false, .bool false, .bool false, .bool false].getD i (.bool false), ?_⟩, ⟨fun i => #[.int .i64 wt, .slice ca cn cc, .slice va vn vc].getD i (.bool false), ?_, rfl, rfl, rfl⟩, h.bc, h.bk, h.bs, ?_, ((((Below.refl _ _).alloc h.bs _).alloc (by simp; have := h.bs; omega) _).alloc (by simp; have := h.bs; omega) _)⟩
  · have := (World.rowIs_alloc (w.alloc (.cells #[.int .u8 0, .int .i64 fr, .int .i64 0, .int .i64 vr, .string ⟨#[]⟩, .slice none 0 0, .int .i64 0, .slice none 0 0, .iface 61 (.agg #[.int .i64 wt, .slice ca cn cc, .slice va vn vc]), .bool false] 63)) #[.bool false, .bool false, .bool false, .bool false] 52 (fun i => #[.bool false, .bool false, .bool false, .bool false].getD i (.bool false)) (fun i hi => arr_getD (.bool false) hi)).alloc (.cells #[.int .i64 wt, .slice ca cn cc, .slice va vn vc] 61)
    simpa using this
  · have := (World.rowIs_alloc ((w.alloc (.cells #[.int .u8 0, .int .i64 fr, .int .i64 0, .int .i64 vr, .string ⟨#[]⟩, .slice none 0 0, .int .i64 0, .slice none 0 0, .iface 61 (.agg #[.int .i64 wt, .slice ca cn cc, .slice va vn vc]), .bool false] 63)).alloc (.cells #[.bool false, .bool false, .bool false, .bool false] 52)) #[.int .i64 wt, .slice ca cn cc, .slice va vn vc] 61 (fun i => #[.int .i64 wt, .slice ca cn cc, .slice va vn vc].getD i (.bool false)) (fun i hi => arr_getD (.bool false) hi))
    simpa using this
  · have := h.bs; simp; omega

/-- The numbers when the first k entries of the column have been taken in. -/
def rz (K : List Int) (V vr : Nat) (cx : List Int) : Nat → List Int
  | 0 => K
  | k + 1 => (rz K V vr cx k).set (k * V + vr) (max ((rz K V vr cx k).getD (k * V + vr) 0) (cx.getD k 0))

theorem rz_len (K : List Int) (V vr : Nat) (cx : List Int) (k : Nat) : (rz K V vr cx k).length = K.length := by
  induction k with
  | zero => rfl
  | succ k ih => simp [rz, ih]

/-- What Apply gives back. -/
structure ApOut (base c kb n V : Nat) (ps : List Pc) (K : List Int) (w : World) (e : Ending) (w' : World) : Prop where
  ex : e = .returned (.agg #[.bool false, .bool false, .bool false, .bool false]) ∧ CB base c kb n V w' ps K ∧ Below base w w'

set_option maxRecDepth 100000 in
set_option maxHeartbeats 2000000 in
theorem apply_any (base c kb n V : Nat) (fr wt : Int) (vr : Nat) (ca : Option Addr) (cn cc : Nat) (cxs : List Int) (va : Option Addr) (vn vc m : Nat) (ts : List Int) (w wB : World) (ps qs : List Pc) (K : List Int)
    (hcb : CB base c kb n V w ps K) (hbar : w.ownsRow base 42 3 (.slice va vn vc) m (ts.map (Value.int .i64))) (hn : n ≤ 1000000) (hcn : cn ≤ 1000000) (hps : ps.length ≤ 1000000)
    (hq : ∀ p ∈ qs, p ∈ ps) (hql : qs.length ≤ ps.length) (hk : ∀ k, k < cn → k * V + vr < n) (t : IS wB ca cn cc cxs) (hB : wB.heap.size ≤ base) (hBw : Below base wB w)
    (HD : ∀ (W : World) (pv : Value) (bb : Nat), W.ownsRow base 46 4 pv ps.length (flat ps) → Sts W base ps → W.cell? ⟨bb, 2, none⟩ = some (.slice va vn vc) → W.ownsRow base 42 3 (.slice va vn vc) m (ts.map (Value.int .i64)) →
      Calls Try.prog 26 #[pv, .func (.func 27) #[] #[.pointer (some ⟨bb, 0, none⟩)]] W (DelOut base pv qs W)) :
    Calls Try.prog 24 #[.pointer (some ⟨c, 0, none⟩), arrival fr wt vr ca cn cc (.slice va vn vc)] w (ApOut base c kb n V (qs ++ [⟨fr, wt, vr, .slice va vn vc, m, ts⟩]) (rz K V vr cxs cn) w) := by
  obtain ⟨pv, A1⟩ := AP.start (fr := fr) (wt := wt) (vr := vr) (ca := ca) (cn := cn) (cc := cc) hcb hbar
  obtain ⟨pa, pn, pc, rfl⟩ := own_slice A1.own
  have HA1 : Hid _ := A1
  have HT : Hid (IS wB ca cn cc cxs) := t
  have HK : Hid (∀ k, k < cn → k * V + vr < n) := hk
  have HQ : Hid (∀ p ∈ qs, p ∈ ps) := hq
  have HBw : Hid (Below base wB w) := hBw
  have HDD : Hid (∀ (W : World) (pv : Value) (bb : Nat), W.ownsRow base 46 4 pv ps.length (flat ps) → Sts W base ps → W.cell? ⟨bb, 2, none⟩ = some (.slice va vn vc) → W.ownsRow base 42 3 (.slice va vn vc) m (ts.map (Value.int .i64)) →
      Calls Try.prog 26 #[pv, .func (.func 27) #[] #[.pointer (some ⟨bb, 0, none⟩)]] W (DelOut base pv qs W)) := HD
  have c6 := A1.c6
  clear hcb hbar t hk hq hBw HD A1
  unfold arrival
  have hta := assert61
  have hmf := mkf
  go_enter Try.func24, Try.ntmps24
  go_wp2_with fail
  refine (HDD.out _ _ _ HA1.out.own HA1.out.st HA1.out.cbv HA1.out.bar).mono ?_
  rintro e w2 ⟨⟨v2, rfl, hown2, hg2⟩⟩
  obtain ⟨qa, qn, qc, rfl⟩ := own_slice hown2
  obtain ⟨f2, hm2⟩ := HA1.out.mid hg2
  have hst2 : Sts w2 base qs := fun p hp => HA1.out.st.kept HA1.out.own (by decide) hg2 p (HQ.out p hp)
  have A3 := HA1.out.grow hg2 hown2 hst2
  have k6 := hm2.cell (i := 6) (by decide)
  have z6 := hm2.frozen 6
  clear hg2 hown2 hst2 c6 hm2
  go_wp2_with fail
  obtain ⟨W3, hW3⟩ : ∃ W3, W3 = w2.setCell ⟨c, 6, none⟩ (.slice qa qn qc) := ⟨_, rfl⟩
  rw [← hW3] at A3 ⊢
  clear hW3 k6 z6
  have HA3 : Hid _ := A3
  have k6 := A3.c6
  have kfr := A3.cfr
  have kvr := A3.cvr
  have kwt := A3.cwt
  have kbv := A3.cbv
  have hA4 : Below W3.heap.size W3 ((W3.alloc (.cells #[.int .i64 fr, .int .i64 wt, .int .i64 vr, .slice va vn vc] 46)).drew) := ((Below.refl _ _).alloc (Nat.le_refl _) _).drew
  have A4 := A3.below hA4
  have k6b : (W3.alloc (.cells #[.int .i64 fr, .int .i64 wt, .int .i64 vr, .slice va vn vc] 46)).cell? ⟨c, 6, none⟩ = some (.slice qa qn qc) := A4.c6
  have HA4 : Hid _ := A4
  obtain ⟨i0, hi, hz0, hz1, hz2⟩ := info_parts info46
  have hbs3 := A3.bs
  clear A3 A4 hA4
  refine wp_region_held_drew (S := fun w' => w'.cell? ⟨w.heap.size, 1, none⟩ = some (.int .i64 fr) ∧ w'.cell? ⟨w.heap.size, 3, none⟩ = some (.int .i64 vr) ∧ w'.cell? ⟨w.heap.size + 1 + 1, 0, none⟩ = some (.int .i64 wt) ∧ w'.cell? ⟨w.heap.size + 1 + 1, 2, none⟩ = some (.slice va vn vc)) (by kernel_rfl) ⟨kfr, kvr, kwt, kbv⟩ (fun hHeld => ?_)
  refine wpAnyH_take (i := 0) (oi := _) (v := ?_) rfl (by kernel_rfl) (by kernel_rfl) (by kernel_rfl) (fun _ _ _ h => h) (Or.inl ⟨by rfl, ?_⟩) (by assumption) ?_
  rotate_left
  · ((intro w hSw; (try dsimp only at hSw); go_simp) <;> with_reducible rfl)
  simp only [Act.put, List.setIfInBounds_toArray, List.set_cons_zero, List.set_cons_succ, List.getElem_toArray, List.getElem_cons_zero]
  refine wpAnyH_take (i := 1) (oi := _) (v := ?_) rfl (by kernel_rfl) (by kernel_rfl) (by kernel_rfl) (fun _ _ _ h => h) (Or.inl ⟨by rfl, ?_⟩) (by assumption) ?_
  rotate_left
  · ((intro w hSw; (try dsimp only at hSw); go_simp) <;> with_reducible rfl)
  simp only [Act.put, List.setIfInBounds_toArray, List.set_cons_zero, List.set_cons_succ, List.getElem_toArray, List.getElem_cons_succ, List.getElem_cons_zero]
  refine wpAnyH_take (i := 2) (oi := _) (v := ?_) rfl (by kernel_rfl) (by kernel_rfl) (by kernel_rfl) (fun _ _ _ h => h) (Or.inl ⟨by rfl, ?_⟩) (by assumption) ?_
  rotate_left
  · ((intro w hSw; (try dsimp only at hSw); go_simp) <;> with_reducible rfl)
  simp only [Act.put, List.setIfInBounds_toArray, List.set_cons_zero, List.set_cons_succ, List.getElem_toArray, List.getElem_cons_succ, List.getElem_cons_zero]
  refine wpAnyH_take (i := 3) (oi := _) (v := ?_) rfl (by kernel_rfl) (by kernel_rfl) (by kernel_rfl) (fun _ _ _ h => h) (Or.inl ⟨by rfl, ?_⟩) (by assumption) ?_
  rotate_left
  · ((intro w hSw; (try dsimp only at hSw); go_simp) <;> with_reducible rfl)
  simp only [Act.put, List.setIfInBounds_toArray, List.set_cons_zero, List.set_cons_succ, List.getElem_toArray, List.getElem_cons_succ, List.getElem_cons_zero]
  refine wpAnyH_take (i := 5) (oi := _) (v := ?_) rfl (by kernel_rfl) (by kernel_rfl) (by kernel_rfl) (fun _ _ _ h => h) (Or.inl ⟨by rfl, ?_⟩) (by assumption) ?_
  rotate_left
  · ((intro w hSw; (try dsimp only at hSw); go_simp) <;> with_reducible rfl)
  simp only [Act.put, List.setIfInBounds_toArray, List.set_cons_zero, List.set_cons_succ, List.getElem_toArray, List.getElem_cons_succ, List.getElem_cons_zero]
  refine wpAnyH_take (i := 6) (oi := _) (v := ?_) rfl (by kernel_rfl) (by kernel_rfl) (by kernel_rfl) (fun _ _ _ h => h) (Or.inl ⟨by rfl, ?_⟩) (by assumption) ?_
  rotate_left
  · ((intro w hSw; (try dsimp only at hSw); go_simp) <;> with_reducible rfl)
  simp only [Act.put, List.setIfInBounds_toArray, List.set_cons_zero, List.set_cons_succ, List.getElem_toArray, List.getElem_cons_succ, List.getElem_cons_zero]
  refine wpAnyH_take (i := 7) (oi := _) (v := ?_) rfl (by kernel_rfl) (by kernel_rfl) (by kernel_rfl) (fun _ _ _ h => h) (Or.inl ⟨by rfl, ?_⟩) (by assumption) ?_
  rotate_left
  · ((intro w hSw; (try dsimp only at hSw); go_simp) <;> with_reducible rfl)
  simp only [Act.put, List.setIfInBounds_toArray, List.set_cons_zero, List.set_cons_succ, List.getElem_toArray, List.getElem_cons_succ, List.getElem_cons_zero]
  refine wpAnyH_take (i := 8) (oi := _) (v := ?_) rfl (by kernel_rfl) (by kernel_rfl) (by kernel_rfl) (fun _ _ _ h => h) (Or.inl ⟨by rfl, ?_⟩) (by assumption) ?_
  rotate_left
  · ((intro w hSw; (try dsimp only at hSw); go_simp) <;> with_reducible rfl)
  simp only [Act.put, List.setIfInBounds_toArray, List.set_cons_zero, List.set_cons_succ, List.getElem_toArray, List.getElem_cons_succ, List.getElem_cons_zero]
  refine wpAnyH_take (i := 9) (oi := _) (v := ?_) rfl (by kernel_rfl) (by kernel_rfl) (by kernel_rfl) (fun _ _ _ h => h) (Or.inl ⟨by rfl, ?_⟩) (by assumption) ?_
  rotate_left
  · ((intro w hSw; (try dsimp only at hSw); go_simp) <;> with_reducible rfl)
  simp only [Act.put, List.setIfInBounds_toArray, List.set_cons_zero, List.set_cons_succ, List.getElem_toArray, List.getElem_cons_succ, List.getElem_cons_zero]
  refine wpAnyH_take (i := 10) (oi := _) (v := ?_) rfl (by kernel_rfl) (by kernel_rfl) (by kernel_rfl) (fun _ _ _ h => h) (Or.inl ⟨by rfl, ?_⟩) (by assumption) ?_
  rotate_left
  · ((intro w hSw; (try dsimp only at hSw); go_simp) <;> with_reducible rfl)
  simp only [Act.put, List.setIfInBounds_toArray, List.set_cons_zero, List.set_cons_succ, List.getElem_toArray, List.getElem_cons_succ, List.getElem_cons_zero]
  refine wpAnyH_take (i := 11) (oi := _) (v := ?_) rfl (by kernel_rfl) (by kernel_rfl) (by kernel_rfl) (fun _ _ _ h => h) (Or.inl ⟨by rfl, ?_⟩) (by assumption) ?_
  rotate_left
  · ((intro w hSw; (try dsimp only at hSw); go_simp) <;> with_reducible rfl)
  simp only [Act.put, List.setIfInBounds_toArray, List.set_cons_zero, List.set_cons_succ, List.getElem_toArray, List.getElem_cons_succ, List.getElem_cons_zero]
  refine wpAnyH_take (i := 12) (oi := _) (v := ?_) rfl (by kernel_rfl) (by kernel_rfl) (by kernel_rfl) (fun _ _ _ h => h) (Or.inl ⟨by rfl, ?_⟩) (by assumption) ?_
  rotate_left
  · ((intro w hSw; (try dsimp only at hSw); go_simp) <;> with_reducible rfl)
  simp only [Act.put, List.setIfInBounds_toArray, List.set_cons_zero, List.set_cons_succ, List.getElem_toArray, List.getElem_cons_succ, List.getElem_cons_zero]
  refine wpAnyH_take (i := 13) (oi := _) (v := ?_) rfl (by kernel_rfl) (by kernel_rfl) (by kernel_rfl) (fun _ _ _ h => h) (Or.inl ⟨by rfl, ?_⟩) (by assumption) ?_
  rotate_left
  · ((intro w hSw; (try dsimp only at hSw); go_simp) <;> with_reducible rfl)
  simp only [Act.put, List.setIfInBounds_toArray, List.set_cons_zero, List.set_cons_succ, List.getElem_toArray, List.getElem_cons_succ, List.getElem_cons_zero]
  refine wpAnyH_take (i := 14) (oi := _) (v := ?_) rfl (by kernel_rfl) (by kernel_rfl) (by kernel_rfl) (fun _ _ _ h => h) (Or.inl ⟨by rfl, ?_⟩) (by assumption) ?_
  rotate_left
  · ((intro w hSw; (try dsimp only at hSw); go_simp) <;> with_reducible rfl)
  simp only [Act.put, List.setIfInBounds_toArray, List.set_cons_zero, List.set_cons_succ, List.getElem_toArray, List.getElem_cons_succ, List.getElem_cons_zero]
  refine wpAnyH_take (i := 15) (oi := _) (v := ?_) rfl (by kernel_rfl) (by kernel_rfl) (by kernel_rfl) (fun _ _ _ h => h) (Or.inl ⟨by rfl, ?_⟩) (by assumption) ?_
  rotate_left
  · ((intro w hSw; (try dsimp only at hSw); go_simp) <;> with_reducible rfl)
  simp only [Act.put, List.setIfInBounds_toArray, List.set_cons_zero, List.set_cons_succ, List.getElem_toArray, List.getElem_cons_succ, List.getElem_cons_zero]
  refine wpAnyH_take (i := 16) (oi := _) (v := ?_) rfl (by kernel_rfl) (by kernel_rfl) (by kernel_rfl) (fun _ _ _ h => h) (Or.inl ⟨by rfl, ?_⟩) (by assumption) ?_
  rotate_left
  · ((intro w hSw; (try dsimp only at hSw); go_simp) <;> with_reducible rfl)
  simp only [Act.put, List.setIfInBounds_toArray, List.set_cons_zero, List.set_cons_succ, List.getElem_toArray, List.getElem_cons_succ, List.getElem_cons_zero]
  refine wpAnyH_ready (rs := [4, 17]) (by kernel_rfl) (by simp) ?_
  refine AllReadyH.cons rfl (fun K hK => ?_) (AllReadyH.cons rfl (fun K hK => ?_) AllReadyH.nil)
  dsimp only [List.getElem_toArray, List.getElem_cons_succ, List.getElem_cons_zero]
  go_simp
  refine hK.out _ _ ⟨kfr, kvr, kwt, kbv⟩ (fun hHeld => ?_)
  clear hK K
  try simp only [Act.put, List.setIfInBounds_toArray, List.set_cons_zero, List.set_cons_succ, List.getElem_toArray, List.getElem_cons_succ, List.getElem_cons_zero]
  refine wpAnyH_ready (rs := [17]) (by kernel_rfl) (by simp) ?_
  refine AllReadyH.cons rfl (fun K hK => ?_) AllReadyH.nil
  dsimp only [List.getElem_toArray, List.getElem_cons_succ, List.getElem_cons_zero]
  go_simp
  refine hK.out _ _ ⟨HA4.out.cfr, HA4.out.cvr, HA4.out.cwt, HA4.out.cbv⟩ (fun hHeld => ?_)
  clear hK K
  try simp only [Act.put, List.setIfInBounds_toArray, List.set_cons_zero, List.set_cons_succ, List.getElem_toArray, List.getElem_cons_succ, List.getElem_cons_zero]
  refine wpAnyH_ready (rs := [18]) (by kernel_rfl) (by simp) ?_
  refine AllReadyH.cons rfl (fun K hK => ?_) AllReadyH.nil
  (refine step_append_lies _ (by rfl) _ _ _ (by rfl) base 46 i0 _ 4 48 Try.underlying40 hi hz0 hz1 hz2 rfl (by omega) (.slice qa qn qc) qs.length (flat qs) (by rfl) HA4.out.own
              ⟨W3.heap.size, 0, none⟩ 1 1 [.int .i64 fr, .int .i64 wt, .int .i64 vr, .slice va vn vc] (by rfl) (by rfl) (World.news_of_block (cs := #[.int .i64 fr, .int .i64 wt, .int .i64 vr, .slice va vn vc]) (t := 46) (fr := (0, 0)) (heap_alloc_new W3 _)) (by simp [Value.oneCell'])
              (by omega) (by unfold maxLen; omega) (by omega) (by simp; omega) (W3.heap.size + 1) (by simp) ?_)
  intro gg cap w5 hown5 hg5 hat hlt
  obtain ⟨f5, hm5⟩ := HA4.out.mid hg5
  have k65 := hm5.cell (i := 6) (by decide)
  have z65 := hm5.frozen 6
  obtain ⟨g63, g61⟩ := HA4.out.keep0 hg5
  have hS5 := And.intro (g63.1.trans HA4.out.cfr) (And.intro (g63.2.trans HA4.out.cvr) (And.intro (g61.1.trans HA4.out.cwt) (g61.2.trans HA4.out.cbv)))
  refine hK.out _ _ hS5 (fun hHeld => ?_)
  clear hK K
  try simp only [Act.put, List.setIfInBounds_toArray, List.set_cons_zero, List.set_cons_succ, List.getElem_toArray, List.getElem_cons_succ, List.getElem_cons_zero]
  refine wpAnyH_take (i := 19) (oi := _) (v := ?_) rfl (by kernel_rfl) (by kernel_rfl) (by kernel_rfl) (fun _ _ _ h => h) (Or.inl ⟨by rfl, ?_⟩) (by assumption) ?_
  rotate_left
  · ((intro w hSw; (try dsimp only at hSw); go_simp) <;> with_reducible rfl)
  simp only [Act.put, List.setIfInBounds_toArray, List.set_cons_zero, List.set_cons_succ, List.getElem_toArray, List.getElem_cons_succ, List.getElem_cons_zero]
  refine wpAnyH_take (i := 20) (oi := _) (v := ?_) rfl (by kernel_rfl) (by kernel_rfl) (by kernel_rfl) (fun _ _ _ h => h) (Or.inl ⟨by rfl, ?_⟩) (by assumption) ?_
  rotate_left
  · ((intro w hSw; (try dsimp only at hSw); go_simp) <;> with_reducible rfl)
  simp only [Act.put, List.setIfInBounds_toArray, List.set_cons_zero, List.set_cons_succ, List.getElem_toArray, List.getElem_cons_succ, List.getElem_cons_zero]
  refine wpAnyH_ready (rs := [21]) (by kernel_rfl) (by simp) ?_
  refine AllReadyH.cons rfl (fun K hK => ?_) AllReadyH.nil
  dsimp only [List.getElem_toArray, List.getElem_cons_succ, List.getElem_cons_zero]
  go_simp
  have hst5 : Sts w5 base (qs ++ [⟨fr, wt, vr, .slice va vn vc, m, ts⟩]) := fun p hp => by
    rcases List.mem_append.mp hp with hp | hp
    · exact HA4.out.st.kept HA4.out.own (by decide) hg5 p hp
    · rw [List.mem_singleton.mp hp]
      exact HA4.out.bar.kept hg5 (own_tags HA4.out.bar HA4.out.own (by decide))
  have A5 := HA4.out.grow hg5 (ps' := qs ++ [⟨fr, wt, vr, .slice va vn vc, m, ts⟩]) (by rw [List.length_append, flat_append]; exact hown5) hst5
  refine hK.out _ _ ⟨A5.cfr, A5.cvr, A5.cwt, A5.cbv⟩ (fun hHeld => ?_)
  clear hK K
  refine wpAnyH_done (by kernel_rfl) ?_ _
  clear hHeld hst5 hown5 hg5 hm5 k65 z65 k6 k6b kfr kvr kwt kbv HA4 HA3 hS5
  obtain ⟨W5, hW5⟩ : ∃ W5, W5 = w5.setCell ⟨c, 6, none⟩ (.slice (some ⟨gg, 0, none⟩) (qs.length + 1) cap) := ⟨_, rfl⟩
  rw [← hW5] at A5 ⊢
  clear hW5
  rotate_left
  dsimp only [List.getElem_toArray, List.getElem_cons_succ, List.getElem_cons_zero]
  go_simp
  refine hK.out _ _ ⟨HA4.out.cfr, HA4.out.cvr, HA4.out.cwt, HA4.out.cbv⟩ (fun hHeld => ?_)
  clear hK K
  try simp only [Act.put, List.setIfInBounds_toArray, List.set_cons_zero, List.set_cons_succ, List.getElem_toArray, List.getElem_cons_succ, List.getElem_cons_zero]
  refine wpAnyH_ready (rs := [4]) (by kernel_rfl) (by simp) ?_
  refine AllReadyH.cons rfl (fun K hK => ?_) AllReadyH.nil
  dsimp only [List.getElem_toArray, List.getElem_cons_succ, List.getElem_cons_zero]
  go_simp
  refine hK.out _ _ ⟨HA4.out.cfr, HA4.out.cvr, HA4.out.cwt, HA4.out.cbv⟩ (fun hHeld => ?_)
  clear hK K
  try simp only [Act.put, List.setIfInBounds_toArray, List.set_cons_zero, List.set_cons_succ, List.getElem_toArray, List.getElem_cons_succ, List.getElem_cons_zero]
  refine wpAnyH_ready (rs := [18]) (by kernel_rfl) (by simp) ?_
  refine AllReadyH.cons rfl (fun K hK => ?_) AllReadyH.nil
  (refine step_append_lies _ (by rfl) _ _ _ (by rfl) base 46 i0 _ 4 48 Try.underlying40 hi hz0 hz1 hz2 rfl (by omega) (.slice qa qn qc) qs.length (flat qs) (by rfl) HA4.out.own
              ⟨W3.heap.size, 0, none⟩ 1 1 [.int .i64 fr, .int .i64 wt, .int .i64 vr, .slice va vn vc] (by rfl) (by rfl) (World.news_of_block (cs := #[.int .i64 fr, .int .i64 wt, .int .i64 vr, .slice va vn vc]) (t := 46) (fr := (0, 0)) (heap_alloc_new W3 _)) (by simp [Value.oneCell'])
              (by omega) (by unfold maxLen; omega) (by omega) (by simp; omega) (W3.heap.size + 1) (by simp) ?_)
  intro gg cap w5 hown5 hg5 hat hlt
  obtain ⟨f5, hm5⟩ := HA4.out.mid hg5
  have k65 := hm5.cell (i := 6) (by decide)
  have z65 := hm5.frozen 6
  obtain ⟨g63, g61⟩ := HA4.out.keep0 hg5
  have hS5 := And.intro (g63.1.trans HA4.out.cfr) (And.intro (g63.2.trans HA4.out.cvr) (And.intro (g61.1.trans HA4.out.cwt) (g61.2.trans HA4.out.cbv)))
  refine hK.out _ _ hS5 (fun hHeld => ?_)
  clear hK K
  try simp only [Act.put, List.setIfInBounds_toArray, List.set_cons_zero, List.set_cons_succ, List.getElem_toArray, List.getElem_cons_succ, List.getElem_cons_zero]
  refine wpAnyH_take (i := 19) (oi := _) (v := ?_) rfl (by kernel_rfl) (by kernel_rfl) (by kernel_rfl) (fun _ _ _ h => h) (Or.inl ⟨by rfl, ?_⟩) (by assumption) ?_
  rotate_left
  · ((intro w hSw; (try dsimp only at hSw); go_simp) <;> with_reducible rfl)
  simp only [Act.put, List.setIfInBounds_toArray, List.set_cons_zero, List.set_cons_succ, List.getElem_toArray, List.getElem_cons_succ, List.getElem_cons_zero]
  refine wpAnyH_take (i := 20) (oi := _) (v := ?_) rfl (by kernel_rfl) (by kernel_rfl) (by kernel_rfl) (fun _ _ _ h => h) (Or.inl ⟨by rfl, ?_⟩) (by assumption) ?_
  rotate_left
  · ((intro w hSw; (try dsimp only at hSw); go_simp) <;> with_reducible rfl)
  simp only [Act.put, List.setIfInBounds_toArray, List.set_cons_zero, List.set_cons_succ, List.getElem_toArray, List.getElem_cons_succ, List.getElem_cons_zero]
  refine wpAnyH_ready (rs := [21]) (by kernel_rfl) (by simp) ?_
  refine AllReadyH.cons rfl (fun K hK => ?_) AllReadyH.nil
  dsimp only [List.getElem_toArray, List.getElem_cons_succ, List.getElem_cons_zero]
  go_simp
  have hst5 : Sts w5 base (qs ++ [⟨fr, wt, vr, .slice va vn vc, m, ts⟩]) := fun p hp => by
    rcases List.mem_append.mp hp with hp | hp
    · exact HA4.out.st.kept HA4.out.own (by decide) hg5 p hp
    · rw [List.mem_singleton.mp hp]
      exact HA4.out.bar.kept hg5 (own_tags HA4.out.bar HA4.out.own (by decide))
  have A5 := HA4.out.grow hg5 (ps' := qs ++ [⟨fr, wt, vr, .slice va vn vc, m, ts⟩]) (by rw [List.length_append, flat_append]; exact hown5) hst5
  refine hK.out _ _ ⟨A5.cfr, A5.cvr, A5.cwt, A5.cbv⟩ (fun hHeld => ?_)
  clear hK K
  refine wpAnyH_done (by kernel_rfl) ?_ _
  clear hHeld hst5 hown5 hg5 hm5 k65 z65 k6 k6b kfr kvr kwt kbv HA4 HA3 hS5
  obtain ⟨W5, hW5⟩ : ∃ W5, W5 = w5.setCell ⟨c, 6, none⟩ (.slice (some ⟨gg, 0, none⟩) (qs.length + 1) cap) := ⟨_, rfl⟩
  rw [← hW5] at A5 ⊢
  clear hW5
  all_goals
    have HA5 : Hid _ := A5
    have kcv := A5.ccv
    clear A5
    go_wp2_with fail
    go_loopw [45] (fun i wr => ∃ k : Nat, k ≤ cn ∧ i = .int .i64 k ∧ Hid (AP base c kb n w.heap.size V fr wt vr (.slice ca cn cc) (.slice va vn vc) m ts w wr (.slice (some ⟨gg, 0, none⟩) (qs.length + 1) cap) (qs ++ [⟨fr, wt, vr, .slice va vn vc, m, ts⟩]) (rz K V vr cxs k))) (fun i _ => cn - (intOf i).toNat)
    case atStart => exact ⟨0, by omega, rfl, HA5⟩
    case round =>
      obtain ⟨k, hk, rfl, HA⟩ := hrel
      clear HA5 kcv HA1
      by_cases hlt : k < cn
      · obtain ⟨cb, co, hca, hcb, hcc⟩ : ∃ cb co, ca = some ⟨cb, co, none⟩ ∧ cb < wB.heap.size ∧ wB.cell? ⟨cb, co + k, none⟩ = some (.int .i64 (cxs.getD k 0)) := by
          rcases HT.out.lies with e | ⟨b, o, e, h1, h2⟩
          · omega
          · exact ⟨b, o, e, h1, h2 k hlt⟩
        subst hca
        have hck : wr.cell? ⟨cb, co + k, none⟩ = some (.int .i64 (cxs.getD k 0)) := ((HBw.out.trans HA.out.bel).cell (p := ⟨cb, co + k, none⟩) (Nat.lt_of_lt_of_le hcb hB)).trans hcc
        have kvr := HA.out.cvr
        have hkb := HK.out k hlt
        obtain ⟨f, hf, ff2, _, ff7⟩ := HA.out.row
        have kkn := HA.out.known.cell (i := k * V + vr) hkb
        have zkn := HA.out.known.frozen (k * V + vr)
        have HZ : Hid (rz K V vr cxs (k + 1) = (rz K V vr cxs k).set (k * V + vr) (max ((rz K V vr cxs k).getD (k * V + vr) 0) (cxs.getD k 0))) := rfl
        have HHi := highest_any wr c kb n f V k vr hf ff2 ff7 hkb hn
        clear hcc hf ff2 ff7
        generalize cxs.getD k 0 = x at *
        generalize (rz K V vr cxs k).getD (k * V + vr) 0 = y at *
        generalize k * V + vr = ix at *
        go_wp2_with fail
        refine HHi.mono ?_
        rintro e w6 ⟨⟨rfl, q, rfl⟩⟩
        clear HHi
        go_wp2_with fail
        refine ⟨⟨k + 1, by omega, by go_num, ?_⟩, by simp [intOf]; omega⟩
        have emax : (if y < x then x else y) = max y x := by
          rw [Int.max_def]; split <;> split <;> omega
        rw [emax, HZ.out]
        exact (HA.out.below (below_drewN (Below.refl _ _) q)).raise ix _ hkb
      · obtain rfl : k = cn := by omega
        obtain ⟨f52, h52⟩ := HA.out.r52
        have y0 := h52.cell (i := 0) (by decide)
        have y1 := h52.cell (i := 1) (by decide)
        have y2 := h52.cell (i := 2) (by decide)
        have y3 := h52.cell (i := 3) (by decide)
        have t0 := h52.frozen 0
        have t1 := h52.frozen 1
        have t2 := h52.frozen 2
        have t3 := h52.frozen 3
        have h52' := (((h52.set 0 (.bool false)).set 1 (.bool false)).set 2 (.bool false)).set 3 (.bool false)
        have j0 := h52'.cell (i := 0) (by decide)
        have j1 := h52'.cell (i := 1) (by decide)
        have j2 := h52'.cell (i := 2) (by decide)
        have j3 := h52'.cell (i := 3) (by decide)
        have AF := (((HA.out.w52 0 (.bool false)).w52 1 (.bool false)).w52 2 (.bool false)).w52 3 (.bool false)
        clear h52 h52'
        go_wp2_with fail
        have HF : Hid (ApOut base c kb n V (qs ++ [⟨fr, wt, vr, .slice va vn vc, m, ts⟩]) (rz K V vr cxs k) w (.returned (.agg #[.bool false, .bool false, .bool false, .bool false])) _) := ⟨rfl, AF.toCB, AF.bel⟩
        clear AF HA
        refine bodyPost_ret (v := .agg #[.bool false, .bool false, .bool false, .bool false]) ?_ rfl HF.out
        simp [results, Try.results24, go_sem, j0, j1, j2, j3]
end Go.Proofs.Qxb6613363a
