/-
  ZZApply, ZZKnown.
-/
import Derived.Test.Qxb6613363aApB
namespace Go.Proofs.Qxb6613363a
open Go.RowKit Go.Deep

theorem CB.below {base c kb n V : Nat} {w w1 : World} {ps : List Pc} {K : List Int} (h : CB base c kb n V w ps K) (hb : Below w.heap.size w w1) : CB base c kb n V w1 ps K := by
  obtain ⟨f, pv, hf, f2, f6, f7, ho⟩ := h.row
  have g := below_grown hb none
  exact ⟨⟨f, pv, row_kept hf g (by simp), f2, f6, f7, own_below ho hb⟩, h.st.below hb, h.kl, row_kept h.known g (by simp), h.bc, h.bk, Nat.le_trans h.bs hb.size⟩

/-- What ZZApply gives back. -/
structure ZaOut (base c kb n V : Nat) (qs : List Pc) (fr wt : Int) (vr : Nat) (ts : List Int) (K : List Int) (w : World) (e : Ending) (w' : World) : Prop where
  ex : ∃ v m, e = .returned (.tuple #[.bool false, .bool false, .bool false, .bool false]) ∧ CB base c kb n V w' (qs ++ [⟨fr, wt, vr, v, m, ts⟩]) K ∧ Below base w w'

set_option maxRecDepth 100000 in
set_option maxHeartbeats 1000000 in
theorem zzapply_any (base c kb n V : Nat) (fr wt : Int) (vr : Nat) (ca : Option Addr) (cn cc : Nat) (cxs : List Int) (a : Option Addr) (nb cp : Nat) (ts : List Int) (w wB : World) (ps qs : List Pc) (K : List Int)
    (hcb : CB base c kb n V w ps K) (t : IS w a nb cp ts) (h3 : nb % 3 = 0) (hnb : nb ≤ 1000000) (hn : n ≤ 1000000) (hcn : cn ≤ 1000000) (hps : ps.length ≤ 1000000)
    (hq : ∀ p ∈ qs, p ∈ ps) (hql : qs.length ≤ ps.length) (hk : ∀ k, k < cn → k * V + vr < n) (tc : IS wB ca cn cc cxs) (hB : wB.heap.size ≤ base) (hBw : Below base wB w)
    (HD : ∀ (W : World) (pv : Value) (bb : Nat) (va : Option Addr) (vn vc m : Nat), nb = 3 * m → W.ownsRow base 46 4 pv ps.length (flat ps) → Sts W base ps → W.cell? ⟨bb, 2, none⟩ = some (.slice va vn vc) → W.ownsRow base 42 3 (.slice va vn vc) m (ts.map (Value.int .i64)) →
      Calls Try.prog 26 #[pv, .func (.func 27) #[] #[.pointer (some ⟨bb, 0, none⟩)]] W (DelOut base pv qs W)) :
    Calls Try.prog 12 #[.pointer (some ⟨c, 0, none⟩), .int .i64 fr, .int .i64 wt, .int .i64 vr, .slice ca cn cc, .slice a nb cp] w (ZaOut base c kb n V qs fr wt vr ts (rz K V vr cxs cn) w) := by
  have HCB : Hid (CB base c kb n V w ps K) := hcb
  have HS := stamps_any a nb cp ts w t h3 hnb
  have HA : Hid (∀ (w1 : World) (va : Option Addr) (vn vc m : Nat), nb = 3 * m → CB base c kb n V w1 ps K → Below base w w1 → w1.ownsRow base 42 3 (.slice va vn vc) m (ts.map (Value.int .i64)) →
      Calls Try.prog 24 #[.pointer (some ⟨c, 0, none⟩), arrival fr wt vr ca cn cc (.slice va vn vc)] w1 (ApOut base c kb n V (qs ++ [⟨fr, wt, vr, .slice va vn vc, m, ts⟩]) (rz K V vr cxs cn) w1)) := fun w1 va vn vc m hm h1 hb1 hbar =>
    apply_any base c kb n V fr wt vr ca cn cc cxs va vn vc m ts w1 wB ps qs K h1 hbar hn hcn hps hq hql hk tc hB (hBw.trans hb1) (fun W pv bb g1 g2 g3 g4 => HD W pv bb va vn vc m hm g1 g2 g3 g4)
  clear hcb t hq hk tc hBw HD
  go_enter Try.func12, Try.ntmps12
  go_wp2_with fail
  refine HS.mono ?_
  rintro e w1 ⟨⟨v, m, rfl, hm, hov, hb1⟩⟩
  obtain ⟨va, vn, vc, rfl⟩ := own_slice hov
  have hb2 : Below base w w1 := hb1.mono HCB.out.bs
  have HCalls := HA.out w1 va vn vc m hm (HCB.out.below hb1) hb2 (World.ownsRow.mono hov HCB.out.bs)
  clear HS hm hov hb1
  go_wp2_with fail
  refine HCalls.mono ?_
  rintro e w2 ⟨⟨rfl, hcb2, hb3⟩⟩
  clear HCalls
  have HF : Hid (CB base c kb n V w2 (qs ++ [⟨fr, wt, vr, .slice va vn vc, m, ts⟩]) (rz K V vr cxs cn)) := hcb2
  have hb4 := hb2.trans hb3
  have hbs := hcb2.bs
  clear hcb2
  go_wp2_with fail
  go_quiet (fail)
  go_wp2_with fail
  refine bodyPost_ret (v := .tuple #[.bool false, .bool false, .bool false, .bool false]) (by simp [results, Try.results12, go_sem]) rfl ?_
  have hb5 : Below w2.heap.size w2 ((w2.alloc (.cells #[.bool false, .bool false, .bool false, .bool false] 52)).drewN nq) := below_drewN ((Below.refl _ _).alloc (Nat.le_refl _) _) nq
  exact ⟨_, _, rfl, HF.out.below hb5, hb4.trans (hb5.mono hbs)⟩

/-- ZZKnown hands out the numbers' slice. -/
theorem known_any (base c kb n V : Nat) (w : World) (ps : List Pc) (K : List Int) (h : CB base c kb n V w ps K) :
    Calls Try.prog 18 #[.pointer (some ⟨c, 0, none⟩)] w fun e w' => e = .returned (.slice (some ⟨kb, 0, none⟩) n n) ∧ w' = w := by
  obtain ⟨f, pv, hf, f2, f6, f7, ho⟩ := h.row
  have c7 : w.cell? ⟨c, 7, none⟩ = some (.slice (some ⟨kb, 0, none⟩) n n) := (hf.cell (i := 7) (by decide)).trans (by rw [f7])
  clear h hf f2 f6 f7 ho
  go_enter Try.func18, Try.ntmps18
  go_wp2
  go_ret
  exact ⟨rfl, rfl⟩

/-- The numbers can be read. -/
theorem CB.is {base c kb n V : Nat} {w : World} {ps : List Pc} {K : List Int} (h : CB base c kb n V w ps K) (hn : n ≤ 1000000) : IS w (some ⟨kb, 0, none⟩) n n K := by
  refine ⟨h.kl, Nat.le_refl _, by omega, fun e => (by cases e), .inr ⟨kb, 0, rfl, h.known.lt, fun i hi => ?_⟩⟩
  rw [Nat.zero_add]
  exact h.known.cell hi
end Go.Proofs.Qxb6613363a
