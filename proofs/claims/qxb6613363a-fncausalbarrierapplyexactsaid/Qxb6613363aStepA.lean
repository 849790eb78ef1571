/-
  The steps of the laws.
-/
import Derived.Test.Qxb6613363aOutA
import Derived.Test.Qxb6613363aReadA
namespace Go.Proofs.Qxb6613363a
open Go.RowKit Go.Deep

theorem IS.nil0 (w : World) : IS w none 0 0 [] := ⟨rfl, Nat.le_refl _, by omega, fun _ => rfl, .inl rfl⟩

theorem wordsTo_get (rs : List Rw) (k : Nat) (hk : k ≤ rs.length) : ∀ i (h : i < k), (rs[i]'(by omega)).n ≤ wordsTo rs k := by
  induction k with
  | zero => intro i h; omega
  | succ k ih =>
    intro i h
    rw [wordsTo_succ rs k (by omega)]
    by_cases e : i = k
    · subst e; omega
    · have := ih (by omega) i (by omega); omega

theorem wordsTo_mem {rs : List Rw} {n : Nat} (hn : rs.length = n) {r : Rw} (h : r ∈ rs) : r.n ≤ wordsTo rs n := by
  obtain ⟨i, hi, rfl⟩ := List.getElem_of_mem h
  exact wordsTo_get rs n (by omega) i (by omega)

/-- The clone and ZZNewCausalBarrier make a barrier. -/
theorem CB.make {w w1 w2 : World} {n V : Nat} {ks : List Int} {rs : List Rw} {e : Ending} (hl : ks.length = n) (hrow : w1.rowIs w.heap.size 3 n (fun j => .int .i64 (ks.getD j 0))) (hb : Below w.heap.size w w1)
    (h : NewOut rs V (.slice (some ⟨w.heap.size, 0, none⟩) n n) w1 e w2) : ∃ c ps, e = .returned (.pointer (some ⟨c, 0, none⟩)) ∧ CB w.heap.size c w.heap.size n V w2 ps ks ∧ ps.map Pc.row = rs.map Rw.xs ∧ Below w.heap.size w w2 := by
  obtain ⟨c, ps, pv, f, he, hc, hps, hf, f2, f6, f7, ho, hs, hb2⟩ := h.ex
  refine ⟨c, ps, he, ⟨⟨f, pv, hf, f2, f6, f7, World.ownsRow.mono ho hb.size⟩, hs.mono hb.size, hl, row_kept hrow (below_grown hb2 none) (by simp), Nat.le_trans hb.size hc, Nat.le_refl _, Nat.le_trans hb.size hb2.size⟩, hps, hb.trans (hb2.mono hb.size)⟩

/-- Of rows that can be read, each barrier's length. -/
theorem stamps_small {w : World} {base : Nat} {ps : List Pc} (hs : Sts w base ps) (h : ∀ p ∈ ps, p.row.length ≤ 1000000) : ∀ p ∈ ps, p.m ≤ 1000000 := fun p hp => by
  have h1 := (hs p hp).1
  have h2 := h p hp
  rw [List.length_map] at h1
  simp [Pc.row] at h2
  omega

/-- ZZApply with no barrier: nothing is deleted. -/
theorem zzapply_nil (base c kb n V : Nat) (fr wt : Int) (vr : Nat) (ca : Option Addr) (cn cc : Nat) (cxs : List Int) (w wB : World) (ps : List Pc) (K : List Int)
    (hcb : CB base c kb n V w ps K) (hn : n ≤ 1000000) (hcn : cn ≤ 1000000) (hps : ps.length ≤ 1000000) (hk : ∀ k, k < cn → k * V + vr < n) (tc : IS wB ca cn cc cxs) (hB : wB.heap.size ≤ base) (hBw : Below base wB w) :
    Calls Try.prog 12 #[.pointer (some ⟨c, 0, none⟩), .int .i64 fr, .int .i64 wt, .int .i64 vr, .slice ca cn cc, .slice none 0 0] w (ZaOut base c kb n V ps fr wt vr [] (rz K V vr cxs cn) w) :=
  zzapply_any base c kb n V fr wt vr ca cn cc cxs none 0 0 [] w wB ps ps K hcb (IS.nil0 w) rfl (by omega) hn hcn hps (fun _ h => h) (Nat.le_refl _) hk tc hB hBw
    (fun W pv bb va vn vc m hm g1 g2 g3 g4 => by
      obtain rfl : m = 0 := by omega
      exact delete_none pv ps bb (.slice va vn vc) 0 base [] W g1 g2 hps g3 g4 (by omega) (fun p _ => rfl))
end Go.Proofs.Qxb6613363a
