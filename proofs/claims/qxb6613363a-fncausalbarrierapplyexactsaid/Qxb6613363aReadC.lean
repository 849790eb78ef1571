/-
  The reader zzKnownRaised.
-/
import Derived.Test.Qxb6613363aReadB
namespace Go.Proofs.Qxb6613363a
open Go.RowKit

/-- One raise: the old number v, raised to the column's entry for site k where the variable x is xj. -/
def raise1 (x : Nat) (k : Nat) (xj : Int) (col : List Int) (v : Int) : Int :=
  if (x : Int) = xj ∧ k < col.length ∧ v < col.getD k 0 then col.getD k 0 else v
/-- What zzKnownRaised wants at cell i. -/
def want (V : Nat) (x1 : Int) (c1 : List Int) (x2 : Int) (c2 : List Int) (old : List Int) (i : Nat) : Int :=
  raise1 (i % V) (i / V) x2 c2 (raise1 (i % V) (i / V) x1 c1 (old.getD i 0))

/-- The four ways of one raise, as the walk meets them. -/
theorem raise_ways (w : World) (r q : Nat) (xj : Int) (a : Option Addr) (n c : Nat) (col : List Int) (t : IS w a n c col) (v : Int) :
    (((r : Int) == xj) = false ∧ raise1 r q xj col v = v) ∨
    (((r : Int) == xj) = true ∧ n ≤ q ∧ raise1 r q xj col v = v) ∨
    (((r : Int) == xj) = true ∧ q < n ∧ ∃ b o y, a = some ⟨b, o, none⟩ ∧ w.cell? ⟨b, o + q, none⟩ = some (.int .i64 y) ∧ y ≤ v ∧ raise1 r q xj col v = v) ∨
    (((r : Int) == xj) = true ∧ q < n ∧ ∃ b o y, a = some ⟨b, o, none⟩ ∧ w.cell? ⟨b, o + q, none⟩ = some (.int .i64 y) ∧ v < y ∧ raise1 r q xj col v = y) := by
  have hl := t.len
  unfold raise1
  rw [hl]
  by_cases h1 : (r : Int) = xj
  · have e1 : ((r : Int) == xj) = true := beq_iff_eq.2 h1
    by_cases h2 : q < n
    · obtain ⟨b, o, e, _, hc⟩ : ∃ b o, a = some ⟨b, o, none⟩ ∧ b < w.heap.size ∧ ∀ i, i < n → w.cell? ⟨b, o + i, none⟩ = some (.int .i64 (col.getD i 0)) := by
        rcases t.lies with e | e
        · omega
        · exact e
      by_cases h3 : v < col.getD q 0
      · exact .inr (.inr (.inr ⟨e1, h2, b, o, _, e, hc _ h2, h3, by rw [if_pos ⟨h1, h2, h3⟩]⟩))
      · exact .inr (.inr (.inl ⟨e1, h2, b, o, _, e, hc _ h2, by omega, by rw [if_neg (fun h => h3 h.2.2)]⟩))
    · exact .inr (.inl ⟨e1, by omega, by rw [if_neg (fun h => h2 h.2.1)]⟩)
  · exact .inl ⟨beq_eq_false_iff_ne.2 h1, by rw [if_neg (fun h => h1 h.1)]⟩

set_option maxHeartbeats 4000000 in
theorem knownRaised_any (ag ao a1 a2 : Option Addr) (n cg co n1 c1 n2 c2 V : Nat) (x1 x2 : Int) (gs os col1 col2 : List Int) (w : World) (hV : 0 < V) (hVm : V ≤ 9223372036854775807)
    (tg : IS w ag n cg gs) (to : IS w ao n co os) (t1 : IS w a1 n1 c1 col1) (t2 : IS w a2 n2 c2 col2) (hw : ∀ i, i < n → gs.getD i 0 = want V x1 col1 x2 col2 os i) :
    Calls Try.prog 17 #[.slice ag n cg, .slice ao n co, .int .i64 V, .int .i64 x1, .slice a1 n1 c1, .int .i64 x2, .slice a2 n2 c2] w fun e w' => e = .returned (.bool true) ∧ w' = w := by
  have hcap := to.cap
  have hmax := to.max
  have hcap1 := t1.cap
  have hmax1 := t1.max
  have hcap2 := t2.cap
  have hmax2 := t2.max
  have TG : Hid (IS w ag n cg gs) := tg
  have TO : Hid (IS w ao n co os) := to
  have T1 : Hid (IS w a1 n1 c1 col1) := t1
  have T2 : Hid (IS w a2 n2 c2 col2) := t2
  have HW : Hid (∀ i, i < n → gs.getD i 0 = want V x1 col1 x2 col2 os i) := hw
  clear tg to t1 t2 hw
  go_enter Try.func17, Try.ntmps17
  go_wp2
  go_loop [15] (fun i => ∃ k : Nat, k ≤ n ∧ i = .int .i64 k) (fun i => n - (intOf i).toNat)
  case atStart => exact ⟨0, by omega, rfl⟩
  case round =>
    obtain ⟨k, hk, rfl⟩ := hrel
    by_cases hlt : k < n
    · obtain ⟨bg, og, rfl, hg⟩ : ∃ b o, ag = some ⟨b, o, none⟩ ∧ w.cell? ⟨b, o + k, none⟩ = some (.int .i64 (gs.getD k 0)) := by
        rcases TG.out.lies with e | ⟨b, o, e, _, h⟩
        · omega
        · exact ⟨b, o, e, h k hlt⟩
      obtain ⟨bo, oo, rfl, ho⟩ : ∃ b o, ao = some ⟨b, o, none⟩ ∧ w.cell? ⟨b, o + k, none⟩ = some (.int .i64 (os.getD k 0)) := by
        rcases TO.out.lies with e | ⟨b, o, e, _, h⟩
        · omega
        · exact ⟨b, o, e, h k hlt⟩
      have hgw := HW.out k hlt
      rw [hgw] at hg
      unfold want at hg
      clear hgw
      obtain ⟨q, hqd⟩ : ∃ q, q = k / V := ⟨_, rfl⟩
      obtain ⟨r, hrd⟩ : ∃ r, r = k % V := ⟨_, rfl⟩
      have hq : (k : Int) / (V : Int) = (q : Int) := by rw [hqd]; exact (Int.natCast_ediv k V).symm
      have hr : (k : Int) % (V : Int) = (r : Int) := by rw [hrd]; exact (Int.natCast_emod k V).symm
      have hqk : q ≤ k := by rw [hqd]; exact Nat.div_le_self k V
      have hrV : r < V := by rw [hrd]; exact Nat.mod_lt k hV
      rw [← hqd, ← hrd] at hg
      clear hqd hrd
      have W1 := raise_ways w r q x1 a1 n1 c1 col1 T1.out (os.getD k 0)
      generalize os.getD k 0 = v at *
      have W2 := raise_ways w r q x2 a2 n2 c2 col2 T2.out (raise1 r q x1 col1 v)
      generalize raise1 r q x1 col1 v = v1 at *
      generalize raise1 r q x2 col2 v1 = v2 at *
      rcases W1 with ⟨e1, rfl⟩ | ⟨e1, l1, rfl⟩ | ⟨e1, l1, b1, o1, y1, rfl, hc1, g1, rfl⟩ | ⟨e1, l1, b1, o1, y1, rfl, hc1, g1, rfl⟩
      all_goals
        rcases W2 with ⟨e2, rfl⟩ | ⟨e2, l2, rfl⟩ | ⟨e2, l2, b2, o2, y2, rfl, hc2, g2, rfl⟩ | ⟨e2, l2, b2, o2, y2, rfl, hc2, g2, rfl⟩
        all_goals
          go_wp2
          go_round
          case rel => exact ⟨k + 1, by omega, by go_num⟩
          case measure => simp [intOf]; omega
    · go_wp2
      go_ret
      exact ⟨rfl, rfl⟩
end Go.Proofs.Qxb6613363a
