/-
  slices.DeleteFunc where nothing is deleted; CausalBarrier.highest.
-/
import Derived.Test.Qxb6613363aFindB
namespace Go.Proofs.Qxb6613363a
open Go.RowKit Go.Deep

/-- What DeleteFunc gives back: a slice in the same block that holds the precedents qs. -/
structure DelOut (base : Nat) (pv : Value) (qs : List Pc) (w : World) (e : Ending) (w' : World) : Prop where
  ex : ∃ v', e = .returned v' ∧ w'.ownsRow base 46 4 v' qs.length (flat qs) ∧ w.grownBy w' pv.ownBlock

theorem below_grown {w w' : World} (h : Below w.heap.size w w') (row : Option Nat) : w.grownBy w' row := ⟨h.os, h.tape, h.output, h.size, fun k hk _ => h.block k hk⟩

set_option maxRecDepth 100000 in
set_option maxHeartbeats 1000000 in
theorem delete_none (pv : Value) (ps : List Pc) (bb : Nat) (bv : Value) (m base : Nat) (ts : List Int) (w : World) (hown : w.ownsRow base 46 4 pv ps.length (flat ps)) (hst : Sts w base ps) (hn : ps.length ≤ 1000000)
    (hbb : w.cell? ⟨bb, 2, none⟩ = some bv) (hb : w.ownsRow base 42 3 bv m (ts.map (Value.int .i64))) (hm : m ≤ 1000000) (hno : ∀ p ∈ ps, nm ts m p.x p.y p.z = false) :
    Calls Try.prog 26 #[pv, .func (.func 27) #[] #[.pointer (some ⟨bb, 0, none⟩)]] w (DelOut base pv ps w) := by
  have HO : Hid (w.ownsRow base 46 4 pv ps.length (flat ps)) := hown
  have HC := indexFunc_any pv ps bb bv m base ts w hown hst hn hbb hb hm
  have HN : Hid (∀ p ∈ ps, nm ts m p.x p.y p.z = false) := hno
  clear hown hst hbb hb hno
  go_enter Try.func26, Try.ntmps26
  go_wp2_with fail
  refine HC.mono ?_
  rintro e w1 ⟨⟨r, rfl, hr, hb1⟩⟩
  have hr1 : r = -1 := by
    rcases hr with ⟨h, _⟩ | ⟨i, p, _, hp, hP, _⟩
    · exact h
    · have := HN.out p (List.mem_of_getElem? hp); rw [this] at hP; cases hP
  subst hr1
  have HF : Hid (DelOut base pv ps w (.returned pv) w1) := ⟨pv, rfl, own_below HO.out hb1, below_grown hb1 _⟩
  clear hr hb1 HC
  go_wp2
  go_ret
  exact HF.out

/-- What highest gives back. -/
structure HiOut (kb i : Nat) (w : World) (e : Ending) (w' : World) : Prop where
  ex : e = .returned (.pointer (some ⟨kb, i, none⟩)) ∧ ∃ q, w' = w.drewN q

set_option maxRecDepth 100000 in
set_option maxHeartbeats 1000000 in
theorem highest_any (w : World) (c kb n : Nat) (f : Nat → Value) (V k x : Nat) (hrow : w.rowIs c 50 8 f) (h2 : f 2 = .int .i64 V) (h7 : f 7 = .slice (some ⟨kb, 0, none⟩) n n) (hx : k * V + x < n) (hn : n ≤ 1000000) :
    Calls Try.prog 29 #[.pointer (some ⟨c, 0, none⟩), .int .i64 k, .int .i64 x] w (HiOut kb (k * V + x) w) := by
  have c2 : w.cell? ⟨c, 2, none⟩ = some (.int .i64 V) := (hrow.cell (i := 2) (by omega)).trans (by rw [h2])
  have c7 : w.cell? ⟨c, 7, none⟩ = some (.slice (some ⟨kb, 0, none⟩) n n) := (hrow.cell (i := 7) (by omega)).trans (by rw [h7])
  clear hrow h2 h7
  obtain ⟨q, hq⟩ : ∃ q, q = k * V := ⟨_, rfl⟩
  have e1 : (k:Int) * (V:Int) = (q:Int) := by rw [hq]; push_cast; rfl
  rw [← hq] at hx ⊢
  clear hq
  have w1 : IntKind.i64.wrap (q:Int) = q := by simp [IntKind.wrap, IntKind.bits, IntKind.signed]; omega
  have w2 : IntKind.i64.wrap ((q:Int) + (x:Int)) = (q:Int) + (x:Int) := by simp [IntKind.wrap, IntKind.bits, IntKind.signed]; omega
  have g1 : (0:Int) ≤ (q:Int) + (x:Int) := by omega
  have g2 : (q:Int) + (x:Int) < (n:Int) := by omega
  go_enter Try.func29, Try.ntmps29
  go_wp2_with fail
  go_quiet (fail)
  go_wp2
  go_ret
  exact ⟨rfl, nq, rfl⟩
end Go.Proofs.Qxb6613363a
