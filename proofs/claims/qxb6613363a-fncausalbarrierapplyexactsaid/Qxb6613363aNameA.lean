/-
  zzNamed.
-/
import Derived.Test.Qxb6613363aFindA
namespace Go.Proofs.Qxb6613363a
open Go.RowKit Go.Deep

/-- What zzNamed gives back. -/
structure NmOut (P : Bool) (w : World) (e : Ending) (w' : World) : Prop where
  ex : e = .returned (.bool P) ∧ Below w.heap.size w w'

set_option maxRecDepth 100000 in
set_option maxHeartbeats 1000000 in
theorem named_any (a a2 : Option Addr) (m c n2 c2 : Nat) (ts : List Int) (x y z : Int) (rest : List Int) (w : World) (t : IS w a (3 * m) c ts) (t2 : IS w a2 n2 c2 (x :: y :: z :: rest)) (hm : m ≤ 1000000) :
    Calls Try.prog 14 #[.slice a (3 * m : Nat) c, .slice a2 n2 c2] w (NmOut (nm ts m x y z) w) := by
  have h2l := t2.len
  simp at h2l
  obtain ⟨b2, o2, rfl, hb2, hcc⟩ : ∃ b2 o2, a2 = some ⟨b2, o2, none⟩ ∧ b2 < w.heap.size ∧ ∀ i, i < n2 → w.cell? ⟨b2, o2 + i, none⟩ = some (.int .i64 ((x :: y :: z :: rest).getD i 0)) := by
    rcases t2.lies with e | ⟨b, o, e, h1, h2⟩
    · omega
    · exact ⟨b, o, e, h1, h2⟩
  have d0 : w.cell? ⟨b2, o2, none⟩ = some (.int .i64 x) := hcc 0 (by omega)
  have d1 : w.cell? ⟨b2, o2 + 1, none⟩ = some (.int .i64 y) := hcc 1 (by omega)
  have d2 : w.cell? ⟨b2, o2 + 2, none⟩ = some (.int .i64 z) := hcc 2 (by omega)
  have j0 : 0 < n2 := by omega
  have j1 : (1 : Int) < (n2 : Int) := by omega
  have j2 : (2 : Int) < (n2 : Int) := by omega
  have HT : Hid (IS w a (3 * m) c ts) := t
  clear hcc t t2 h2l
  go_enter Try.func14, Try.ntmps14
  go_wp2_with fail
  go_loopw [5] (fun i wr => ∃ k q : Nat, k ≤ m ∧ i = .int .i64 (3 * (k : Int)) ∧ Hid (nm ts k x y z = false) ∧ wr = w.drewN q) (fun i _ => 3 * m - (intOf i).toNat)
  case atStart => exact ⟨0, 0, by omega, rfl, rfl, rfl⟩
  case round =>
    obtain ⟨k, q, hk, rfl, hno, rfl⟩ := hrel
    by_cases hlt : k < m
    · obtain ⟨b, o, rfl, hbl, hc⟩ : ∃ b o, a = some ⟨b, o, none⟩ ∧ b < w.heap.size ∧ ∀ i, i < 3 * m → w.cell? ⟨b, o + i, none⟩ = some (.int .i64 (ts.getD i 0)) := by
        rcases HT.out.lies with e | ⟨b, o, e, h1, h2⟩
        · omega
        · exact ⟨b, o, e, h1, h2⟩
      have c0 : w.cell? ⟨b, o + (3 * (k:Int)).toNat, none⟩ = some (.int .i64 (ts.getD (3 * k) 0)) := by rw [show (3 * (k:Int)).toNat = 3 * k by omega]; exact hc _ (by omega)
      have c1 : w.cell? ⟨b, o + (3 * (k:Int) + 1).toNat, none⟩ = some (.int .i64 (ts.getD (3 * k + 1) 0)) := by rw [show (3 * (k:Int) + 1).toNat = 3 * k + 1 by omega]; exact hc _ (by omega)
      have c2' : w.cell? ⟨b, o + (3 * (k:Int) + 2).toNat, none⟩ = some (.int .i64 (ts.getD (3 * k + 2) 0)) := by rw [show (3 * (k:Int) + 2).toNat = 3 * k + 2 by omega]; exact hc _ (by omega)
      have g0 : w.cell? ⟨b, o + 3 * k, none⟩ = some (.int .i64 (ts.getD (3 * k) 0)) := hc _ (by omega)
      have g1 : w.cell? ⟨b, o + (3 * k + 1), none⟩ = some (.int .i64 (ts.getD (3 * k + 1) 0)) := hc _ (by omega)
      have g2 : w.cell? ⟨b, o + (3 * k + 2), none⟩ = some (.int .i64 (ts.getD (3 * k + 2) 0)) := hc _ (by omega)
      have ha : Hid (at3 ts x y z k = (decide (ts.getD (3 * k) 0 = x) && decide (ts.getD (3 * k + 1) 0 = y) && decide (ts.getD (3 * k + 2) 0 = z))) := rfl
      generalize ts.getD (3 * k) 0 = t0 at *
      generalize ts.getD (3 * k + 1) 0 = t1 at *
      generalize ts.getD (3 * k + 2) 0 = t2 at *
      have f1 : (0:Int) ≤ 3 * (k:Int) := by omega
      have f2 : 3 * (k:Int) < 3 * (m:Int) := by omega
      have f3 : (0:Int) ≤ 3 * (k:Int) + 1 := by omega
      have f4 : 3 * (k:Int) + 1 < 3 * (m:Int) := by omega
      have f5 : (0:Int) ≤ 3 * (k:Int) + 2 := by omega
      have f6 : 3 * (k:Int) + 2 < 3 * (m:Int) := by omega
      have f7 : IntKind.i64.wrap (3 * (k:Int) + 1) = 3 * (k:Int) + 1 := by simp [IntKind.wrap, IntKind.bits, IntKind.signed]; omega
      have f8 : IntKind.i64.wrap (3 * (k:Int) + 2) = 3 * (k:Int) + 2 := by simp [IntKind.wrap, IntKind.bits, IntKind.signed]; omega
      clear hc
      by_cases e0 : t0 = x
      · by_cases e1 : t1 = y
        · by_cases e2 : t2 = z
          · have HA : Hid (at3 ts x y z k = true) := by unfold Hid; rw [ha.out]; simp [e0, e1, e2]
            subst e0 e1 e2
            go_wp2_with fail
            go_big_quiet (fail)
            go_wp2
            go_ret
            rw [nm_yes hlt HA.out]
            exact ⟨rfl, by repeat (first | exact Below.refl _ _ | refine below_drewN ?_ _)⟩
          · have HN : Hid (nm ts (k + 1) x y z = false) := by unfold Hid; rw [nm_succ, hno.out, ha.out]; simp [e2]
            have hd2 : (t2 == z) = false := by simp [e2]
            subst e0 e1
            go_wp2_with fail
            go_big_quiet (fail)
            go_wp2
            go_roundw
            case rel => exact ⟨k + 1, _, by omega, by go_num, HN, rfl⟩
            case measure => simp [intOf]; omega
        · have HN : Hid (nm ts (k + 1) x y z = false) := by unfold Hid; rw [nm_succ, hno.out, ha.out]; simp [e1]
          have hd1 : (t1 == y) = false := by simp [e1]
          have hd1' : decide (t1 = y) = false := decide_eq_false e1
          subst e0
          go_wp2_with fail
          go_big_quiet (fail)
          go_wp2
          go_roundw
          case rel => exact ⟨k + 1, _, by omega, by go_num, HN, rfl⟩
          case measure => simp [intOf]; omega
      · have HN : Hid (nm ts (k + 1) x y z = false) := by unfold Hid; rw [nm_succ, hno.out, ha.out]; simp [e0]
        have hd0 : (t0 == x) = false := by simp [e0]
        have hd0' : decide (t0 = x) = false := decide_eq_false e0
        go_wp2_with fail
        go_big_quiet (fail)
        go_wp2
        go_roundw
        case rel => exact ⟨k + 1, _, by omega, by go_num, HN, rfl⟩
        case measure => simp [intOf]; omega
    · obtain rfl : k = m := by omega
      have f6 : ¬ 3 * (k:Int) + 2 < 3 * (k:Int) := by omega
      have f8 : IntKind.i64.wrap (3 * (k:Int) + 2) = 3 * (k:Int) + 2 := by simp [IntKind.wrap, IntKind.bits, IntKind.signed]; omega
      go_wp2
      go_ret
      rw [hno.out]
      exact ⟨rfl, by repeat (first | exact Below.refl _ _ | refine below_drewN ?_ _)⟩
end Go.Proofs.Qxb6613363a
