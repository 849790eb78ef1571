/-
  The readers: zzIsWrite, zzKnownRaised.
-/
import Derived.Test.Qxb6613363aReadA
namespace Go.Proofs.Qxb6613363a
open Go.RowKit

set_option maxHeartbeats 400000 in
/-- zzIsWrite at a row that holds just that write. -/
theorem isWrite_any (a a2 : Option Addr) (m c c2 : Nat) (f wr v : Int) (bf : List Int) (w : World) (t1 : IS w a (m + 3) c (f :: wr :: v :: bf)) (t2 : IS w a2 m c2 bf) :
    Calls Try.prog 16 #[.slice a (m + 3 : Nat) c, .int .i64 f, .int .i64 wr, .int .i64 v, .slice a2 m c2] w fun e w' => e = .returned (.bool true) ∧ Below w.heap.size w w' := by
  obtain ⟨b1, o1, rfl, _, h1⟩ : ∃ b o, a = some ⟨b, o, none⟩ ∧ b < w.heap.size ∧ ∀ i, i < m + 3 → w.cell? ⟨b, o + i, none⟩ = some (.int .i64 ((f :: wr :: v :: bf).getD i 0)) := by
    rcases t1.lies with e | e
    · omega
    · exact e
  have c0 : w.cell? ⟨b1, o1, none⟩ = some (.int .i64 f) := h1 0 (by omega)
  have c1 : w.cell? ⟨b1, o1 + 1, none⟩ = some (.int .i64 wr) := h1 1 (by omega)
  have c2' : w.cell? ⟨b1, o1 + 2, none⟩ = some (.int .i64 v) := h1 2 (by omega)
  have hcap := t1.cap
  have hmax := t1.max
  have H1 : Hid (∀ i, i < m → w.cell? ⟨b1, o1 + (3 + i), none⟩ = some (.int .i64 (bf.getD i 0))) := fun i hi => by
    have := h1 (3 + i) (by omega)
    rw [show 3 + i = i + 1 + 1 + 1 by omega] at this ⊢
    simpa using this
  have T2 : Hid (IS w a2 m c2 bf) := t2
  clear h1 t1 t2
  go_enter Try.func16, Try.ntmps16
  go_wp2
  go_loopw [11] (fun i wr => ∃ k : Nat, k ≤ m ∧ i = .int .i64 k ∧ ∃ q, wr = w.drewN q) (fun i _ => m - (intOf i).toNat)
  case atStart => exact ⟨0, by omega, rfl, 0, rfl⟩
  case round =>
    obtain ⟨k, hk, rfl, q, rfl⟩ := hrel
    by_cases hlt : k < m
    · obtain ⟨b2, o2, rfl, hc2⟩ : ∃ b o, a2 = some ⟨b, o, none⟩ ∧ w.cell? ⟨b, o + k, none⟩ = some (.int .i64 (bf.getD k 0)) := by
        rcases T2.out.lies with e | ⟨b, o, e, _, h⟩
        · omega
        · exact ⟨b, o, e, h k hlt⟩
      have hc1 := H1.out k hlt
      have hlt' : (k : Int) < (m : Int) := by omega
      generalize bf.getD k 0 = x at *
      go_wp2
      go_quiet (fail)
      go_wp2
      go_roundw
      case rel => exact ⟨k + 1, by omega, by go_num, _, rfl⟩
      case measure => simp [intOf]; omega
    · go_wp2
      go_ret
      exact ⟨rfl, by repeat (first | exact Below.refl _ _ | refine below_drewN ?_ _)⟩
end Go.Proofs.Qxb6613363a
