/-
  The bound on total length: a bool, and nothing is written.
-/
import Derived.Test.Qxb6613880aBase
import Derived.BigQuiet
import Derived.Deep.QuietTactic
namespace Go.Proofs.Qxb6613880a
open Go.RowKit

/-- Whatever the bool. -/
def Any (_ : Bool) : Prop := True

set_option maxRecDepth 100000 in
set_option maxHeartbeats 2000000 in
theorem bytes_any (a1 a2 : Option Addr) (n1 c1 n2 c2 : Nat) (xs ys : List C3) (v : Value) (w : World) (t1 : CS w a1 n1 c1 xs) (t2 : CS w a2 n2 c2 ys) :
    Calls Try.prog 5 #[.slice a1 n1 c1, .slice a2 n2 c2, v] w (BP Any w) := by
  have hcap1 := t1.cap
  have hmax1 := t1.max
  have hcap2 := t2.cap
  have hmax2 := t2.max
  have H1 : Hid (CS w a1 n1 c1 xs) := t1
  have H2 : Hid (CS w a2 n2 c2 ys) := t2
  clear t1 t2
  go_enter Try.func5, Try.ntmps5
  go_wp2_with fail
  all_goals first | (go_ret; exact ⟨_, rfl, rfl, trivial⟩) | skip
  go_loopw [7, 8] (fun s i wr => ∃ k z : Nat, k ≤ n1 ∧ i = .int .i64 k ∧ s = .int .i64 z ∧ z ≤ 1048576 ∧ wr = w) (fun _ i _ => n1 - (intOf i).toNat)
  case atStart => exact ⟨0, n1, by omega, rfl, by go_num, by omega, rfl⟩
  case round =>
    obtain ⟨k, z, hk, rfl, rfl, hz, rfl⟩ := hrel
    by_cases hlt : k < n1
    · obtain ⟨b2, o, x, rfl, hb2, hxk, hox, d0, d1, d2⟩ := H1.out.at k hlt
      obtain ⟨xa, xb, xc⟩ := x
      obtain ⟨s0, s1, s2⟩ := hox
      dsimp only at d0 d1 d2 s0 s1 s2
      unfold maxLen at s0 s1 s2
      clear hxk
      go_wp2_with fail
      all_goals first | (go_ret; exact ⟨_, rfl, rfl, trivial⟩) | skip
      go_roundw
      case rel => exact ⟨k + 1, z + xa.size + xb.size + xc.size, by omega, by go_num, by go_num, by omega, trivial⟩
      case measure => simp [intOf]; omega
    · go_wp2_with fail
      all_goals first | (go_ret; exact ⟨_, rfl, rfl, trivial⟩) | skip
      obtain ⟨w, hw⟩ : ∃ w, w = wr := ⟨_, rfl⟩
      subst hw
      go_loopw [7, 9] (fun s i wr => ∃ k z : Nat, k ≤ n2 ∧ i = .int .i64 k ∧ s = .int .i64 z ∧ z ≤ 1048576 ∧ wr = w) (fun _ i _ => n2 - (intOf i).toNat)
      case atStart => exact ⟨0, z + n2, by omega, rfl, by go_num, by omega, rfl⟩
      case round =>
        obtain ⟨k, z, hk, rfl, rfl, hz, rfl⟩ := hrel
        by_cases hlt : k < n2
        · obtain ⟨b2, o, x, rfl, hb2, hxk, hox, d0, d1, d2⟩ := H2.out.at k hlt
          obtain ⟨xa, xb, xc⟩ := x
          obtain ⟨s0, s1, s2⟩ := hox
          dsimp only at d0 d1 d2 s0 s1 s2
          unfold maxLen at s0 s1 s2
          clear hxk
          go_wp2_with fail
          all_goals first | (go_ret; exact ⟨_, rfl, rfl, trivial⟩) | skip
          go_roundw
          case rel => exact ⟨k + 1, z + xa.size + xb.size + xc.size, by omega, by go_num, by go_num, by omega, trivial⟩
          case measure => simp [intOf]; omega
        · go_wp2
          all_goals (go_ret; exact ⟨_, rfl, rfl, trivial⟩)
end Go.Proofs.Qxb6613880a
