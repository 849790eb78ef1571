/-
  addLen, cellsBytes.
-/
import Derived.Test.Qxb6613880aBase
import Derived.BigQuiet
import Derived.Deep.QuietTactic
namespace Go.Proofs.Qxb6613880a
open Go.RowKit

/-- addLen: between nought and the limit and one more. -/
theorem addLen_any (n l lim : Int) (w : World) (h0 : 0 ≤ n) (h1 : n ≤ lim) (h2 : lim ≤ 1048576) (h3 : 0 ≤ l) (h4 : l ≤ 9223372036854775807) :
    Calls Try.prog 13 #[.int .i64 n, .int .i64 l, .int .i64 lim] w (NP (fun r => 0 ≤ r ∧ r ≤ lim + 1) w) := by
  have f1 : IntKind.i64.wrap (lim - n) = lim - n := by simp [IntKind.wrap, IntKind.bits, IntKind.signed]; omega
  have f2 : IntKind.i64.wrap (lim + 1) = lim + 1 := by simp [IntKind.wrap, IntKind.bits, IntKind.signed]; omega
  by_cases g : l > lim - n
  · go_enter Try.func13, Try.ntmps13
    go_wp2
    go_ret
    exact ⟨_, rfl, rfl, by omega, by omega⟩
  · have f3 : IntKind.i64.wrap (n + l) = n + l := by simp [IntKind.wrap, IntKind.bits, IntKind.signed]; omega
    go_enter Try.func13, Try.ntmps13
    go_wp2
    go_ret
    exact ⟨_, rfl, rfl, by omega, by omega⟩

set_option maxRecDepth 100000 in
set_option maxHeartbeats 1000000 in
theorem cellsBytes_any (a : Option Addr) (n c : Nat) (xs : List C3) (lim : Int) (w : World) (t : CS w a n c xs) (h0 : 0 ≤ lim) (h1 : lim ≤ 1048576) :
    Calls Try.prog 6 #[.slice a n c, .int .i64 lim] w (NP (fun r => 0 ≤ r ∧ r ≤ lim + 1) w) := by
  have hcap := t.cap
  have hmax := t.max
  have HT : Hid (CS w a n c xs) := t
  clear t
  go_enter Try.func6, Try.ntmps6
  go_wp2_with fail
  go_loopw [5, 6] (fun s i wr => ∃ (k : Nat) (z : Int), k ≤ n ∧ i = .int .i64 k ∧ s = .int .i64 z ∧ 0 ≤ z ∧ z ≤ lim ∧ wr = w) (fun _ i _ => n - (intOf i).toNat)
  case atStart => exact ⟨0, 0, by omega, rfl, rfl, by omega, by omega, rfl⟩
  case round =>
    obtain ⟨k, z, hk, rfl, rfl, hz, hz1, rfl⟩ := hrel
    by_cases hlt : k < n
    · obtain ⟨b2, o, x, rfl, hb2, hxk, hox, c0, c1, c2⟩ := HT.out.at k hlt
      obtain ⟨xa, xb, xc⟩ := x
      obtain ⟨s0, s1, s2⟩ := hox
      dsimp only at c0 c1 c2 s0 s1 s2
      unfold maxLen at s0 s1 s2
      clear hxk
      go_wp2_with fail
      refine (addLen_any _ _ _ _ hz hz1 h1 (by omega) (by omega)).mono ?_
      rintro e w1 ⟨z1, rfl, rfl, y1, y2⟩
      by_cases g1 : z1 ≤ lim
      · go_wp2_with fail
        refine (addLen_any _ _ _ _ y1 g1 h1 (by omega) (by omega)).mono ?_
        rintro e w2 ⟨z2, rfl, rfl, y3, y4⟩
        by_cases g2 : z2 ≤ lim
        · go_wp2_with fail
          refine (addLen_any _ _ _ _ y3 g2 h1 (by omega) (by omega)).mono ?_
          rintro e w3 ⟨z3, rfl, rfl, y5, y6⟩
          by_cases g3 : z3 ≤ lim
          · go_wp2_with fail
            refine (addLen_any _ _ _ _ y5 g3 h1 (by omega) (by omega)).mono ?_
            rintro e w4 ⟨z4, rfl, rfl, y7, y8⟩
            by_cases g4 : z4 ≤ lim
            · go_wp2
              go_roundw
              case rel => exact ⟨k + 1, z4, by omega, by go_num, rfl, y7, g4, trivial⟩
              case measure => simp [intOf]; omega
            · go_wp2
              go_ret
              exact ⟨_, rfl, rfl, y7, y8⟩
          · go_wp2
            go_ret
            exact ⟨_, rfl, rfl, y5, y6⟩
        · go_wp2
          go_ret
          exact ⟨_, rfl, rfl, y3, y4⟩
      · go_wp2
        go_ret
        exact ⟨_, rfl, rfl, y1, y2⟩
    · go_wp2
      go_ret
      exact ⟨_, rfl, rfl, hz, by omega⟩
end Go.Proofs.Qxb6613880a
