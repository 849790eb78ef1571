/-
  meets: all pairs.
-/
import Derived.Test.Qxb6613880aBase
import Derived.BigQuiet
import Derived.Deep.QuietTactic
namespace Go.Proofs.Qxb6613880a
open Go.RowKit

/-- No cell of the first k of xs is among ys. -/
def noneTo (xs ys : List C3) (k : Nat) : Prop := ∀ x, x ∈ xs.take k → x ∉ ys

theorem noneTo_succ {xs ys : List C3} {k : Nat} {x : C3} (h : noneTo xs ys k) (hk : xs[k]? = some x) (hn : x ∉ ys) : noneTo xs ys (k + 1) := fun y hy => by
  rw [take_snoc hk, List.mem_append] at hy
  rcases hy with hy | hy
  · exact h y hy
  · rw [List.mem_singleton.1 hy]; exact hn

/-- What meets answers; the world is as it was but for draws. -/
structure MtOut (xs ys : List C3) (w : World) (e : Ending) (w' : World) : Prop where
  ex : ∃ (b : Bool) (q : Nat), e = .returned (.bool b) ∧ w' = w.drewN q ∧ (b = true ↔ ∃ x, x ∈ ys ∧ x ∈ xs)

theorem str_ne {a b : ByteArray} (h : a ≠ b) : (a.toList == b.toList) = false := beq_eq_false_iff_ne.2 fun e => h (ByteArray.ext (Array.toList_inj.1 (by rw [ByteArray.toList_eq, ByteArray.toList_eq] at e; exact e)))

set_option maxRecDepth 100000 in
set_option maxHeartbeats 2000000 in
theorem meets_any (a1 a2 : Option Addr) (n1 c1 n2 c2 : Nat) (xs ys : List C3) (w : World) (t1 : CS w a1 n1 c1 xs) (t2 : CS w a2 n2 c2 ys) :
    Calls Try.prog 10 #[.slice a1 n1 c1, .slice a2 n2 c2] w (MtOut xs ys w) := by
  have hcap1 := t1.cap
  have hmax1 := t1.max
  have hcap2 := t2.cap
  have hmax2 := t2.max
  have H1 : Hid (CS w a1 n1 c1 xs) := t1
  have H2 : Hid (CS w a2 n2 c2 ys) := t2
  clear t1 t2
  go_enter Try.func10, Try.ntmps10
  go_wp2_with fail
  go_loopw [5] (fun i wr => ∃ k q : Nat, k ≤ n1 ∧ i = .int .i64 k ∧ Hid (noneTo xs ys k) ∧ wr = w.drewN q) (fun i _ => n1 - (intOf i).toNat)
  case atStart => exact ⟨0, 0, by omega, rfl, fun x hx => (by simp at hx), rfl⟩
  case round =>
    obtain ⟨k, q, hk, rfl, hno, rfl⟩ := hrel
    by_cases hlt : k < n1
    · obtain ⟨b1, o1, x, rfl, hb1, hxk0, hox, c0, c1', c2'⟩ := H1.out.at k hlt
      obtain ⟨xa, xb, xc⟩ := x
      dsimp only at c0 c1' c2'
      have HXK : Hid (xs[k]? = some ⟨xa, xb, xc⟩) := hxk0
      clear hxk0 hox
      go_wp2_with fail
      go_loopw [6] (fun i wr => ∃ j q : Nat, j ≤ n2 ∧ i = .int .i64 j ∧ Hid (∀ y, y ∈ ys.take j → y ≠ ⟨xa, xb, xc⟩) ∧ wr = w.drewN q) (fun i _ => n2 - (intOf i).toNat)
      case atStart => exact ⟨0, q, by omega, rfl, fun x hx => (by simp at hx), rfl⟩
      case round =>
        obtain ⟨j, q, hj, rfl, hnj, rfl⟩ := hrel
        by_cases hjt : j < n2
        · obtain ⟨b2, o2, y, rfl, hb2, hyk0, hoy, e0, e1, e2⟩ := H2.out.at j hjt
          obtain ⟨ya, yb, yc⟩ := y
          dsimp only at e0 e1 e2
          have HYK : Hid (ys[j]? = some ⟨ya, yb, yc⟩) := hyk0
          clear hyk0 hoy
          have HS : (⟨ya, yb, yc⟩ : C3) ≠ ⟨xa, xb, xc⟩ → Hid (∀ y, y ∈ ys.take (j + 1) → y ≠ ⟨xa, xb, xc⟩) := fun hne y hy => by
            rw [take_snoc HYK.out, List.mem_append] at hy
            rcases hy with hy | hy
            · exact hnj.out y hy
            · rw [List.mem_singleton.1 hy]; exact hne
          by_cases g0 : xa = ya
          · by_cases g1 : xb = yb
            · by_cases g2 : xc = yc
              · subst g0 g1 g2
                go_wp2_with fail
                go_big_quiet (fail)
                go_wp2
                go_ret
                exact ⟨true, _, rfl, World.drewN_drewN _ _ _, by simp only [true_iff]; exact ⟨_, List.mem_of_getElem? HYK.out, List.mem_of_getElem? HXK.out⟩⟩
              · have hd2 : (xc.toList == yc.toList) = false := str_ne g2
                have HN := HS (fun h => g2 (by cases h; rfl))
                subst g0 g1
                go_wp2_with fail
                go_big_quiet (fail)
                go_wp2
                go_roundw
                case rel => exact ⟨j + 1, _, by omega, by go_num, HN, rfl⟩
                case measure => simp [intOf]; omega
            · have hd1 : (xb.toList == yb.toList) = false := str_ne g1
              have HN := HS (fun h => g1 (by cases h; rfl))
              subst g0
              go_wp2_with fail
              go_big_quiet (fail)
              go_wp2
              go_roundw
              case rel => exact ⟨j + 1, _, by omega, by go_num, HN, rfl⟩
              case measure => simp [intOf]; omega
          · have hd0 : (xa.toList == ya.toList) = false := str_ne g0
            have HN := HS (fun h => g0 (by cases h; rfl))
            go_wp2_with fail
            go_big_quiet (fail)
            go_wp2
            go_roundw
            case rel => exact ⟨j + 1, _, by omega, by go_num, HN, rfl⟩
            case measure => simp [intOf]; omega
        · obtain rfl : j = n2 := by omega
          have HN : Hid (noneTo xs ys (k + 1)) := noneTo_succ hno.out HXK.out (fun hm => hnj.out _ (by rw [List.take_of_length_le (by rw [H2.out.len]; omega)]; exact hm) rfl)
          go_wp2
          go_roundw
          case rel => exact ⟨k + 1, _, by omega, by go_num, HN, rfl⟩
          case measure => simp [intOf]; omega
    · obtain rfl : k = n1 := by omega
      go_wp2
      go_ret
      refine ⟨false, _, rfl, rfl, ?_⟩
      have hn := hno.out
      unfold noneTo at hn
      rw [List.take_of_length_le (by rw [H1.out.len]; omega)] at hn
      simp only [Bool.false_eq_true, false_iff]
      rintro ⟨x, h1, h2⟩
      exact hn x h2 h1
end Go.Proofs.Qxb6613880a
