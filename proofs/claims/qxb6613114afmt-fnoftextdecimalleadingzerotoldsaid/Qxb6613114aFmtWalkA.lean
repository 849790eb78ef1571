/-
  The walks of the law's own helpers: decimalValue, sameBytes, hexDigit, hexOfUint, the bound.
-/
import Derived.Test.Qxb6613114aFmtFacts
import Derived.Test.Qxb6613114aFmtPlain
import Derived.BigQuiet
import Derived.Deep.QuietTactic
namespace Go.Proofs.Qxb6613114aFmt
open Go.RowKit

theorem ret_int {k : IntKind} {a b : Int} (h : a = b) : Ending.returned (.int k a) = .returned (.int k b) := by rw [h]
theorem ret_two {k : IntKind} {a b : Int} {v : Value} (h : a = b) : Ending.returned (.tuple #[.int k a, v]) = .returned (.tuple #[.int k b, v]) := by rw [h]

theorem drop_getD (l : List Int) (k : Nat) (h : k < l.length) : l.drop k = l.getD k 0 :: l.drop (k + 1) := by
  rw [List.drop_eq_getElem_cons h, List.getD_eq_getElem?_getD, List.getElem?_eq_getElem h]; rfl

/-- What decimalValue answers. -/
def dvN (o : Option Nat) : Int := match o with | some u => u | none => 0
def dvB (o : Option Nat) : Bool := o.isSome

theorem dec_step (xs : List Int) (k acc : Nat) (h : k < xs.length) :
    dec acc (xs.drop k) = if 48 ≤ xs.getD k 0 ∧ xs.getD k 0 ≤ 57 then (if acc * 10 + (xs.getD k 0 - 48).toNat < 18446744073709551616 then dec (acc * 10 + (xs.getD k 0 - 48).toNat) (xs.drop (k + 1)) else none) else none := by
  rw [drop_getD xs k h, dec]

set_option maxHeartbeats 400000 in
theorem decimal_empty (a : Option Addr) (c : Nat) (w : World) :
    Calls Tryf.prog 7 #[.slice a 0 c] w fun e w' => e = .returned (.tuple #[.int .u64 0, .bool false]) ∧ w' = w := by
  go_enter Tryf.func7, Tryf.ntmps7
  go_wp2
  go_ret2
  exact ⟨rfl, rfl⟩

set_option maxHeartbeats 1000000 in
theorem decimal_some (b o n c : Nat) (xs : List Int) (w : World) (hn : xs.length = n) (h0 : 0 < n) (hmax : n ≤ 140737488355328)
    (hc : ∀ i, i < n → w.cell? ⟨b, o + i, none⟩ = some (.int .u8 (xs.getD i 0))) (hb : ∀ i, i < n → 0 ≤ xs.getD i 0 ∧ xs.getD i 0 < 256) :
    Calls Tryf.prog 7 #[.slice (some ⟨b, o, none⟩) n c] w fun e w' => e = .returned (.tuple #[.int .u64 (dvN (decOpt xs)), .bool (dvB (decOpt xs))]) ∧ w' = w := by
  have HC : Hid (∀ i, i < n → w.cell? ⟨b, o + i, none⟩ = some (.int .u8 (xs.getD i 0))) := hc
  have HB : Hid (∀ i, i < n → 0 ≤ xs.getD i 0 ∧ xs.getD i 0 < 256) := hb
  have HN : Hid (xs.length = n) := hn
  have HD : Hid (decOpt xs = dec 0 xs) := by rw [decOpt, if_neg (by intro e; rw [e] at hn; simp at hn; omega)]; trivial
  have hne : ((n : Int) == 0) = false := by simp; omega
  clear hc hb hn
  go_enter Tryf.func7, Tryf.ntmps7
  go_wp2
  go_loop [4, 5] (fun v i => ∃ k acc : Nat, k ≤ n ∧ acc < 18446744073709551616 ∧ i = .int .i64 k ∧ v = .int .u64 acc ∧ Hid (decOpt xs = dec acc (xs.drop k))) (fun _ i => n - (intOf i).toNat)
  case atStart => exact ⟨0, 0, by omega, by omega, rfl, rfl, HD.out⟩
  case round =>
    obtain ⟨k, acc, hk, hacc, rfl, rfl, hinv⟩ := hrel
    by_cases hlt : k < n
    · have hcx : w.cell? ⟨b, o + k, none⟩ = some (.int .u8 (xs.getD k 0)) := HC.out k hlt
      have hbx := HB.out k hlt
      have ST := dec_step xs k acc (by rw [HN.out]; exact hlt)
      generalize xs.getD k 0 = x at *
      by_cases h1 : x < 48
      · have HZ : Hid (decOpt xs = none) := hinv.out.trans (by rw [ST, if_neg (by omega)])
        clear ST hinv
        go_wp2
        go_ret2
        exact ⟨by rw [HZ.out]; rfl, rfl⟩
      · by_cases h2 : 57 < x
        · have HZ : Hid (decOpt xs = none) := hinv.out.trans (by rw [ST, if_neg (by omega)])
          clear ST hinv
          go_wp2
          go_ret2
          exact ⟨by rw [HZ.out]; rfl, rfl⟩
        · obtain ⟨d, hd⟩ : ∃ d : Nat, x = 48 + d := ⟨(x - 48).toNat, by omega⟩
          subst hd
          have e1 : (48 + (d : Int) - 48).toNat = d := by omega
          rw [if_pos (by omega), e1] at ST
          by_cases h3 : acc * 10 + d < 18446744073709551616
          · have HZ : Hid (decOpt xs = dec (acc * 10 + d) (xs.drop (k + 1))) := hinv.out.trans (by rw [ST, if_pos h3])
            clear ST hinv
            go_wp2
            go_round
            case rel => exact ⟨k + 1, acc * 10 + d, by omega, h3, by go_num, by go_num, HZ⟩
            case measure => simp [intOf]; omega
          · have HZ : Hid (decOpt xs = none) := hinv.out.trans (by rw [ST, if_neg h3])
            clear ST hinv
            go_wp2
            go_ret2
            exact ⟨by rw [HZ.out]; rfl, rfl⟩
    · have HZ : Hid (decOpt xs = some acc) := hinv.out.trans (by rw [List.drop_eq_nil_of_le (by rw [HN.out]; omega)]; rfl)
      clear hinv
      go_wp2
      go_ret2
      exact ⟨by rw [HZ.out]; rfl, rfl⟩

set_option maxHeartbeats 400000 in
theorem same_empty (a1 a2 : Option Addr) (c1 c2 : Nat) (w : World) :
    Calls Tryf.prog 8 #[.slice a1 0 c1, .slice a2 0 c2] w fun e w' => e = .returned (.bool true) ∧ Below w.heap.size w w' := by
  go_enter Tryf.func8, Tryf.ntmps8
  go_wp2
  refine wp_loop_rounds 1 ?_
  rw [rounds_succ]
  go_wp2
  go_ret
  exact ⟨rfl, Below.refl _ _⟩

set_option maxHeartbeats 400000 in
theorem same_some (b1 o1 c1 b2 o2 c2 n : Nat) (xs : List Int) (w : World) (hmax : n ≤ 140737488355328)
    (h1 : ∀ i, i < n → w.cell? ⟨b1, o1 + i, none⟩ = some (.int .u8 (xs.getD i 0))) (h2 : ∀ i, i < n → w.cell? ⟨b2, o2 + i, none⟩ = some (.int .u8 (xs.getD i 0))) :
    Calls Tryf.prog 8 #[.slice (some ⟨b1, o1, none⟩) n c1, .slice (some ⟨b2, o2, none⟩) n c2] w fun e w' => e = .returned (.bool true) ∧ Below w.heap.size w w' := by
  have H1 : Hid (∀ i, i < n → w.cell? ⟨b1, o1 + i, none⟩ = some (.int .u8 (xs.getD i 0))) := h1
  have H2 : Hid (∀ i, i < n → w.cell? ⟨b2, o2 + i, none⟩ = some (.int .u8 (xs.getD i 0))) := h2
  clear h1 h2
  go_enter Tryf.func8, Tryf.ntmps8
  go_wp2
  go_loopw [5] (fun i wr => ∃ k : Nat, k ≤ n ∧ i = .int .i64 k ∧ ∃ q, wr = w.drewN q) (fun i _ => n - (intOf i).toNat)
  case atStart => exact ⟨0, by omega, rfl, 0, rfl⟩
  case round =>
    obtain ⟨k, hk, rfl, q, rfl⟩ := hrel
    by_cases hlt : k < n
    · have hc1 : w.cell? ⟨b1, o1 + k, none⟩ = some (.int .u8 (xs.getD k 0)) := H1.out k hlt
      have hc2 : w.cell? ⟨b2, o2 + k, none⟩ = some (.int .u8 (xs.getD k 0)) := H2.out k hlt
      have hlt' : (k : Int) < (n : Int) := by omega
      generalize xs.getD k 0 = x at *
      go_wp2
      go_quiet (fail)
      go_wp2
      go_roundw
      case rel => exact ⟨k + 1, by omega, by go_num, _, rfl⟩
      case measure => simp [intOf]; omega
    · go_wp2
      go_ret
      exact ⟨rfl, by repeat (first | exact Below.refl _ _ | refine below_drewN ?_ _)⟩

theorem hexdigit_any (d : Nat) (w : World) (h : d < 16) :
    Calls Tryf.prog 14 #[.int .u8 d] w fun e w' => e = .returned (.int .u8 (hexD d)) ∧ w' = w := by
  by_cases h1 : d < 10
  · go_enter Tryf.func14, Tryf.ntmps14
    go_wp2
    go_ret
    exact ⟨ret_int (a := 48 + (d : Int)) (by rw [hexD, if_pos h1]), rfl⟩
  · go_enter Tryf.func14, Tryf.ntmps14
    go_wp2
    go_ret
    exact ⟨ret_int (a := 97 + (d : Int) - 10) (by rw [hexD, if_neg h1]; omega), rfl⟩

theorem bound_any (a : Option Addr) (n c : Nat) (w : World) (hmax : n ≤ 140737488355328) :
    Calls Tryf.prog 4 #[.slice a n c] w fun e w' => e = .returned (.bool (decide (n ≤ 1048576))) ∧ w' = w := by
  by_cases h : n ≤ 1048576
  · go_enter Tryf.func4, Tryf.ntmps4
    go_wp2
    go_ret
    exact ⟨by rw [decide_eq_true h]; rfl, rfl⟩
  · go_enter Tryf.func4, Tryf.ntmps4
    go_wp2
    go_ret
    exact ⟨by rw [decide_eq_false h]; rfl, rfl⟩
end Go.Proofs.Qxb6613114aFmt
