/-
  The readers: zzWordsOver, zzRowsWellFormed, zzSameInts.
-/
import Derived.Test.Qxb6613363aBase
namespace Go.Proofs.Qxb6613363a
open Go.RowKit

/-- How many words the first k rows take. -/
def wordsTo (rs : List Rw) : Nat → Nat
  | 0 => 0
  | k + 1 => wordsTo rs k + (match rs[k]? with | some r => r.n | none => 0)
theorem wordsTo_succ (rs : List Rw) (k : Nat) (h : k < rs.length) : wordsTo rs (k + 1) = wordsTo rs k + rs[k].n := by
  rw [wordsTo, List.getElem?_eq_getElem h]

def WO (s n : Nat) (rs : List Rw) (b : Bool) : Prop := b = false → s + 3 * n + wordsTo rs n ≤ 131072

set_option maxHeartbeats 400000 in
theorem wordsOver_any (a : Option Addr) (n c : Nat) (rs : List Rw) (s : Nat) (w : World) (t : ISS w a n c rs) (hs : s ≤ 1000000) (hn : n ≤ 4096) :
    Calls Try.prog 8 #[.slice a n c, .int .i64 s] w (BP (WO s n rs) w) := by
  have hlen := t.len
  by_cases h0 : 131072 < s + 3 * n
  · go_enter Try.func8, Try.ntmps8
    go_wp2
    go_ret
    exact ⟨⟨true, rfl, rfl, fun h => by cases h⟩⟩
  · have T : Hid (ISS w a n c rs) := t
    have HL : Hid (rs.length = n) := hlen
    clear t hlen
    go_enter Try.func8, Try.ntmps8
    go_wp2
    go_loop [5, 6] (fun v i => ∃ k : Nat, k ≤ n ∧ i = .int .i64 k ∧ v = .int .i64 (s + 3 * n + wordsTo rs k : Nat) ∧ s + 3 * n + wordsTo rs k ≤ 131072) (fun _ i => n - (intOf i).toNat)
    case atStart => exact ⟨0, by omega, rfl, by simp [wordsTo], by simp [wordsTo]; omega⟩
    case round =>
      obtain ⟨k, hk, rfl, rfl, hb⟩ := hrel
      by_cases hlt : k < n
      · have hkl : k < rs.length := by rw [HL.out]; exact hlt
        have hr := T.out.row _ (List.getElem_mem hkl)
        have hW : Hid (wordsTo rs (k + 1) = wordsTo rs k + rs[k].n) := wordsTo_succ rs k hkl
        have hc : ∃ b o, a = some ⟨b, o, none⟩ ∧ w.cell? ⟨b, o + k, none⟩ = some (.slice rs[k].a rs[k].n rs[k].c) := by
          rcases T.out.lies with e | ⟨b, o, e, _, hc⟩
          · omega
          · exact ⟨b, o, e, hc k hkl⟩
        obtain ⟨b, o, rfl, hc⟩ := hc
        have h1 := hr.cap
        have h2 := hr.max
        clear hr
        generalize rs[k] = r at *
        by_cases hov : 131072 < s + 3 * n + wordsTo rs k + r.n
        · go_wp2
          go_ret
          exact ⟨⟨true, rfl, rfl, fun h => by cases h⟩⟩
        · go_wp2
          go_round
          case rel => exact ⟨k + 1, by omega, by go_num, by rw [hW.out]; go_num, by rw [hW.out]; omega⟩
          case measure => simp [intOf]; omega
      · have hkn : k = n := by omega
        subst hkn
        go_wp2
        go_ret
        exact ⟨⟨false, rfl, rfl, fun _ => hb⟩⟩

/-- Every one of the first k rows has three numbers and whole triples behind them. -/
def okRow (r : Rw) : Prop := 3 ≤ r.n ∧ (r.n - 3) % 3 = 0

def WF (rs : List Rw) (b : Bool) : Prop := b = true → ∀ r ∈ rs, okRow r

set_option maxHeartbeats 400000 in
theorem wellFormed_any (a : Option Addr) (n c : Nat) (rs : List Rw) (w : World) (t : ISS w a n c rs) :
    Calls Try.prog 9 #[.slice a n c] w (BP (WF rs) w) := by
  have hmax := t.max
  have hcap := t.cap
  have T : Hid (ISS w a n c rs) := t
  have HL : Hid (rs.length = n) := t.len
  clear t
  go_enter Try.func9, Try.ntmps9
  go_wp2
  go_loop [3] (fun i => ∃ k : Nat, k ≤ n ∧ i = .int .i64 k ∧ Hid (∀ j (h : j < rs.length), j < k → okRow rs[j])) (fun i => n - (intOf i).toNat)
  case atStart => exact ⟨0, by omega, rfl, fun j _ h => by omega⟩
  case round =>
    obtain ⟨k, hk, rfl, hinv⟩ := hrel
    by_cases hlt : k < n
    · have hkl : k < rs.length := by rw [HL.out]; exact hlt
      have hr := T.out.row _ (List.getElem_mem hkl)
      have hc : ∃ b o, a = some ⟨b, o, none⟩ ∧ w.cell? ⟨b, o + k, none⟩ = some (.slice rs[k].a rs[k].n rs[k].c) := by
        rcases T.out.lies with e | ⟨b, o, e, _, hc⟩
        · omega
        · exact ⟨b, o, e, hc k hkl⟩
      obtain ⟨b, o, rfl, hc⟩ := hc
      have h1 := hr.cap
      have h2 := hr.max
      have HN : Hid (okRow rs[k] → ∀ j (h : j < rs.length), j < k + 1 → okRow rs[j]) := fun ho j hj hjk => by
        rcases Nat.lt_or_ge j k with e | e
        · exact hinv.out j hj e
        · have : j = k := by omega
          subst this; exact ho
      clear hr hinv
      generalize rs[k] = r at *
      by_cases h3 : r.n < 3
      · go_wp2
        go_ret
        exact ⟨⟨false, rfl, rfl, fun h => by cases h⟩⟩
      · by_cases h4 : (r.n - 3) % 3 = 0
        · have hz : ((r.n : Int) % 3 != 0) = false := by simp; omega
          have HF : Hid (∀ j (h : j < rs.length), j < k + 1 → okRow rs[j]) := HN.out ⟨by omega, h4⟩
          go_wp2
          go_round
          case rel => exact ⟨k + 1, by omega, by go_num, HF⟩
          case measure => simp [intOf]; omega
        · have hz : ((r.n : Int) % 3 != 0) = true := by rw [bne_iff_ne]; omega
          go_wp2
          go_ret
          exact ⟨⟨false, rfl, rfl, fun h => by cases h⟩⟩
    · go_wp2
      go_ret
      exact ⟨⟨true, rfl, rfl, fun _ r hr => by
        obtain ⟨j, hj, rfl⟩ := List.getElem_of_mem hr
        exact hinv.out j hj (by rw [HL.out] at hj; omega)⟩⟩

set_option maxHeartbeats 400000 in
theorem same_empty (a1 a2 : Option Addr) (c1 c2 : Nat) (w : World) :
    Calls Try.prog 15 #[.slice a1 0 c1, .slice a2 0 c2] w fun e w' => e = .returned (.bool true) ∧ ∃ m, w' = w.drewN m := by
  go_enter Try.func15, Try.ntmps15
  go_wp2
  refine wp_loop_rounds 1 ?_
  rw [rounds_succ]
  go_wp2
  go_ret
  exact ⟨rfl, 0, rfl⟩

set_option maxHeartbeats 400000 in
/-- zzSameInts at two slices that hold the same numbers. -/
theorem same_any (a1 a2 : Option Addr) (n c1 c2 : Nat) (xs : List Int) (w : World) (t1 : IS w a1 n c1 xs) (t2 : IS w a2 n c2 xs) :
    Calls Try.prog 15 #[.slice a1 n c1, .slice a2 n c2] w fun e w' => e = .returned (.bool true) ∧ ∃ m, w' = w.drewN m := by
  rcases Nat.eq_zero_or_pos n with h0 | h0
  · subst h0; exact same_empty a1 a2 c1 c2 w
  · obtain ⟨b1, o1, rfl, _, h1⟩ : ∃ b o, a1 = some ⟨b, o, none⟩ ∧ b < w.heap.size ∧ ∀ i, i < n → w.cell? ⟨b, o + i, none⟩ = some (.int .i64 (xs.getD i 0)) := by
      rcases t1.lies with e | e
      · omega
      · exact e
    obtain ⟨b2, o2, rfl, _, h2⟩ : ∃ b o, a2 = some ⟨b, o, none⟩ ∧ b < w.heap.size ∧ ∀ i, i < n → w.cell? ⟨b, o + i, none⟩ = some (.int .i64 (xs.getD i 0)) := by
      rcases t2.lies with e | e
      · omega
      · exact e
    have hcap := t1.cap
    have hmax := t1.max
    have H1 : Hid (∀ i, i < n → w.cell? ⟨b1, o1 + i, none⟩ = some (.int .i64 (xs.getD i 0))) := h1
    have H2 : Hid (∀ i, i < n → w.cell? ⟨b2, o2 + i, none⟩ = some (.int .i64 (xs.getD i 0))) := h2
    clear h1 h2 t1 t2
    go_enter Try.func15, Try.ntmps15
    go_wp2
    go_loopw [5] (fun i wr => ∃ k : Nat, k ≤ n ∧ i = .int .i64 k ∧ ∃ q, wr = w.drewN q) (fun i _ => n - (intOf i).toNat)
    case atStart => exact ⟨0, by omega, rfl, 0, rfl⟩
    case round =>
      obtain ⟨k, hk, rfl, q, rfl⟩ := hrel
      by_cases hlt : k < n
      · have hc1 : w.cell? ⟨b1, o1 + k, none⟩ = some (.int .i64 (xs.getD k 0)) := H1.out k hlt
        have hc2 : w.cell? ⟨b2, o2 + k, none⟩ = some (.int .i64 (xs.getD k 0)) := H2.out k hlt
        have hlt' : (k : Int) < (n : Int) := by omega
        generalize xs.getD k 0 = x at *
        go_wp2
        go_quiet (fail)
        go_wp2
        go_roundw
        case rel => exact ⟨k + 1, by omega, by go_num, _, rfl⟩
        case measure => simp [intOf]; omega
      · go_wp2
        go_ret
        exact ⟨rfl, _, rfl⟩
end Go.Proofs.Qxb6613363a
