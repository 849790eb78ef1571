/-
  The maker zzStampsOf.
-/
import Derived.Test.Qxb6613363aMakeA
namespace Go.Proofs.Qxb6613363a
open Go.RowKit Go.Deep

theorem own_ge {w : World} {base e size n : Nat} {v : Value} {xs : List Value} (h : w.ownsRow base e size v n xs) {g : Nat} (hg : v.ownBlock = some g) : base ≤ g := by
  rcases h.2 with ⟨e1, _⟩ | ⟨g', cap, cur, e1, hb, _⟩
  · rw [e1] at hg; cases hg
  · rw [e1] at hg; cases hg; exact hb
theorem own_ne {w : World} {base e size n : Nat} {v : Value} {xs : List Value} (h : w.ownsRow base e size v n xs) {b : Nat} (hb : b < base) : v.ownBlock ≠ some b := by
  intro hg; have := own_ge h hg; omega

theorem take3 (xs : List Int) (k : Nat) (h : 3 * k + 2 < xs.length) : xs.take (3 * (k + 1)) = xs.take (3 * k) ++ [xs.getD (3 * k) 0, xs.getD (3 * k + 1) 0, xs.getD (3 * k + 2) 0] := by
  have g : ∀ j (hj : j < xs.length), xs.take (j + 1) = xs.take j ++ [xs.getD j 0] := fun j hj => by
    rw [List.take_succ_eq_append_getElem hj, List.getD_eq_getElem?_getD, List.getElem?_eq_getElem hj]; rfl
  rw [show 3 * (k + 1) = 3 * k + 1 + 1 + 1 by omega, g (3 * k + 1 + 1) (by omega), g (3 * k + 1) (by omega), g (3 * k) (by omega), List.append_assoc, List.append_assoc]
  rfl

/-- What zzStampsOf gives back: a slice of timestamps of the call's own that holds xs, three numbers each. -/
structure StOut (n : Nat) (xs : List Int) (w : World) (e : Ending) (w' : World) : Prop where
  ex : ∃ v m, e = .returned v ∧ n = 3 * m ∧ w'.ownsRow w.heap.size 42 3 v m (xs.map (Value.int .i64)) ∧ Below w.heap.size w w'

set_option maxRecDepth 100000 in
set_option maxHeartbeats 2000000 in
theorem stamps_any (a : Option Addr) (n c : Nat) (xs : List Int) (w : World) (t : IS w a n c xs) (h3 : n % 3 = 0) (hn : n ≤ 1000000) :
    Calls Try.prog 23 #[.slice a n c] w (StOut n xs w) := by
  cases a with
  | none =>
    have hc := t.nil rfl
    have hcap := t.cap
    have hl := t.len
    obtain rfl : n = 0 := by omega
    subst hc
    obtain rfl : xs = [] := List.eq_nil_of_length_eq_zero hl
    have hen := eqlnil'
    go_enter Try.func23, Try.ntmps23
    go_wp2
    go_ret
    exact ⟨_, 0, rfl, rfl, World.ownsRow_nil _ _ _ _, Below.refl _ _⟩
  | some ad =>
    have hen := eqlnil
    have hcap := t.cap
    have HL : Hid (xs.length = n) := t.len
    have HT : Hid (IS w (some ad) n c xs) := t
    obtain ⟨i0, hi, hz0, hz1, hz2⟩ := info_parts info42
    clear t
    obtain ⟨m, rfl⟩ : ∃ m, n = 3 * m := ⟨n / 3, by omega⟩
    go_enter Try.func23, Try.ntmps23
    go_wp2_with (at_make; refine wpList_make_own _ rfl (.const (.int .i64 0)) (.tmp 9) 43 rfl w.heap.size 42 i0 (.agg #[.int .i64 0, .int .i64 0, .int .i64 0]) 3 Try.underlying43 hi hz0 hz1 .i64 .i64 _ m rfl rfl (by omega) (by rw [hz2]; omega) (by unfold maxLen; omega) (Nat.le_refl _) ?_; intro w3 hown3 hgr3)
    have b3 : Below w.heap.size w w3 := (Below.refl _ w).grown hgr3 (Nat.le_refl _) (fun k h => by cases h)
    go_loopw [3, 4] (fun v i wr => ∃ k : Nat, k ≤ m ∧ i = .int .i64 (3 * (k : Int)) ∧ wr.ownsRow w.heap.size 42 3 v k ((xs.take (3 * k)).map (Value.int .i64)) ∧ Below w.heap.size w wr) (fun _ i _ => 3 * m - (intOf i).toNat)
    case atStart => exact ⟨0, by omega, rfl, hown3, b3⟩
    case round =>
      obtain ⟨k, hk, rfl, hown, hbel⟩ := hrel
      by_cases hlt : k < m
      · obtain ⟨b, o, hspot, hbl, hc⟩ : ∃ b o, ad = ⟨b, o, none⟩ ∧ b < w.heap.size ∧ ∀ i, i < 3 * m → w.cell? ⟨b, o + i, none⟩ = some (.int .i64 (xs.getD i 0)) := by
          rcases HT.out.lies with e | ⟨b, o, e, h1, h2⟩
          · omega
          · cases e; exact ⟨b, o, rfl, h1, h2⟩
        subst hspot
        have hc0 : wr.cell? ⟨b, o + (3 * (k:Int)).toNat, none⟩ = some (.int .i64 (xs.getD (3 * k) 0)) := (hbel.cell (p := ⟨b, o + (3 * (k:Int)).toNat, none⟩) hbl).trans (by rw [show (3 * (k:Int)).toNat = 3 * k by omega]; exact hc _ (by omega))
        have hc1 : wr.cell? ⟨b, o + (3 * (k:Int) + 1).toNat, none⟩ = some (.int .i64 (xs.getD (3 * k + 1) 0)) := (hbel.cell (p := ⟨b, o + (3 * (k:Int) + 1).toNat, none⟩) hbl).trans (by rw [show (3 * (k:Int) + 1).toNat = 3 * k + 1 by omega]; exact hc _ (by omega))
        have hc2 : wr.cell? ⟨b, o + (3 * (k:Int) + 2).toNat, none⟩ = some (.int .i64 (xs.getD (3 * k + 2) 0)) := (hbel.cell (p := ⟨b, o + (3 * (k:Int) + 2).toNat, none⟩) hbl).trans (by rw [show (3 * (k:Int) + 2).toNat = 3 * k + 2 by omega]; exact hc _ (by omega))
        have HT3 : Hid (xs.take (3 * (k + 1)) = xs.take (3 * k) ++ [xs.getD (3 * k) 0, xs.getD (3 * k + 1) 0, xs.getD (3 * k + 2) 0]) := take3 xs k (by rw [HL.out]; omega)
        have hne := own_ne hown hbl
        have hbw : b < wr.heap.size := Nat.lt_of_lt_of_le hbl hbel.size
        have hbs := hbel.size
        clear hc
        generalize xs.getD (3 * k) 0 = x0 at *
        generalize xs.getD (3 * k + 1) 0 = x1 at *
        generalize xs.getD (3 * k + 2) 0 = x2 at *
        obtain ⟨L, hL⟩ : ∃ L, L = (xs.take (3 * k)).map (Value.int .i64) := ⟨_, rfl⟩
        rw [← hL] at hown
        have HLL : Hid (L = (xs.take (3 * k)).map (Value.int .i64)) := hL
        clear hL
        have f1 : (0:Int) ≤ 3 * (k:Int) := by omega
        have f2 : 3 * (k:Int) < 3 * (m:Int) := by omega
        have f3 : (0:Int) ≤ 3 * (k:Int) + 1 := by omega
        have f4 : 3 * (k:Int) + 1 < 3 * (m:Int) := by omega
        have f5 : (0:Int) ≤ 3 * (k:Int) + 2 := by omega
        have f6 : 3 * (k:Int) + 2 < 3 * (m:Int) := by omega
        have f7 : IntKind.i64.wrap (3 * (k:Int) + 1) = 3 * (k:Int) + 1 := by simp [IntKind.wrap, IntKind.bits, IntKind.signed]; omega
        have f8 : IntKind.i64.wrap (3 * (k:Int) + 2) = 3 * (k:Int) + 2 := by simp [IntKind.wrap, IntKind.bits, IntKind.signed]; omega
        go_wp2_with fail
        go_region_held3 (fun w' => w'.cell? ⟨b, o + (3 * (k:Int)).toNat, none⟩ = some (.int .i64 x0) ∧ w'.cell? ⟨b, o + (3 * (k:Int) + 1).toNat, none⟩ = some (.int .i64 x1) ∧ w'.cell? ⟨b, o + (3 * (k:Int) + 2).toNat, none⟩ = some (.int .i64 x2))
          (first
            | go_keep
            | (go_split_ands
               refine ⟨?_, ?_, ?_⟩
               · (rw [hgrow.cell_far _ (by simp; omega) (Ne.symm hne)]; assumption)
               · (rw [hgrow.cell_far _ (by simp; omega) (Ne.symm hne)]; assumption)
               · (rw [hgrow.cell_far _ (by simp; omega) (Ne.symm hne)]; assumption)))
          ((refine step_append_lies _ (by rfl) _ _ _ (by rfl) w.heap.size 42 i0 _ 3 24 Try.underlying43 hi hz0 hz1 hz2 rfl (by omega) u3 k L (by rfl) ((hown.alloc _).drew)
              ⟨wr.heap.size, 0, none⟩ 1 1 [.int .i64 x0, .int .i64 x1, .int .i64 x2] (by rfl) (by rfl) (World.news_of_block (cs := #[.int .i64 x0, .int .i64 x1, .int .i64 x2]) (t := 42) (fr := (0, 0)) (heap_alloc_new wr _)) (by simp [Value.oneCell'])
              (by omega) (by unfold maxLen; omega) (by omega) (by simp; omega) (wr.heap.size + 1) (by simp) ?_; intro gg cap w1 hown1 hgrow hat hlt))
        have hb1 : Below w.heap.size w w1 := by
          refine ((hbel.alloc hbs _).drew).grown hgrow ?_ (fun g hg => own_ge hown hg)
          simp; omega
        rw [HLL.out] at hown1
        have HLL' := HLL.out
        clear HLL
        go_wp2
        go_roundw
        · refine ⟨k + 1, by omega, ?_, ?_, hb1⟩
          · congr 1
          · rw [HT3.out, List.map_append]; exact hown1
        · simp [intOf]; omega
      · obtain rfl : k = m := by omega
        have e1 : xs.take (3 * k) = xs := List.take_of_length_le (by rw [HL.out]; omega)
        rw [e1] at hown
        clear e1
        have f1 : ¬ (3 * (k:Int) + 2 < 3 * (k:Int)) := by omega
        have f8 : IntKind.i64.wrap (3 * (k:Int) + 2) = 3 * (k:Int) + 2 := by simp [IntKind.wrap, IntKind.bits, IntKind.signed]; omega
        go_wp2
        go_ret
        exact ⟨_, k, rfl, rfl, hown, hbel⟩
end Go.Proofs.Qxb6613363a
