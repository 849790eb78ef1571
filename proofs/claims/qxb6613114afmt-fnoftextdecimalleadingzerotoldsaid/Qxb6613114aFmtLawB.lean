/-
  The law FnOfTextDecimalLeadingZero: its walk where the text is refused, and where it is empty.
-/
import Derived.Test.Qxb6613114aFmtLaw
namespace Go.Proofs.Qxb6613114aFmt
open Go.RowKit Go.Deep Go.Extern.Stop Go.Stop Go.Extern

set_option maxHeartbeats 2000000 in
theorem law_fail (F : Interp) (a : Option Addr) (n c : Nat) (xs : List Int) (w : World) (hF : F.answers w.tape) (E : Env w) (t : Txt w a n c xs) (hn : n ≤ 65536) (hn0 : 0 < n) (hd : decOpt xs = none) :
    Calls Tryf.prog 3 #[.slice a n c] w fun e w' => e = .returned (.bool true) ∧ Below w.heap.size w w' := by
  have h2 : decide (n ≤ 1048576) = true := decide_eq_true (by omega)
  obtain ⟨i0, hi, hz0, hz1, hz2⟩ := info_parts info5
  have b1 : Below w.heap.size w (w.alloc (.cells #[.string ⟨#[122, 122, 110, 117, 109, 101, 114, 105, 99]⟩, .func (.func 10) #[] #[], .nilFunc] 39)) := (Below.refl _ w).alloc (Nat.le_refl _) _
  have f1 : IsFn (w.alloc (.cells #[.string ⟨#[122, 122, 110, 117, 109, 101, 114, 105, 99]⟩, .func (.func 10) #[] #[], .nilFunc] 39)) w.heap.size := ⟨by simp, by rw [World.cell?_alloc_mark]; rfl, by rw [World.cell?_alloc_mark]; rfl⟩
  have E1 := E.below b1
  have t1 := t.below b1
  have hlen := t.len
  have hxs : Hid (decOpt (48 :: xs) = none) := by unfold Hid; rw [decOpt_zero_ne xs (by intro e; rw [e] at hlen; simp at hlen; omega)]; exact hd
  have HLEN : Hid (xs.length = n) := hlen
  have HF : Hid (F.answers w.tape) := hF
  clear hlen hF
  go_enter Tryf.func3, Tryf.ntmps3
  go_wp2_with (first
    | (go_at_call 4; refine (bound_any a n c _ t.max).mono ?_; rintro e w0 ⟨rfl, rfl⟩)
    | (go_at_call 5; refine (newFn _ _).mono ?_; rintro e w' ⟨rfl, rfl⟩))
  obtain ⟨w1, hw1⟩ : ∃ w1, w1 = w0.alloc (.cells #[.string ⟨#[122, 122, 110, 117, 109, 101, 114, 105, 99]⟩, .func (.func 10) #[] #[], .nilFunc] 39) := ⟨_, rfl⟩
  rw [← hw1] at b1 f1 E1 t1
  rw [← hw1]
  clear hw1
  have hF1 : F.answers w1.tape := by rw [b1.tape]; exact HF.out
  refine (ofText_fail F w0.heap.size a n c xs w1 hF1 E1 f1 t1 hd).mono ?_
  rintro e w2 ⟨T1, y1, rfl, hb2⟩
  have b2 : Below w0.heap.size w0 w2 := b1.trans (hb2.mono b1.size)
  have t2 := t1.below hb2
  have f2 := f1.below hb2
  have E2 := E1.below hb2
  have s2 : w0.heap.size ≤ w2.heap.size := b2.size
  clear hb2 t1 f1 E1 b1
  go_wp2_with (first
    | (at_make; refine wpList_make_own _ rfl (.const (.int .i64 0)) (.tmp 26) 22 rfl w2.heap.size 5 i0 (.int .u8 0) 1 Tryf.underlying22 hi hz0 hz1 .i64 .i64 _ (n + 1) rfl rfl (by omega) (by rw [hz2]; omega) (by unfold maxLen; omega) (Nat.le_refl _) ?_; intro w3 hown3 hgr3)
    | (at_builtin; refine wpList_append_fits _ rfl (.tmp 28) (.tmp 29) 22 rfl w2.heap.size 5 i0 1 Tryf.underlying22 hi hz1 w2.heap.size 0 (n + 1) [] rfl (hown3.alloc _) ⟨w3.heap.size, 0, none⟩ 1 1 [.int .u8 48] rfl rfl (cell_one_new _ _ _) (by intro q hq; simp at hq; subst hq; rfl) (by omega) ?_; intro w4 hown4 hgr4; rw [Nat.zero_add, List.nil_append] at hown4; have bb4 : Below w2.heap.size w2 w4 := below_two hgr3 hgr4)
    | (at_builtin; refine wpList_append_fits_any _ rfl (.tmp 31) (.tmp 32) 22 rfl w2.heap.size 5 i0 1 Tryf.underlying22 hi hz1 w2.heap.size 1 (n + 1) [.int .u8 48] rfl hown4 a n c (xs.map (Value.int .u8)) rfl (by rw [List.length_map, HLEN.out, Nat.mul_one]) t2.none (t2.below bb4).cells (ints_one xs) (by omega) ?_; intro w5 hown5 hgr5; have bb5 : Below w2.heap.size w2 w5 := bb4.grown hgr5 bb4.size (fun k hk => by cases hk; exact Nat.le_refl _)))
  have b5 : Below w0.heap.size w0 w5 := b2.trans (bb5.mono s2)
  have t5 := t2.below bb5
  have f5 := f2.below bb5
  have E5 := E2.below bb5
  have z5 : Txt w5 (some ⟨w2.heap.size, 0, none⟩) (1 + n) (n + 1) (48 :: xs) := by
    refine txt_own hown5 ?_ (by omega) ?_
    · intro x hx
      rcases List.mem_cons.1 hx with e | e
      · subst e; omega
      · exact t.byte x e
    · rcases hown5.2 with ⟨e, _⟩ | ⟨g, cap, cur, e, _, hg, _⟩
      · cases e
      · cases e
        rcases Nat.lt_or_ge w2.heap.size w5.heap.size with h | h
        · exact h
        · rw [Array.getElem?_eq_none h] at hg; cases hg
  have hF5 : F.answers w5.tape := by rw [b5.tape]; exact HF.out
  clear hown3 hgr3 hown4 hgr4 hown5 hgr5 bb4 bb5 t2 f2 E2 b2 s2
  refine (ofText_fail F w0.heap.size _ _ _ (48 :: xs) w5 hF5 E5 f5 z5 hxs.out).mono ?_
  rintro e w6 ⟨T2, y2, rfl, hb6⟩
  have b6 : Below w0.heap.size w0 w6 := b5.trans (hb6.mono b5.size)
  have t6 := t5.below hb6
  clear hb6 t5 f5 E5 z5 b5 hF5 hF1
  have hd7 : Calls Tryf.prog 7 #[.slice a n c] w6 fun e w' => e = .returned (.tuple #[.int .u64 0, .bool false]) ∧ w' = w6 := by
    have := decimal_txt t6; rw [hd] at this; exact this
  have hns1 : ∀ wx, (binOp .neq 26 (.slice none 0 0) (.slice none 0 0)).run Tryf.prog wx = .ok (.bool false) wx := fun _ => by kernel_rfl
  have hns2 : ∀ wx, (binOp .eql 26 (.slice none 0 0) (.slice none 0 0)).run Tryf.prog wx = .ok (.bool true) wx := fun _ => by kernel_rfl
  have hne : ((n : Int) == 0) = false := by simp; omega
  go_wp2_with fail
  refine hd7.mono ?_
  rintro e w7 ⟨rfl, rfl⟩
  clear hd7 t6
  go_wp2_with fail
  refine (same_empty _ _ _ _ _).mono ?_
  rintro e w8 ⟨rfl, hb8⟩
  have b8 : Below w0.heap.size w0 w8 := b6.trans (hb8.mono b6.size)
  clear hb8 b6
  go_wp2
  go_ret
  exact ⟨rfl, b8⟩

set_option maxHeartbeats 2000000 in
theorem law_empty (F : Interp) (a : Option Addr) (n c : Nat) (xs : List Int) (w : World) (hF : F.answers w.tape) (E : Env w) (t : Txt w a n c xs) (hn0 : n = 0) :
    Calls Tryf.prog 3 #[.slice a n c] w fun e w' => e = .returned (.bool true) ∧ Below w.heap.size w w' := by
  subst hn0
  obtain ⟨n, hn0⟩ : ∃ n : Nat, n = 0 := ⟨0, rfl⟩
  rw [← hn0] at t ⊢
  have hn : n ≤ 65536 := by omega
  have hlen := t.len
  have hnil : xs = [] := List.eq_nil_of_length_eq_zero (by omega)
  have hd : decOpt xs = none := by rw [hnil]; rfl
  have h2 : decide (n ≤ 1048576) = true := decide_eq_true (by omega)
  obtain ⟨i0, hi, hz0, hz1, hz2⟩ := info_parts info5
  have b1 : Below w.heap.size w (w.alloc (.cells #[.string ⟨#[122, 122, 110, 117, 109, 101, 114, 105, 99]⟩, .func (.func 10) #[] #[], .nilFunc] 39)) := (Below.refl _ w).alloc (Nat.le_refl _) _
  have f1 : IsFn (w.alloc (.cells #[.string ⟨#[122, 122, 110, 117, 109, 101, 114, 105, 99]⟩, .func (.func 10) #[] #[], .nilFunc] 39)) w.heap.size := ⟨by simp, by rw [World.cell?_alloc_mark]; rfl, by rw [World.cell?_alloc_mark]; rfl⟩
  have E1 := E.below b1
  have t1 := t.below b1
  have hxs : Hid (decOpt (48 :: xs) = some 0) := by unfold Hid; rw [hnil]; rfl
  have HLEN : Hid (xs.length = n) := hlen
  have HF : Hid (F.answers w.tape) := hF
  have HN0 : Hid (n = 0) := hn0
  clear hlen hF hn0 hnil
  go_enter Tryf.func3, Tryf.ntmps3
  go_wp2_with (first
    | (go_at_call 4; refine (bound_any a n c _ t.max).mono ?_; rintro e w0 ⟨rfl, rfl⟩)
    | (go_at_call 5; refine (newFn _ _).mono ?_; rintro e w' ⟨rfl, rfl⟩))
  obtain ⟨w1, hw1⟩ : ∃ w1, w1 = w0.alloc (.cells #[.string ⟨#[122, 122, 110, 117, 109, 101, 114, 105, 99]⟩, .func (.func 10) #[] #[], .nilFunc] 39) := ⟨_, rfl⟩
  rw [← hw1] at b1 f1 E1 t1
  rw [← hw1]
  clear hw1
  have hF1 : F.answers w1.tape := by rw [b1.tape]; exact HF.out
  refine (ofText_fail F w0.heap.size a n c xs w1 hF1 E1 f1 t1 hd).mono ?_
  rintro e w2 ⟨T1, y1, rfl, hb2⟩
  have b2 : Below w0.heap.size w0 w2 := b1.trans (hb2.mono b1.size)
  have t2 := t1.below hb2
  have f2 := f1.below hb2
  have E2 := E1.below hb2
  have s2 : w0.heap.size ≤ w2.heap.size := b2.size
  clear hb2 t1 f1 E1 b1
  go_wp2_with (first
    | (at_make; refine wpList_make_own _ rfl (.const (.int .i64 0)) (.tmp 26) 22 rfl w2.heap.size 5 i0 (.int .u8 0) 1 Tryf.underlying22 hi hz0 hz1 .i64 .i64 _ (n + 1) rfl rfl (by omega) (by rw [hz2]; omega) (by unfold maxLen; omega) (Nat.le_refl _) ?_; intro w3 hown3 hgr3)
    | (at_builtin; refine wpList_append_fits _ rfl (.tmp 28) (.tmp 29) 22 rfl w2.heap.size 5 i0 1 Tryf.underlying22 hi hz1 w2.heap.size 0 (n + 1) [] rfl (hown3.alloc _) ⟨w3.heap.size, 0, none⟩ 1 1 [.int .u8 48] rfl rfl (cell_one_new _ _ _) (by intro q hq; simp at hq; subst hq; rfl) (by omega) ?_; intro w4 hown4 hgr4; rw [Nat.zero_add, List.nil_append] at hown4; have bb4 : Below w2.heap.size w2 w4 := below_two hgr3 hgr4)
    | (at_builtin; refine wpList_append_fits_any _ rfl (.tmp 31) (.tmp 32) 22 rfl w2.heap.size 5 i0 1 Tryf.underlying22 hi hz1 w2.heap.size 1 (n + 1) [.int .u8 48] rfl hown4 a n c (xs.map (Value.int .u8)) rfl (by rw [List.length_map, HLEN.out, Nat.mul_one]) t2.none (t2.below bb4).cells (ints_one xs) (by omega) ?_; intro w5 hown5 hgr5; have bb5 : Below w2.heap.size w2 w5 := bb4.grown hgr5 bb4.size (fun k hk => by cases hk; exact Nat.le_refl _)))
  have b5 : Below w0.heap.size w0 w5 := b2.trans (bb5.mono s2)
  have t5 := t2.below bb5
  have f5 := f2.below bb5
  have E5 := E2.below bb5
  have z5 : Txt w5 (some ⟨w2.heap.size, 0, none⟩) (1 + n) (n + 1) (48 :: xs) := by
    refine txt_own hown5 ?_ (by omega) ?_
    · intro x hx
      rcases List.mem_cons.1 hx with e | e
      · subst e; omega
      · exact t.byte x e
    · rcases hown5.2 with ⟨e, _⟩ | ⟨g, cap, cur, e, _, hg, _⟩
      · cases e
      · cases e
        rcases Nat.lt_or_ge w2.heap.size w5.heap.size with h | h
        · exact h
        · rw [Array.getElem?_eq_none h] at hg; cases hg
  clear hown3 hgr3 hown4 hgr4 hown5 hgr5 bb4 bb5 t2 f2 E2 b2 s2
  refine (ofText_ok w0.heap.size _ _ _ (48 :: xs) 0 w5 E5 f5 z5 hxs.out).mono ?_
  rintro e w6 ⟨v2, rfl, ⟨g2, cap2, rfl, hg2, hg2', hc2⟩, hb6⟩
  have b6 : Below w0.heap.size w0 w6 := b5.trans (hb6.mono b5.size)
  have t6 := t5.below hb6
  have HC2 : Hid (∀ i, i < (hexL 0).length → w6.cell? ⟨g2, i, none⟩ = some (.int .u8 ((hexL 0).getD i 0))) := hc2
  clear hc2 hb6 t5 f5 E5 z5 b5 hg2 hF1
  have hd7 : Calls Tryf.prog 7 #[.slice a n c] w6 fun e w' => e = .returned (.tuple #[.int .u64 0, .bool false]) ∧ w' = w6 := by
    have := decimal_txt t6; rw [hd] at this; exact this
  have hns1 : ∀ wx, (binOp .neq 26 (.slice none 0 0) (.slice none 0 0)).run Tryf.prog wx = .ok (.bool false) wx := fun _ => by kernel_rfl
  have hne : ((n : Int) == 0) = true := by rw [HN0.out]; rfl
  go_wp2_with fail
  refine hd7.mono ?_
  rintro e w7 ⟨rfl, rfl⟩
  clear hd7 t6
  go_wp2_with fail
  rw [show (hexL 0).length = 1 from rfl]
  refine (same_at g2 _ w7.heap.size _ [48] _ (by simp) ?_ ?_).mono ?_
  · intro i hi
    rw [((Below.refl w7.heap.size w7).alloc (Nat.le_refl _) _).cell (p := ⟨g2, i, none⟩) hg2']
    exact HC2.out i hi
  · intro i hi
    have : i = 0 := by simp at hi; omega
    subst this
    rw [World.cell?_alloc_mark]; rfl
  rintro e w8 ⟨rfl, hb8⟩
  have b8 : Below w0.heap.size w0 w8 := (b6.alloc b6.size _).trans (hb8.mono (by have := b6.size; simp; omega))
  clear hb8 b6
  go_wp2
  go_ret
  exact ⟨rfl, b8⟩

/-- THE LAW: at every slice that can be read. -/
theorem law_any (F : Interp) (a : Option Addr) (n c : Nat) (xs : List Int) (w : World) (hF : F.answers w.tape) (E : Env w) (t : Txt w a n c xs) :
    Calls Tryf.prog 3 #[.slice a n c] w fun e w' => e = .returned (.bool true) ∧ Below w.heap.size w w' := by
  by_cases h1 : n ≤ 65536
  · rcases Nat.eq_zero_or_pos n with h0 | h0
    · exact law_empty F a n c xs w hF E t h0
    · cases hd : decOpt xs with
      | none => exact law_fail F a n c xs w hF E t h1 h0 hd
      | some u => exact law_ok a n c xs u w E t h1 hd
  · exact law_big a n c w t.max (by omega)
end Go.Proofs.Qxb6613114aFmt
