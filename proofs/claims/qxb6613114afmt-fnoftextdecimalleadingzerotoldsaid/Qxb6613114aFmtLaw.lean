/-
  The law FnOfTextDecimalLeadingZero: its walk.
-/
import Derived.Test.Qxb6613114aFmtOfText
namespace Go.Proofs.Qxb6613114aFmt
open Go.RowKit Go.Deep Go.Extern.Stop Go.Stop Go.Extern

set_option maxHeartbeats 400000 in
theorem law_big (a : Option Addr) (n c : Nat) (w : World) (hmax : n ≤ 140737488355328) (h : 65536 < n) :
    Calls Tryf.prog 3 #[.slice a n c] w fun e w' => e = .returned (.bool true) ∧ Below w.heap.size w w' := by
  by_cases h2 : n ≤ 1048576
  · have hd : decide (n ≤ 1048576) = true := decide_eq_true h2
    go_enter Tryf.func3, Tryf.ntmps3
    go_wp2_with (go_at_call 4; refine (bound_any a n c _ hmax).mono ?_; rintro e w' ⟨rfl, rfl⟩)
    go_ret
    exact ⟨rfl, Below.refl _ _⟩
  · have hd : decide (n ≤ 1048576) = false := decide_eq_false h2
    go_enter Tryf.func3, Tryf.ntmps3
    go_wp2_with (go_at_call 4; refine (bound_any a n c _ hmax).mono ?_; rintro e w' ⟨rfl, rfl⟩)
    go_ret
    exact ⟨rfl, Below.refl _ _⟩

/-- The text's slice as the second append reads it. -/
theorem Txt.none {w : World} {a : Option Addr} {n c : Nat} {xs : List Int} (t : Txt w a n c xs) : a = none → n = 0 ∧ c = 0 := by
  intro h
  rcases t.lies with ⟨_, e⟩ | ⟨x, e, _⟩
  · exact e
  · rw [h] at e; cases e
theorem Txt.cells {w : World} {a : Option Addr} {n c : Nat} {xs : List Int} (t : Txt w a n c xs) : ∀ ad, a = some ad → ∀ j u, (xs.map (Value.int .u8))[j]? = some u → w.cell? (ad.add j) = some u := by
  intro ad h
  rcases t.lies with ⟨e, _⟩ | ⟨x, e, _, hc⟩
  · rw [h] at e; cases e
  · rw [h] at e; cases e; exact hc
theorem ints_one (xs : List Int) : ∀ u ∈ xs.map (Value.int .u8), u.oneCell' = true := by
  intro u hu; obtain ⟨y, _, rfl⟩ := List.mem_map.1 hu; rfl
/-- What the law has appended can be read. -/
theorem txt_own {w : World} {base g n cap : Nat} {xs : List Int} (h : w.ownsRow base 5 1 (.slice (some ⟨g, 0, none⟩) n cap) n (xs.map (Value.int .u8))) (hb : ∀ x ∈ xs, 0 ≤ x ∧ x < 256) (hm : n ≤ 140737488355328) (hg : g < w.heap.size) :
    Txt w (some ⟨g, 0, none⟩) n cap xs := by
  have hl : xs.length = n := by have := h.1; simpa using this
  refine ⟨hl, hm, hb, .inr ⟨_, rfl, .inr ⟨rfl, hg⟩, ?_⟩⟩
  intro j v hv
  have hj : j < n := by have := (List.getElem?_eq_some_iff.1 hv).1; simp at this; omega
  rw [Addr.add_mid, Nat.zero_add, h.cellAt j (by omega)]
  exact hv

theorem decimal_txt {w : World} {a : Option Addr} {n c : Nat} {xs : List Int} (t : Txt w a n c xs) :
    Calls Tryf.prog 7 #[.slice a n c] w fun e w' => e = .returned (.tuple #[.int .u64 (dvN (decOpt xs)), .bool (dvB (decOpt xs))]) ∧ w' = w := by
  rcases Nat.eq_zero_or_pos n with e | e
  · subst e
    obtain rfl : xs = [] := List.eq_nil_of_length_eq_zero t.len
    exact decimal_empty a c w
  · rcases t.lies with ⟨_, e', _⟩ | ⟨x, rfl, hx, hc⟩
    · omega
    · obtain ⟨b, o, sp⟩ := x
      rcases hx with e' | ⟨e1, e2⟩
      · omega
      · have : sp = none := e1
        subst this
        have hl := t.len
        refine decimal_some b o n c xs w hl e t.max ?_ ?_
        · intro i hi
          have := hc i (.int .u8 (xs.getD i 0)) (by rw [List.getElem?_map, List.getElem?_eq_getElem (by omega), List.getD_eq_getElem?_getD, List.getElem?_eq_getElem (by omega)]; rfl)
          rwa [Addr.add_mid] at this
        · intro i hi
          rw [List.getD_eq_getElem?_getD, List.getElem?_eq_getElem (by omega)]
          exact t.byte _ (List.getElem_mem _)
theorem hexof_any (u : Nat) (w : World) (hu : u < 18446744073709551616) :
    Calls Tryf.prog 9 #[.int .u64 u] w fun e w' => ∃ v, e = .returned v ∧ Made w.heap.size v (hexL u) w' ∧ Below w.heap.size w w' := by
  rcases Nat.eq_zero_or_pos u with e | e
  · subst e; exact hexof_zero w
  · exact hexof_pos u w e hu
theorem same_at (b1 c1 b2 c2 : Nat) (xs : List Int) (w : World) (hmax : xs.length ≤ 140737488355328)
    (h1 : ∀ i, i < xs.length → w.cell? ⟨b1, i, none⟩ = some (.int .u8 (xs.getD i 0))) (h2 : ∀ i, i < xs.length → w.cell? ⟨b2, i, none⟩ = some (.int .u8 (xs.getD i 0))) :
    Calls Tryf.prog 8 #[.slice (some ⟨b1, 0, none⟩) xs.length c1, .slice (some ⟨b2, 0, none⟩) xs.length c2] w fun e w' => e = .returned (.bool true) ∧ Below w.heap.size w w' :=
  same_some b1 0 c1 b2 0 c2 xs.length xs w hmax (fun i hi => by rw [Nat.zero_add]; exact h1 i hi) (fun i hi => by rw [Nat.zero_add]; exact h2 i hi)

theorem below_two {w2 w3 w4 : World} {o : Obj} (h3 : w2.grownBy w3 none) (h4 : (w3.alloc o).grownBy w4 (some w2.heap.size)) : Below w2.heap.size w2 w4 := by
  have e1 : Below w2.heap.size w2 w3 := (Below.refl _ w2).grown h3 (Nat.le_refl _) (fun k h => by cases h)
  exact (e1.alloc e1.size o).grown h4 (by have := e1.size; simp; omega) (fun k h => by cases h; exact Nat.le_refl _)

set_option maxHeartbeats 2000000 in
theorem law_ok (a : Option Addr) (n c : Nat) (xs : List Int) (u : Nat) (w : World) (E : Env w) (t : Txt w a n c xs) (hn : n ≤ 65536) (hd : decOpt xs = some u) :
    Calls Tryf.prog 3 #[.slice a n c] w fun e w' => e = .returned (.bool true) ∧ Below w.heap.size w w' := by
  have h2 : decide (n ≤ 1048576) = true := decide_eq_true (by omega)
  obtain ⟨i0, hi, hz0, hz1, hz2⟩ := info_parts info5
  have b1 : Below w.heap.size w (w.alloc (.cells #[.string ⟨#[122, 122, 110, 117, 109, 101, 114, 105, 99]⟩, .func (.func 10) #[] #[], .nilFunc] 39)) := (Below.refl _ w).alloc (Nat.le_refl _) _
  have f1 : IsFn (w.alloc (.cells #[.string ⟨#[122, 122, 110, 117, 109, 101, 114, 105, 99]⟩, .func (.func 10) #[] #[], .nilFunc] 39)) w.heap.size := ⟨by simp, by rw [World.cell?_alloc_mark]; rfl, by rw [World.cell?_alloc_mark]; rfl⟩
  have E1 := E.below b1
  have t1 := t.below b1
  have hxs : Hid (decOpt (48 :: xs) = some u) := by unfold Hid; rw [decOpt_zero_ne xs (by intro e; rw [e] at hd; cases hd)]; exact hd
  have hul := decOpt_lt xs u hd
  have hlen := t.len
  have HLEN : Hid (xs.length = n) := hlen
  have hn0 : 0 < n := by
    rcases Nat.eq_zero_or_pos n with e | e
    · obtain rfl : xs = [] := List.eq_nil_of_length_eq_zero (by omega)
      cases hd
    · exact e
  clear hlen
  go_enter Tryf.func3, Tryf.ntmps3
  go_wp2_with (first
    | (go_at_call 4; refine (bound_any a n c _ t.max).mono ?_; rintro e w0 ⟨rfl, rfl⟩)
    | (go_at_call 5; refine (newFn _ _).mono ?_; rintro e w' ⟨rfl, rfl⟩))
  obtain ⟨w1, hw1⟩ : ∃ w1, w1 = w0.alloc (.cells #[.string ⟨#[122, 122, 110, 117, 109, 101, 114, 105, 99]⟩, .func (.func 10) #[] #[], .nilFunc] 39) := ⟨_, rfl⟩
  rw [← hw1] at b1 f1 E1 t1
  rw [← hw1]
  clear hw1
  refine (ofText_ok w0.heap.size a n c xs u w1 E1 f1 t1 hd).mono ?_
  rintro e w2 ⟨v1, rfl, ⟨g1, cap1, rfl, hg1, hg1', hc1⟩, hb2⟩
  have b2 : Below w0.heap.size w0 w2 := b1.trans (hb2.mono b1.size)
  have t2 := t1.below hb2
  have f2 := f1.below hb2
  have E2 := E1.below hb2
  have HC1 : Hid (∀ i, i < (hexL u).length → w2.cell? ⟨g1, i, none⟩ = some (.int .u8 ((hexL u).getD i 0))) := hc1
  have s2 : w0.heap.size ≤ w2.heap.size := b2.size
  clear hc1 hb2 t1 f1 E1 b1 hg1
  go_wp2_with (first
    | (at_make; refine wpList_make_own _ rfl (.const (.int .i64 0)) (.tmp 26) 22 rfl w2.heap.size 5 i0 (.int .u8 0) 1 Tryf.underlying22 hi hz0 hz1 .i64 .i64 _ (n + 1) rfl rfl (by omega) (by rw [hz2]; omega) (by unfold maxLen; omega) (Nat.le_refl _) ?_; intro w3 hown3 hgr3)
    | (at_builtin; refine wpList_append_fits _ rfl (.tmp 28) (.tmp 29) 22 rfl w2.heap.size 5 i0 1 Tryf.underlying22 hi hz1 w2.heap.size 0 (n + 1) [] rfl (hown3.alloc _) ⟨w3.heap.size, 0, none⟩ 1 1 [.int .u8 48] rfl rfl (cell_one_new _ _ _) (by intro q hq; simp at hq; subst hq; rfl) (by omega) ?_; intro w4 hown4 hgr4; rw [Nat.zero_add, List.nil_append] at hown4; have bb4 : Below w2.heap.size w2 w4 := below_two hgr3 hgr4)
    | (at_builtin; refine wpList_append_fits_any _ rfl (.tmp 31) (.tmp 32) 22 rfl w2.heap.size 5 i0 1 Tryf.underlying22 hi hz1 w2.heap.size 1 (n + 1) [.int .u8 48] rfl hown4 a n c (xs.map (Value.int .u8)) rfl (by rw [List.length_map, HLEN.out, Nat.mul_one]) t2.none (t2.below bb4).cells (ints_one xs) (by omega) ?_; intro w5 hown5 hgr5; have bb5 : Below w2.heap.size w2 w5 := bb4.grown hgr5 bb4.size (fun k hk => by cases hk; exact Nat.le_refl _)))
  have b5 : Below w0.heap.size w0 w5 := b2.trans (bb5.mono s2)
  have t5 := t2.below bb5
  have f5 := f2.below bb5
  have E5 := E2.below bb5
  have z5 : Txt w5 (some ⟨w2.heap.size, 0, none⟩) (1 + n) (n + 1) (48 :: xs) := by
    refine txt_own hown5 ?_ (by omega) ?_
    · intro x hx
      rcases List.mem_cons.1 hx with e | e
      · subst e; omega
      · exact t.byte x e
    · rcases hown5.2 with ⟨e, _⟩ | ⟨g, cap, cur, e, _, hg, _⟩
      · cases e
      · cases e
        rcases Nat.lt_or_ge w2.heap.size w5.heap.size with h | h
        · exact h
        · rw [Array.getElem?_eq_none h] at hg; cases hg
  have HC5 : Hid (∀ i, i < (hexL u).length → w5.cell? ⟨g1, i, none⟩ = some (.int .u8 ((hexL u).getD i 0))) := fun i hi => (bb5.cell (p := ⟨g1, i, none⟩) hg1').trans (HC1.out i hi)
  have hg5 : g1 < w5.heap.size := Nat.lt_of_lt_of_le hg1' bb5.size
  clear HC1 hown3 hgr3 hown4 hgr4 hown5 hgr5 bb4 bb5 t2 f2 E2 b2 hg1' s2
  refine (ofText_ok w0.heap.size _ _ _ (48 :: xs) u w5 E5 f5 z5 hxs.out).mono ?_
  rintro e w6 ⟨v2, rfl, ⟨g2, cap2, rfl, hg2, hg2', hc2⟩, hb6⟩
  have b6 : Below w0.heap.size w0 w6 := b5.trans (hb6.mono b5.size)
  have t6 := t5.below hb6
  have HC6 : Hid (∀ i, i < (hexL u).length → w6.cell? ⟨g1, i, none⟩ = some (.int .u8 ((hexL u).getD i 0))) := fun i hi => (hb6.cell (p := ⟨g1, i, none⟩) hg5).trans (HC5.out i hi)
  have HC2 : Hid (∀ i, i < (hexL u).length → w6.cell? ⟨g2, i, none⟩ = some (.int .u8 ((hexL u).getD i 0))) := hc2
  have hg6 : g1 < w6.heap.size := Nat.lt_of_lt_of_le hg5 hb6.size
  clear HC5 hc2 hb6 t5 f5 E5 z5 b5 hg5 hg2
  have hll := hexL_len u
  have hd7 : Calls Tryf.prog 7 #[.slice a n c] w6 fun e w' => e = .returned (.tuple #[.int .u64 u, .bool true]) ∧ w' = w6 := by
    have := decimal_txt t6; rw [hd] at this; exact this
  have hul2 : (hexL u).length ≤ 140737488355328 := by omega
  have hns1 : ∀ wx, (binOp .eql 26 (.slice (some ⟨g1, 0, none⟩) (hexL u).length cap1) (.slice none 0 0)).run Tryf.prog wx = .ok (.bool false) wx := fun _ => by kernel_rfl
  have hns2 : ∀ wx, (binOp .eql 26 (.slice (some ⟨g2, 0, none⟩) (hexL u).length cap2) (.slice none 0 0)).run Tryf.prog wx = .ok (.bool false) wx := fun _ => by kernel_rfl
  go_wp2_with fail
  refine hd7.mono ?_
  rintro e w7 ⟨rfl, rfl⟩
  clear hd7 t6
  go_wp2_with fail
  refine (hexof_any u _ hul).mono ?_
  rintro e w8 ⟨v3, rfl, ⟨g3, cap3, rfl, hg3, hg3', hc3⟩, hb8⟩
  have b8 : Below w0.heap.size w0 w8 := b6.trans (hb8.mono b6.size)
  have HA : Hid (∀ i, i < (hexL u).length → w8.cell? ⟨g1, i, none⟩ = some (.int .u8 ((hexL u).getD i 0))) := fun i hi => (hb8.cell (p := ⟨g1, i, none⟩) hg6).trans (HC6.out i hi)
  have HB : Hid (∀ i, i < (hexL u).length → w8.cell? ⟨g2, i, none⟩ = some (.int .u8 ((hexL u).getD i 0))) := fun i hi => (hb8.cell (p := ⟨g2, i, none⟩) hg2').trans (HC2.out i hi)
  have HC : Hid (∀ i, i < (hexL u).length → w8.cell? ⟨g3, i, none⟩ = some (.int .u8 ((hexL u).getD i 0))) := hc3
  have k1 : g1 < w8.heap.size := Nat.lt_of_lt_of_le hg6 hb8.size
  have k2 : g2 < w8.heap.size := Nat.lt_of_lt_of_le hg2' hb8.size
  clear hc3 hb8 HC6 HC2 b6 hg6 hg2' hg3
  go_wp2_with fail
  refine (same_at g1 _ g3 _ (hexL u) _ hul2 HA.out HC.out).mono ?_
  rintro e w9 ⟨rfl, hb9⟩
  have b9 : Below w0.heap.size w0 w9 := b8.trans (hb9.mono b8.size)
  have HA9 : Hid (∀ i, i < (hexL u).length → w9.cell? ⟨g1, i, none⟩ = some (.int .u8 ((hexL u).getD i 0))) := fun i hi => (hb9.cell (p := ⟨g1, i, none⟩) k1).trans (HA.out i hi)
  have HB9 : Hid (∀ i, i < (hexL u).length → w9.cell? ⟨g2, i, none⟩ = some (.int .u8 ((hexL u).getD i 0))) := fun i hi => (hb9.cell (p := ⟨g2, i, none⟩) k2).trans (HB.out i hi)
  clear HA HB HC hb9 b8
  have hne : ((n : Int) == 0) = false := by simp; omega
  go_wp2_with fail
  refine (same_at g2 _ g1 _ (hexL u) _ hul2 HB9.out HA9.out).mono ?_
  rintro e w10 ⟨rfl, hb10⟩
  have b10 : Below w0.heap.size w0 w10 := b9.trans (hb10.mono b9.size)
  clear HA9 HB9 hb10 b9
  go_wp2
  go_ret
  exact ⟨rfl, b10⟩
end Go.Proofs.Qxb6613114aFmt
