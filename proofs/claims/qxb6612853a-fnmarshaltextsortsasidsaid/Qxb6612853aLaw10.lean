/-
  zzCmpBytes, zzCmp32 and the law FnMarshalTextSortsAsID: the walk.
-/
import Derived.Test.Qxb6612853aLaw9
import Derived.BigQuiet
import Derived.Deep.DrawnRows
import Derived.Deep.QuietTactic
namespace Go.Proofs.Qxb6612853a
open Go.RowKit

/-- Lexicographic comparison of two lists of one length. -/
def cmpL : List Int → List Int → Int
  | a :: xs, b :: ys => if a < b then -1 else if b < a then 1 else cmpL xs ys
  | _, _ => 0

theorem cmpL_nil (bs : List Int) : cmpL [] bs = 0 := by cases bs <;> rfl
theorem drop_getD (l : List Int) (k : Nat) (h : k < l.length) : l.drop k = l.getD k 0 :: l.drop (k + 1) := by
  rw [List.drop_eq_getElem_cons h, List.getD_eq_getElem?_getD, List.getElem?_eq_getElem h]; rfl
theorem cmpL_lt (a b : List Int) (k : Nat) (ha : k < a.length) (hb : k < b.length) (h : a.getD k 0 < b.getD k 0) : cmpL (a.drop k) (b.drop k) = -1 := by
  rw [drop_getD a k ha, drop_getD b k hb, cmpL, if_pos h]
theorem cmpL_gt (a b : List Int) (k : Nat) (ha : k < a.length) (hb : k < b.length) (h : b.getD k 0 < a.getD k 0) : cmpL (a.drop k) (b.drop k) = 1 := by
  rw [drop_getD a k ha, drop_getD b k hb, cmpL, if_neg (by omega), if_pos h]
theorem cmpL_eq (a b : List Int) (k : Nat) (ha : k < a.length) (hb : k < b.length) (h1 : ¬ a.getD k 0 < b.getD k 0) (h2 : ¬ b.getD k 0 < a.getD k 0) : cmpL (a.drop k) (b.drop k) = cmpL (a.drop (k + 1)) (b.drop (k + 1)) := by
  rw [drop_getD a k ha, drop_getD b k hb, cmpL, if_neg h1, if_neg h2]
theorem cmpL_end (a b : List Int) (k : Nat) (ha : a.length ≤ k) : cmpL (a.drop k) (b.drop k) = 0 := by
  rw [List.drop_eq_nil_of_le ha, cmpL_nil]

/-- The digits keep the order. -/
def dg (n : Nat) : Int := ((Lib.Hx.digit n).toNat : Int)
theorem dg_lt (a b : Nat) (ha : a < 16) (hb : b < 16) : dg a < dg b ↔ a < b := by
  have : ∀ a b : Fin 16, dg a < dg b ↔ a.val < b.val := by decide
  exact this ⟨a, ha⟩ ⟨b, hb⟩
theorem tn_cons (x : Int) (xs : List Int) (h0 : 0 ≤ x) (h1 : x < 256) : tn (x :: xs) = dg (x.toNat / 16) :: dg (x.toNat % 16) :: tn xs := by
  have : (UInt8.ofNat x.toNat).toNat = x.toNat := Lib.Hx.byte_toNat x h0 h1
  simp only [tn, Lib.Hx.nums, Lib.bytesOf, List.map_cons, Lib.Hx.encode_cons, this, dg]
theorem cmp_tn : ∀ (a b : List Int), a.length = b.length → (∀ x ∈ a, 0 ≤ x ∧ x < 256) → (∀ x ∈ b, 0 ≤ x ∧ x < 256) → cmpL (tn a) (tn b) = cmpL a b
  | [], [], _, _, _ => rfl
  | x :: xs, y :: ys, hl, ha, hb => by
    have hx := ha x (List.mem_cons_self ..)
    have hy := hb y (List.mem_cons_self ..)
    have ih := cmp_tn xs ys (by simpa using hl) (fun z hz => ha z (List.mem_cons_of_mem _ hz)) (fun z hz => hb z (List.mem_cons_of_mem _ hz))
    have q1 := dg_lt (x.toNat / 16) (y.toNat / 16) (by omega) (by omega)
    have q2 := dg_lt (y.toNat / 16) (x.toNat / 16) (by omega) (by omega)
    have q3 := dg_lt (x.toNat % 16) (y.toNat % 16) (by omega) (by omega)
    have q4 := dg_lt (y.toNat % 16) (x.toNat % 16) (by omega) (by omega)
    rw [tn_cons x xs hx.1 hx.2, tn_cons y ys hy.1 hy.2, cmpL, cmpL, cmpL, ih]
    simp only [q1, q2, q3, q4]
    by_cases h1 : x.toNat / 16 < y.toNat / 16
    · rw [if_pos h1, if_pos (show x < y by omega)]
    · rw [if_neg h1]
      by_cases h2 : y.toNat / 16 < x.toNat / 16
      · rw [if_pos h2, if_neg (show ¬ x < y by omega), if_pos (show y < x by omega)]
      · rw [if_neg h2]
        by_cases h3 : x.toNat % 16 < y.toNat % 16
        · rw [if_pos h3, if_pos (show x < y by omega)]
        · rw [if_neg h3, if_neg (show ¬ x < y by omega)]
          by_cases h4 : y.toNat % 16 < x.toNat % 16
          · rw [if_pos h4, if_pos (show y < x by omega)]
          · rw [if_neg h4, if_neg (show ¬ y < x by omega)]
theorem cmp_ids {ca cb : Array Value} {a b : List Int} (ha : IsId ca a) (hb : IsId cb b) : cmpL (tn a) (tn b) = cmpL a b := by
  have mem : ∀ {c : Array Value} {l : List Int}, IsId c l → ∀ x ∈ l, 0 ≤ x ∧ x < 256 := by
    intro c l h x hx
    obtain ⟨i, hi, rfl⟩ := List.getElem_of_mem hx
    have := h.byte i (by have := h.len; omega)
    rwa [List.getD_eq_getElem?_getD, List.getElem?_eq_getElem hi] at this
  exact cmp_tn a b (by rw [ha.len, hb.len]) (mem ha) (mem hb)

set_option maxHeartbeats 400000 in
theorem cmpBytes_any (b1 c1 b2 c2 : Nat) (s t : List Int) (w : World) (hs : s.length = 64) (ht : t.length = 64)
    (h1 : ∀ i, i < 64 → w.cell? ⟨b1, i, none⟩ = some (.int .u8 (s.getD i 0))) (h2 : ∀ i, i < 64 → w.cell? ⟨b2, i, none⟩ = some (.int .u8 (t.getD i 0))) :
    Calls Try.prog 32 #[.slice (some ⟨b1, 0, none⟩) 64 c1, .slice (some ⟨b2, 0, none⟩) 64 c2] w fun e w' => e = .returned (.int .i64 (cmpL s t)) ∧ Below w.heap.size w w' := by
  have H1 : Hid (∀ i, i < 64 → w.cell? ⟨b1, i, none⟩ = some (.int .u8 (s.getD i 0))) := h1
  have H2 : Hid (∀ i, i < 64 → w.cell? ⟨b2, i, none⟩ = some (.int .u8 (t.getD i 0))) := h2
  have HS : Hid (s.length = 64) := hs
  have HT : Hid (t.length = 64) := ht
  clear h1 h2 hs ht
  go_enter Try.func32, Try.ntmps32
  go_wp2
  go_loopw [6] (fun i wr => ∃ k : Nat, k ≤ 64 ∧ i = .int .i64 k ∧ Hid (cmpL s t = cmpL (s.drop k) (t.drop k)) ∧ ∃ n, wr = w.drewN n) (fun i _ => 64 - (intOf i).toNat)
  case atStart => exact ⟨0, by omega, rfl, rfl, 0, rfl⟩
  case round =>
    obtain ⟨k, hk, rfl, hinv, n, rfl⟩ := hrel
    by_cases hlt : k < 64
    · have hc1 : w.cell? ⟨b1, k, none⟩ = some (.int .u8 (s.getD k 0)) := H1.out k hlt
      have hc2 : w.cell? ⟨b2, k, none⟩ = some (.int .u8 (t.getD k 0)) := H2.out k hlt
      have L := cmpL_lt s t k (by rw [HS.out]; omega) (by rw [HT.out]; omega)
      have G := cmpL_gt s t k (by rw [HS.out]; omega) (by rw [HT.out]; omega)
      have E := cmpL_eq s t k (by rw [HS.out]; omega) (by rw [HT.out]; omega)
      generalize s.getD k 0 = x at *
      generalize t.getD k 0 = y at *
      have HL : Hid (x < y → cmpL s t = -1) := fun h => hinv.out.trans (L h)
      have HG : Hid (y < x → cmpL s t = 1) := fun h => hinv.out.trans (G h)
      have HE : Hid (¬ x < y → ¬ y < x → cmpL s t = cmpL (s.drop (k + 1)) (t.drop (k + 1))) := fun h h' => hinv.out.trans (E h h')
      clear L G E hinv
      by_cases hx : x < y
      · go_wp2
        go_quiet (fail)
        go_wp2
        go_ret
        exact ⟨ret_int (HL.out hx).symm, by repeat (first | exact Below.refl _ _ | refine below_drewN ?_ _)⟩
      · by_cases hy : y < x
        · have hd : decide (x < y) = false := by simpa using hx
          go_wp2
          go_quiet (fail)
          go_wp2
          go_quiet (fail)
          go_wp2
          go_ret
          exact ⟨ret_int (HG.out hy).symm, by repeat (first | exact Below.refl _ _ | refine below_drewN ?_ _)⟩
        · have hd : decide (x < y) = false := by simpa using hx
          have hd' : decide (y < x) = false := by simpa using hy
          have HF : Hid (cmpL s t = cmpL (s.drop (k + 1)) (t.drop (k + 1))) := HE.out hx hy
          go_wp2
          go_quiet (fail)
          go_wp2
          go_quiet (fail)
          go_wp2
          go_roundw
          case rel => exact ⟨k + 1, by omega, by go_num, HF, _, rfl⟩
          case measure => simp [intOf]; omega
    · have hz : Hid (cmpL s t = 0) := hinv.out.trans (cmpL_end s t k (by rw [HS.out]; omega))
      clear hinv
      go_wp2
      go_ret
      exact ⟨ret_int hz.out.symm, by repeat (first | exact Below.refl _ _ | refine below_drewN ?_ _)⟩

set_option maxHeartbeats 400000 in
theorem cmp32_any (ca cb : Array Value) (a b : List Int) (w : World) (ha : IsId ca a) (hb : IsId cb b) :
    Calls Try.prog 33 #[.agg ca, .agg cb] w fun e w' => e = .returned (.int .i64 (cmpL a b)) ∧ Below w.heap.size w w' := by
  have bel : Below w.heap.size w ((w.alloc (.cells ca 22)).alloc (.cells cb 22)) := ((Below.refl _ w).alloc (Nat.le_refl _) _).alloc (by simp) _
  go_enter Try.func33, Try.ntmps33
  go_wp2
  obtain ⟨W, hW⟩ : ∃ W, W = (w.alloc (.cells ca 22)).alloc (.cells cb 22) := ⟨_, rfl⟩
  have g1 : W.heap[w.heap.size]? = some (.cells ca 22 (0, 0)) := by rw [hW]; exact heap_alloc2_old _ _ _
  have g2 : W.heap[w.heap.size + 1]? = some (.cells cb 22 (0, 0)) := by rw [hW]; exact heap_alloc2_new _ _ _
  rw [← hW] at bel
  simp only [← hW]
  clear hW
  have H1 : Hid (∀ i, i < 32 → W.cell? ⟨w.heap.size, i, none⟩ = some (.int .u8 (a.getD i 0))) := fun i hi => by rw [cell_of_row _ _ _ _ _ _ g1]; exact ha.cell i hi
  have H2 : Hid (∀ i, i < 32 → W.cell? ⟨w.heap.size + 1, i, none⟩ = some (.int .u8 (b.getD i 0))) := fun i hi => by rw [cell_of_row _ _ _ _ _ _ g2]; exact hb.cell i hi
  have HS : Hid (a.length = 32) := ha.len
  have HT : Hid (b.length = 32) := hb.len
  clear g1 g2 ha hb
  go_loopw [5] (fun i wr => ∃ k : Nat, k ≤ 32 ∧ i = .int .i64 k ∧ Hid (cmpL a b = cmpL (a.drop k) (b.drop k)) ∧ ∃ n, wr = W.drewN n) (fun i _ => 32 - (intOf i).toNat)
  case atStart => exact ⟨0, by omega, rfl, rfl, 0, rfl⟩
  case round =>
    obtain ⟨k, hk, rfl, hinv, n, rfl⟩ := hrel
    by_cases hlt : k < 32
    · have hc1 : W.cell? ⟨w.heap.size, k, none⟩ = some (.int .u8 (a.getD k 0)) := H1.out k hlt
      have hc2 : W.cell? ⟨w.heap.size + 1, k, none⟩ = some (.int .u8 (b.getD k 0)) := H2.out k hlt
      have L := cmpL_lt a b k (by rw [HS.out]; omega) (by rw [HT.out]; omega)
      have G := cmpL_gt a b k (by rw [HS.out]; omega) (by rw [HT.out]; omega)
      have E := cmpL_eq a b k (by rw [HS.out]; omega) (by rw [HT.out]; omega)
      generalize a.getD k 0 = x at *
      generalize b.getD k 0 = y at *
      have HL : Hid (x < y → cmpL a b = -1) := fun h => hinv.out.trans (L h)
      have HG : Hid (y < x → cmpL a b = 1) := fun h => hinv.out.trans (G h)
      have HE : Hid (¬ x < y → ¬ y < x → cmpL a b = cmpL (a.drop (k + 1)) (b.drop (k + 1))) := fun h h' => hinv.out.trans (E h h')
      clear L G E hinv
      by_cases hx : x < y
      · go_wp2
        go_quiet (fail)
        go_wp2
        go_ret
        exact ⟨ret_int (HL.out hx).symm, by repeat (first | exact bel | refine below_drewN ?_ _)⟩
      · by_cases hy : y < x
        · have hd : decide (x < y) = false := by simpa using hx
          go_wp2
          go_quiet (fail)
          go_wp2
          go_quiet (fail)
          go_wp2
          go_ret
          exact ⟨ret_int (HG.out hy).symm, by repeat (first | exact bel | refine below_drewN ?_ _)⟩
        · have hd : decide (x < y) = false := by simpa using hx
          have hd' : decide (y < x) = false := by simpa using hy
          have HF : Hid (cmpL a b = cmpL (a.drop (k + 1)) (b.drop (k + 1))) := HE.out hx hy
          go_wp2
          go_quiet (fail)
          go_wp2
          go_quiet (fail)
          go_wp2
          go_roundw
          case rel => exact ⟨k + 1, by omega, by go_num, HF, _, rfl⟩
          case measure => simp [intOf]; omega
    · have hz : Hid (cmpL a b = 0) := hinv.out.trans (cmpL_end a b k (by rw [HS.out]; omega))
      clear hinv
      go_wp2
      go_ret
      exact ⟨ret_int hz.out.symm, by repeat (first | exact bel | refine below_drewN ?_ _)⟩

/-- What stays known of the world behind the two calls of MarshalText. -/
structure Kq (w : World) (ca cb : Array Value) (b1 b2 : Nat) (a b : List Int) (w' : World) : Prop where
  cell1 : ∀ i, i < 64 → w'.cell? ⟨b1, i, none⟩ = some (.int .u8 ((tn a).getD i 0))
  cell2 : ∀ i, i < 64 → w'.cell? ⟨b2, i, none⟩ = some (.int .u8 ((tn b).getD i 0))
  h1 : b1 < w'.heap.size
  h2 : b2 < w'.heap.size
  hs : w.heap.size + 1 < w'.heap.size
  box1 : w'.heap[w.heap.size]? = some (.cells ca 22 (0, 0))
  box2 : w'.heap[w.heap.size + 1]? = some (.cells cb 22 (0, 0))
  bel : Below w.heap.size w w'
theorem Kq.drew {w : World} {ca cb : Array Value} {b1 b2 : Nat} {a b : List Int} {w' : World} (k : Kq w ca cb b1 b2 a b w') : Kq w ca cb b1 b2 a b w'.drew := ⟨k.cell1, k.cell2, k.h1, k.h2, k.hs, k.box1, k.box2, k.bel.drew⟩
theorem Kq.below {w : World} {ca cb : Array Value} {b1 b2 : Nat} {a b : List Int} {w' w2 : World} (k : Kq w ca cb b1 b2 a b w') (h : Below w'.heap.size w' w2) : Kq w ca cb b1 b2 a b w2 :=
  ⟨fun i hi => (h.cell (p := ⟨b1, i, none⟩) k.h1).trans (k.cell1 i hi), fun i hi => (h.cell (p := ⟨b2, i, none⟩) k.h2).trans (k.cell2 i hi), Nat.lt_of_lt_of_le k.h1 h.size, Nat.lt_of_lt_of_le k.h2 h.size, Nat.lt_of_lt_of_le k.hs h.size,
   (h.block _ (by have := k.hs; omega)).trans k.box1, (h.block _ k.hs).trans k.box2, k.bel.trans (h.mono (by have := k.hs; omega))⟩
theorem Kq.all {w : World} {ca cb : Array Value} {b1 b2 : Nat} {a b : List Int} {w' : World} (k : Kq w ca cb b1 b2 a b w') :
    Kq w ca cb b1 b2 a b w' ∧ w'.rangeAt w.heap.size 0 ca.toList ∧ w'.rangeAt (w.heap.size + 1) 0 cb.toList :=
  ⟨k, range_of _ _ _ _ _ k.box1, range_of _ _ _ _ _ k.box2⟩

theorem wp_load_box {d : Option Tmp} {ty : TypeId} {pos : String} {af : Array Edge} {a : Act} {w : World} {K : Act → World → Prop} {Q : Exit → Act → World → Prop} {t g : Nat} {cs : Array Value}
    (hx : a.eval (.tmp t) = .pointer (some ⟨g, 0, none⟩)) (h : w.heap[g]? = some (.cells cs 22 (0, 0))) (hi : (Try.prog.info? 22).map (·.size) = some cs.size) :
    Oper.wp Try.prog ⟨d, .load 22 (.tmp t), ty, pos, af, none⟩ a w K Q = K (a.put d (.agg cs)) w := by
  unfold Oper.wp execOp
  simp only [hx, Instr.loadAt, Instr.sureAddr, Sem.run_bind, Sem.run_pure, Result.andThen_ok, run_loadVar_row w g 22 22 cs (0, 0) _ h Try.underlying22 rfl hi]
  rfl
attribute [local go_sem ↓] Go.wp_at_zero Go.wp_at_succ wp_load_box

set_option maxHeartbeats 400000 in
theorem law10 (ca cb : Array Value) (a b : List Int) (w : World) (ha : IsId ca a) (hb : IsId cb b) :
    Calls Try.prog 10 #[.agg ca, .agg cb] w fun e w' => e = .returned (.bool true) ∧ Below w.heap.size w w' := by
  have hsa : ca.size = 32 := ha.size
  have hsb : cb.size = 32 := hb.size
  have bel0 : Below w.heap.size w ((w.alloc (.cells ca 22)).alloc (.cells cb 22)) := ((Below.refl _ w).alloc (Nat.le_refl _) _).alloc (by simp) _
  go_enter Try.func10, Try.ntmps10
  go_wp2_with (refine wpList_load_row rfl 22 _ rfl w.heap.size rfl 22 ca (0, 0) _ (heap_alloc2_old _ _ _) Try.underlying22 rfl (by rw [hsa]; kernel_rfl) ?_)
  refine (marshal_any ca a _ ha).mono ?_
  rintro e w1 ⟨b1, cap1, rfl, hb1, hb2, hcl1, hbel1⟩
  have g1 : w1.heap[w.heap.size]? = some (.cells ca 22 (0, 0)) := by rw [hbel1.block _ (by simp; omega)]; exact heap_alloc2_old _ _ _
  have g2 : w1.heap[w.heap.size + 1]? = some (.cells cb 22 (0, 0)) := by rw [hbel1.block _ (by simp)]; exact heap_alloc2_new _ _ _
  have hs1 : w.heap.size + 1 < w1.heap.size := by have := hbel1.size; simp at this; omega
  have bel1 : Below w.heap.size w w1 := bel0.trans (hbel1.mono (by simp; omega))
  have HC1 : Hid (∀ i, i < 64 → w1.cell? ⟨b1, i, none⟩ = some (.int .u8 ((tn a).getD i 0))) := hcl1
  clear hcl1 hbel1 hb1 bel0
  go_wp2_with (refine wpList_load_row rfl 22 _ rfl (w.heap.size + 1) rfl 22 cb (0, 0) _ g2 Try.underlying22 rfl (by rw [hsb]; kernel_rfl) ?_)
  refine (marshal_any cb b _ hb).mono ?_
  rintro e w2 ⟨b2, cap2, rfl, hb3, hb4, hcl2, hbel2⟩
  have hk : Kq w ca cb b1 b2 a b w2 := ⟨fun i hi => (hbel2.cell (p := ⟨b1, i, none⟩) hb2).trans (HC1.out i hi), hcl2, Nat.lt_of_lt_of_le hb2 hbel2.size, hb4, Nat.lt_of_lt_of_le hs1 hbel2.size,
    (hbel2.block _ (by omega)).trans g1, (hbel2.block _ hs1).trans g2, bel1.trans (hbel2.mono (by omega))⟩
  clear g1 g2 hs1 bel1 HC1 hbel2 hcl2 hb3 hb4 hb2
  go_wp2_with fail
  have hia : (Try.prog.info? 22).map (·.size) = some ca.size := by rw [hsa]; kernel_rfl
  have hib : (Try.prog.info? 22).map (·.size) = some cb.size := by rw [hsb]; kernel_rfl
  have hcmp := cmp_ids ha hb
  have hkd := hk.drew
  have q1 : w2.drew.heap[w.heap.size]? = some (.cells ca 22 (0, 0)) := hk.box1
  have q2 : w2.drew.heap[w.heap.size + 1]? = some (.cells cb 22 (0, 0)) := hk.box2
  go_region_with (first
    | (go_at_call 32; refine (cmpBytes_any b1 _ b2 _ (tn a) (tn b) _ (tn_len a ha.len) (tn_len b hb.len) ?_ ?_).mono ?_; exact Kq.cell1 (by assumption); exact Kq.cell2 (by assumption); rintro e w3 ⟨rfl, hbb⟩; have hk3 : Kq w ca cb b1 b2 a b w3 := Kq.below (by assumption) hbb; have q3 := hk3.box1; have q4 := hk3.box2)
    | (go_at_call 33; refine (cmp32_any ca cb a b _ ha hb).mono ?_; rintro e w3 ⟨rfl, hbb⟩; have hk3 : Kq w ca cb b1 b2 a b w3 := Kq.below (by assumption) hbb; have q3 := hk3.box1; have q4 := hk3.box2))
  all_goals
    go_wp2
    go_ret
    exact ⟨rfl, Kq.bel (by assumption)⟩
end Go.Proofs.Qxb6612853a
