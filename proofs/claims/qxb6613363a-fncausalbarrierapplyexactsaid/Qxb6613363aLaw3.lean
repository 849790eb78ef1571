/-
  FnCausalBarrierApplyExact returns true, whatever it is handed.
-/
import Derived.Test.Qxb6613363aOutA
import Derived.Test.Qxb6613363aReadB
import Derived.Test.Qxb6613363aBytesE
import Derived.Test.Qxb6613363aCopyA
import Derived.Test.Qxb6613363aStepC
import Derived.Test.Qxb6613363aNameA
import Derived.Deep.DeepCutAuto
namespace Go.Proofs.Qxb6613363a
open Go.RowKit Go.Deep

set_option maxRecDepth 100000 in
set_option maxHeartbeats 8000000 in
theorem law3_any (site sites vs wrs fr wt x : Int) (ws : Bool) (ka pa a1 a2 : Option Addr) (kn kc pn pc n1 m1 n2 m2 : Nat) (ks c1 c2 : List Int) (rs : List Rw) (w : World)
    (tk : IS w ka kn kc ks) (tp : ISS w pa pn pc rs) (t1 : IS w a1 n1 m1 c1) (t2 : IS w a2 n2 m2 c2) :
    Calls Try.prog 3 #[.int .i64 site, .int .i64 sites, .int .i64 vs, .bool ws, .int .i64 wrs, .slice pa pn pc, .slice ka kn kc, .int .i64 fr, .int .i64 wt, .int .i64 x, .slice a1 n1 m1, .slice a2 n2 m2] w
      fun e w' => e = .returned (.bool true) ∧ Below w.heap.size w w' := by
  have hkm := tk.max
  have hpm := tp.max
  have h1m := t1.max
  have h2m := t2.max
  have HK : Hid (IS w ka kn kc ks) := tk
  have HP : Hid (ISS w pa pn pc rs) := tp
  have H1 : Hid (IS w a1 n1 m1 c1) := t1
  have H2 : Hid (IS w a2 n2 m2 c2) := t2
  clear tk tp t1 t2
  go_enter Try.func3, Try.ntmps3
  go_wp2_with fail
  refine (bytesE_any _ _ _ _ _ _ _ _ _ _ _ _ _ _ _ _ _ _ _ _ _ _ HP.out hkm h1m h2m).mono ?_
  rintro e w ⟨⟨b, rfl, rfl, -⟩⟩
  cases b with
  | false =>
    go_wp2
    go_ret
    exact ⟨rfl, Below.refl _ _⟩
  | true =>
    go_wp2_with fail
    all_goals first | (go_ret; exact ⟨rfl, Below.refl _ _⟩) | skip
    have b1 : pn ≤ 4096 := by omega
    have b2 : kn ≤ 131072 := by omega
    have b3 : n1 ≤ 131072 := by omega
    have b4 : n2 ≤ 12288 := by omega
    have hs3 : ((kn + n1 + n2 : Nat) : Int) = (kn : Int) + n1 + n2 := by omega
    have HWO := wordsOver_any pa pn pc rs (kn + n1 + n2) w HP.out (by omega) (by omega)
    rw [hs3] at HWO
    refine HWO.mono ?_
    rintro e w ⟨⟨b, rfl, rfl, hwo⟩⟩
    clear HWO hs3
    cases b with
    | true =>
      go_wp2
      go_ret
      exact ⟨rfl, Below.refl _ _⟩
    | false =>
      have HW : Hid (kn + n1 + n2 + 3 * pn + wordsTo rs pn ≤ 131072) := hwo rfl
      clear hwo
      by_cases g2 : vs < 1
      · go_wp2_with fail
        all_goals (go_ret; exact ⟨rfl, Below.refl _ _⟩)
      obtain ⟨V, rfl⟩ : ∃ V : Nat, vs = V := ⟨vs.toNat, by omega⟩
      have e1 : (kn : Int) % (V : Int) = ((kn % V : Nat) : Int) := by simp
      have e2 : (kn : Int) / (V : Int) = ((kn / V : Nat) : Int) := by simp
      have e3 : (n2 : Int) % (3 : Int) = ((n2 % 3 : Nat) : Int) := by omega
      have eqd : Hid (V * (kn / V) + kn % V = kn) := Nat.div_add_mod kn V
      have hqle : kn / V ≤ kn := Nat.div_le_self _ _
      have hrle : kn % V ≤ kn := Nat.mod_le _ _
      have HM : Hid (n2 = 3 * (n2 / 3) + n2 % 3) := by unfold Hid; omega
      generalize kn % V = r at *
      generalize kn / V = q at *
      generalize n2 % 3 = r3 at *
      by_cases g5 : r = 0
      · by_cases g6 : (q : Int) = sites
        · by_cases g7 : r3 = 0
          · subst g6
            subst g5
            subst g7
            go_wp2_with fail
            all_goals first | (go_ret; exact ⟨rfl, Below.refl _ _⟩) | skip
            have g1 : 1 ≤ q := by omega
            have d1 : 0 ≤ x := by omega
            have d2 : x < V := by omega
            have d5 : n1 ≤ q := by omega
            obtain ⟨y, rfl⟩ : ∃ y : Nat, x = y := ⟨x.toNat, by omega⟩
            refine (wellFormed_any pa pn pc rs w HP.out).mono ?_
            rintro e w ⟨⟨b, rfl, rfl, hwf⟩⟩
            cases b with
            | false =>
              go_wp2
              go_ret
              exact ⟨rfl, Below.refl _ _⟩
            | true =>
              have HWF : Hid (∀ r ∈ rs, okRow r) := hwf rfl
              clear hwf
              go_upto_if 129 with fail
              go_cut [10, 25] (fun v10 _ wx => ∃ a m, v10 = .slice a n1 m ∧ Hid (IS wx a n1 m c1) ∧ Below w.heap.size w wx)
              case first =>
                as_aux_lemma =>
                  cases a1 with
                  | none =>
                    obtain ⟨rfl, rfl⟩ := H1.out.lenZ
                    go_wp2_with fail
                    go_meet
                    exact ⟨_, _, rfl, H1, Below.refl _ _⟩
                  | some ad =>
                    have hmk := fun wx => run_make_row' (P := Try.prog) 23 3 (.int .i64 0) 8 Try.underlying23 info3 rfl .i64 .i64 n1 (by omega) (by omega) wx
                    have hb0 : Below w.heap.size w (w.alloc (.cells (madeCells #[.int .i64 0] n1) 3)) := (Below.refl _ _).alloc (Nat.le_refl _) _
                    have HSRC : Hid (∀ (j : Nat) v, (c1.map (Value.int .i64))[j]? = some v → (w.alloc (.cells (madeCells #[.int .i64 0] n1) 3)).cell? (ad.add j) = some v) := copy_src H1.out hb0
                    have HL1 : Hid (c1.length = n1) := H1.out.len
                    go_wp2_with (refine wpList_copy_splice rfl (.tmp 133) (.tmp 134) 23 23 rfl 3 Try.underlying23 (by kernel_rfl) _ _ n1 n1 n1 m1 rfl rfl w.heap.size 0 (List.replicate n1 (.int .i64 0)) 3 (made_heap w n1) (c1.map (Value.int .i64)) (made_len HL1.out) (fun _ => ⟨rfl, _, rfl, HSRC.out⟩) (made_fit HL1.out) made_one w.heap.size w hb0 (Nat.le_refl _) ?_; intro w5 hg5 hb5)
                    go_meet
                    exact ⟨_, _, rfl, copied_is HL1.out h1m hg5.out, hb5⟩
              case rest =>
                as_aux_lemma =>
                  obtain ⟨b1', m1', rfl, HC1, hbA⟩ := hcut
                  obtain ⟨wA, hwA⟩ : ∃ wA, wA = wc := ⟨_, rfl⟩
                  subst hwA
                  go_upto_if 138 with fail
                  go_cut [11, 26] (fun v11 _ wx => ∃ a m, v11 = .slice a n2 m ∧ Hid (IS wx a n2 m c2) ∧ Below wA.heap.size wA wx)
                  case first =>
                    as_aux_lemma =>
                      have H2A : Hid (IS wA a2 n2 m2 c2) := H2.out.below hbA
                      cases a2 with
                      | none =>
                        obtain ⟨rfl, rfl⟩ := H2.out.lenZ
                        go_wp2_with fail
                        go_meet
                        exact ⟨_, _, rfl, H2A, Below.refl _ _⟩
                      | some ad =>
                        have hmk := fun wx => run_make_row' (P := Try.prog) 23 3 (.int .i64 0) 8 Try.underlying23 info3 rfl .i64 .i64 n2 (by omega) (by omega) wx
                        have hb0 : Below wA.heap.size wA (wA.alloc (.cells (madeCells #[.int .i64 0] n2) 3)) := (Below.refl _ _).alloc (Nat.le_refl _) _
                        have HSRC : Hid (∀ (j : Nat) v, (c2.map (Value.int .i64))[j]? = some v → (wA.alloc (.cells (madeCells #[.int .i64 0] n2) 3)).cell? (ad.add j) = some v) := copy_src H2A.out hb0
                        have HL2 : Hid (c2.length = n2) := H2.out.len
                        go_wp2_with (refine wpList_copy_splice rfl (.tmp 142) (.tmp 143) 23 23 rfl 3 Try.underlying23 (by kernel_rfl) _ _ n2 n2 n2 m2 rfl rfl wA.heap.size 0 (List.replicate n2 (.int .i64 0)) 3 (made_heap wA n2) (c2.map (Value.int .i64)) (made_len HL2.out) (fun _ => ⟨rfl, _, rfl, HSRC.out⟩) (made_fit HL2.out) made_one wA.heap.size wA hb0 (Nat.le_refl _) ?_; intro w5 hg5 hb5)
                        go_meet
                        exact ⟨_, _, rfl, copied_is HL2.out h2m hg5.out, hb5⟩
                  case rest =>
                    as_aux_lemma =>
                      obtain ⟨b2', m2', rfl, HC2, hbB⟩ := hcut
                      obtain ⟨wB, hwB⟩ : ∃ wB, wB = wc := ⟨_, rfl⟩
                      subst hwB
                      have hbwB : Below w.heap.size w wB := hbA.trans (hbB.mono hbA.size)
                      have HKB : Hid (IS wB ka kn kc ks) := HK.out.below hbwB
                      have HPB : Hid (ISS wB pa pn pc rs) := HP.out.below hbwB
                      have HC1B : Hid (IS wB b1' n1 m1' c1) := HC1.out.below hbB
                      have hVq : V * q = kn := eqd.out
                      have hVle : V ≤ kn := by rw [← hVq]; exact Nat.le_mul_of_pos_right V (by omega)
                      have hy1 : y < V := by omega
                      have hkpos : 0 < kn := by rw [← hVq]; exact Nat.mul_pos (by omega) (by omega)
                      have HX1 : Hid (∀ k, k < n1 → k * V + y < kn) := fun k hk => by
                        have : (k + 1) * V ≤ q * V := Nat.mul_le_mul_right V (by omega)
                        rw [Nat.add_mul, Nat.one_mul, Nat.mul_comm q V, hVq] at this; omega
                      have HRS : Hid (∀ r ∈ rs, r.n ≤ 1000000 ∧ 3 ≤ r.n ∧ (r.n - 3) % 3 = 0) := fun r hr => ⟨by have := wordsTo_mem HP.out.len hr; have := HW.out; omega, HWF.out r hr⟩
                      have HKL : Hid (ks.length = kn) := HK.out.len
                      obtain ⟨mm, rfl⟩ : ∃ mm, n2 = 3 * mm := ⟨n2 / 3, by have := HM.out; omega⟩
                      clear hVq
                      go_wp2_with fail
                      refine (clone_any ka kn kc ks wB HKB.out hkpos).mono ?_
                      rintro e w4 ⟨rfl, hrow4, hsz4, hb4⟩
                      have HR4 : Hid (w4.rowIs wB.heap.size 3 kn (fun j => .int .i64 (ks.getD j 0))) := hrow4
                      have HP4 : Hid (ISS w4 pa pn pc rs) := HPB.out.below hb4
                      clear hrow4 hsz4
                      go_wp2_with fail
                      refine (new_any _ _ _ _ _ pa pn pc rs _ _ _ w4 HP4.out (by omega) HRS.out).mono ?_
                      rintro e w5 hnew
                      obtain ⟨cA, psA, rfl, hcbA, hpsA, hb5⟩ := CB.make HKL.out HR4.out hb4 hnew
                      have HCA : Hid (CB wB.heap.size cA wB.heap.size kn V w5 psA ks) := hcbA
                      have HPSA : Hid (psA.map Pc.row = rs.map Rw.xs) := hpsA
                      have hlA : psA.length = pn := by
                        have h1 : (psA.map Pc.row).length = (rs.map Rw.xs).length := by rw [hpsA]
                        rw [List.length_map, List.length_map, HP.out.len] at h1; exact h1
                      clear hnew hcbA hpsA HR4 HP4 hb4
                      go_wp2_with fail
                      as_aux_lemma =>
                        have HC25 : Hid (IS w5 b2' (3 * mm) m2' c2) := HC2.out.below hb5
                        refine (zzapply_del wB.heap.size cA wB.heap.size kn V fr wt y b1' n1 m1' c1 b2' mm m2' c2 w5 wB psA ks HCA.out HC25.out (by omega) (by omega) (by omega) (by omega) HX1.out HC1B.out (Nat.le_refl _) hb5).mono ?_
                        rintro e w6 ⟨⟨vA1, mA1, rfl, hcA1, hb6⟩⟩
                        have HCA1 : Hid (CB wB.heap.size cA wB.heap.size kn V w6 (psA.filter (kept c2 mm) ++ [⟨fr, wt, y, vA1, mA1, c2⟩]) (rz ks V y c1 n1)) := hcA1
                        have hbB6 : Below wB.heap.size wB w6 := hb5.trans hb6
                        have HLB : Hid (c2.length = 3 * mm) := HC2.out.len
                        have hlf : (psA.filter (kept c2 mm)).length ≤ pn := by rw [← hlA]; exact List.length_filter_le _ _
                        have HSA : ∀ p ∈ psA.filter (kept c2 mm) ++ [⟨fr, wt, y, vA1, mA1, c2⟩], p.row.length ≤ 1000000 := fun p hp => by
                          rcases List.mem_append.mp hp with hp | hp
                          · exact rows_small HPSA.out (fun r hr => by rw [(HP.out.row r hr).len]; exact (HRS.out r hr).1) p (List.mem_filter.1 hp).1
                          · rw [List.mem_singleton.mp hp]; simp [Pc.row, HLB.out]; omega
                        have HPA := precs_any wB.heap.size cA wB.heap.size kn V w6 _ _ HCA1.out (by rw [List.length_append]; simp; omega) (stamps_small HCA1.out.st HSA)
                        obtain ⟨L, hL⟩ : ∃ L, L = (psA.filter (kept c2 mm)).length := ⟨_, rfl⟩
                        have HLL : Hid (L = (psA.filter (kept c2 mm)).length) := hL
                        rw [← hL] at hlf
                        clear hcA1 HCA hb5 hb6 HSA hL
                        go_wp2_with fail
                        refine HPA.mono ?_
                        rintro e w7 ⟨⟨rG, oG, nG, qG, rfl, hiG, hrG, hb7⟩⟩
                        obtain rfl : nG = L + 1 := by rw [← hiG.len, got_len hrG, HLL.out]
                        have HIG : Hid (ISS w7 oG (L + 1) qG rG) := hiG
                        have HRG : Hid (rG.map Rw.xs = (psA.filter (kept c2 mm) ++ [(⟨fr, wt, y, vA1, mA1, c2⟩ : Pc)]).map Pc.row) := hrG
                        have hbB7 : Below wB.heap.size wB w7 := hbB6.trans (hb7.mono hbB6.size)
                        have HCA7 : Hid (CB wB.heap.size cA wB.heap.size kn V w7 (psA.filter (kept c2 mm) ++ [⟨fr, wt, y, vA1, mA1, c2⟩]) (rz ks V y c1 n1)) := HCA1.out.below hb7
                        have HP7 : Hid (ISS w7 pa pn pc rs) := HPB.out.below hbB7
                        have HK7 : Hid (IS w7 ka kn kc ks) := HKB.out.below hbB7
                        have HC17 : Hid (IS w7 b1' n1 m1' c1) := HC1B.out.below hbB7
                        have HC27 : Hid (IS w7 b2' (3 * mm) m2' c2) := HC2.out.below hbB7
                        have hbw7 : Below w.heap.size w w7 := hbwB.trans (hbB7.mono hbwB.size)
                        clear HPA hiG hrG HCA1 hb7 hbB6 hbB7 HC25 HC1B HC2 HC1 HKB HPB
                        go_wp2_with fail
                        as_aux_lemma =>
                          go_loopw [34, 35] (fun v34 v35 wr => ∃ k j : Nat, k ≤ pn ∧ v35 = .int .i64 k ∧ v34 = .int .i64 j ∧ Hid (j = ((psA.take k).filter (kept c2 mm)).length) ∧ Below w7.heap.size w7 wr) (fun _ v35 _ => pn - (intOf v35).toNat)
                          case atStart => exact ⟨0, 0, by omega, rfl, rfl, rfl, Below.refl _ _⟩
                          case round =>
                            obtain ⟨k, j, hk, rfl, rfl, HJ, hbr⟩ := hrel
                            have hjL : j ≤ L := by rw [HJ.out, HLL.out]; exact filter_len_le _ _
                            by_cases hlt : k < pn
                            · obtain ⟨bP, sP, r3, rfl, hbP1, hrP1, hcP1, tP⟩ := (HP7.out.below hbr).at k hlt
                              obtain ⟨p, hp⟩ : ∃ p, psA[k]? = some p := ⟨_, List.getElem?_eq_getElem (by rw [hlA]; exact hlt)⟩
                              have HPp : Hid (psA[k]? = some p) := hp
                              have ex3 : r3.xs = p.row := by
                                have e1 : (psA.map Pc.row)[k]? = some p.row := by rw [List.getElem?_map, hp]; rfl
                                have e2 : (rs.map Rw.xs)[k]? = some r3.xs := by rw [List.getElem?_map, hrP1]; rfl
                                rw [HPSA.out, e2] at e1; exact Option.some.inj e1
                              obtain ⟨ra3, rn3, rc3, rx3⟩ := r3
                              obtain ⟨px, py, pz, pvv, pm, pts⟩ := p
                              dsimp only [Pc.row] at hcP1 tP ex3
                              subst ex3
                              have HtP : Hid (IS wr ra3 rn3 rc3 (px :: py :: pz :: pts)) := tP
                              have HNM := named_any b2' ra3 mm m2' rn3 rc3 c2 px py pz pts wr (HC27.out.below hbr) tP (by omega)
                              have i1 : (k : Int) < (pn : Int) := by omega
                              clear hrP1 hp tP
                              go_wp2_with fail
                              refine HNM.mono ?_
                              rintro e w8 ⟨⟨rfl, hb8⟩⟩
                              have hbr8 : Below w7.heap.size w7 w8 := hbr.trans (hb8.mono hbr.size)
                              clear HNM
                              obtain ⟨bq, hbq⟩ : ∃ bq, nm c2 mm px py pz = bq := ⟨_, rfl⟩
                              rw [hbq]
                              have HBQ : Hid (nm c2 mm px py pz = bq) := hbq
                              clear hbq
                              cases bq with
                              | true =>
                                have HJ2 : Hid (j = ((psA.take (k + 1)).filter (kept c2 mm)).length) := by unfold Hid; rw [filter_take_succ HPp.out, HJ.out]; simp [kept, HBQ.out]
                                go_wp2
                                go_roundw
                                case rel => exact ⟨k + 1, j, by omega, by go_num, rfl, HJ2, hbr8⟩
                                case measure => simp [intOf]; omega
                              | false =>
                                have hkp : kept c2 mm (⟨px, py, pz, pvv, pm, pts⟩ : Pc) = true := by simp [kept, HBQ.out]
                                have HJ2 : Hid (j + 1 = ((psA.take (k + 1)).filter (kept c2 mm)).length) := by unfold Hid; rw [filter_take_succ HPp.out, HJ.out]; simp [hkp]
                                have hfg := filter_get HPp.out hkp
                                rw [← HJ.out] at hfg
                                have hjl : j < L := by rw [HLL.out]; exact (List.getElem?_eq_some_iff.1 hfg).1
                                obtain ⟨bG, sG, r1, rfl, hbG1, hrG1, hcG1, tG⟩ := (HIG.out.below hbr8).at j (by omega)
                                have ex1 : r1.xs = px :: py :: pz :: pts := got_row HRG.out hfg hrG1
                                obtain ⟨ra1, rn1, rc1, rx1⟩ := r1
                                dsimp only at hcG1 tG ex1
                                subst ex1
                                obtain rfl : rn1 = rn3 := by rw [← tG.len, ← HtP.out.len]
                                have HtG : Hid (IS w8 ra1 rn1 rc1 (px :: py :: pz :: pts)) := tG
                                have HtP8 : Hid (IS w8 ra3 rn1 rc3 (px :: py :: pz :: pts)) := HtP.out.below hb8
                                have hcP8 : w8.cell? ⟨bP, sP + k, none⟩ = some (.slice ra3 rn1 rc3) := (hb8.cell (p := ⟨bP, sP + k, none⟩) hbP1).trans hcP1
                                have i2 : (j : Int) < (L : Int) + 1 := by omega
                                have i3 : j < L + 1 := by omega
                                have i4 : decide ((L : Int) + 1 ≤ (j : Int)) = false := decide_eq_false (by omega)
                                have i5 : ¬ ((L : Int) + 1 ≤ (j : Int)) := by omega
                                clear hfg hrG1 tG hkp hcP1 hb8
                                go_wp2_with fail
                                go_quiet (first
                                  | (go_at_call 15; exact Calls.quiet_of (same_any _ _ _ _ _ (px :: py :: pz :: pts) _ (HtG.out.drewN _) (HtP8.out.drewN _))))
                                have hbr9 := below_drewN hbr8 nq
                                go_wp2
                                go_roundw
                                case rel => exact ⟨k + 1, j + 1, by omega, by go_num, by go_num, HJ2, hbr9⟩
                                case measure => simp [intOf]; omega
                            · obtain rfl : k = pn := by omega
                              obtain rfl : j = L := by rw [HJ.out, HLL.out, List.take_of_length_le (by omega)]
                              obtain ⟨bG, sG, r1, rfl, hbG1, hrG1, hcG1, tG⟩ := (HIG.out.below hbr).at j (by omega)
                              have ex1 : r1.xs = fr :: wt :: (y : Int) :: c2 := got_last HRG.out (by rw [← HLL.out]; exact hrG1)
                              obtain ⟨ra1, rn1, rc1, rx1⟩ := r1
                              dsimp only at hcG1 tG ex1
                              subst ex1
                              obtain rfl : rn1 = 3 * mm + 3 := by rw [← tG.len]; simp [HLB.out]
                              have i2 : (j : Int) < (j : Int) + 1 := by omega
                              have T1 : Hid (IS wr ra1 (3 * mm + 3) rc1 (fr :: wt :: (y : Int) :: c2)) := tG
                              have T2 : Hid (IS wr b2' (3 * mm) m2' c2) := HC27.out.below hbr
                              clear hrG1 tG
                              go_wp2_with fail
                              refine (isWrite_any ra1 b2' (3 * mm) rc1 m2' fr wt y c2 wr T1.out T2.out).mono ?_
                              rintro e w9 ⟨rfl, hb9⟩
                              have hb79 : Below w7.heap.size w7 w9 := hbr.trans (hb9.mono hbr.size)
                              have HFA := HCA7.out.below hb79
                              have KA := known_any _ _ _ _ _ w9 _ _ HFA
                              have hlen1 : ks.length = kn := HKL.out
                              have RA := knownRaised_any (some ⟨wB.heap.size, 0, none⟩) ka b1' none kn kn kc n1 m1' 0 0 V y (-1) _ ks c1 [] w9 (by omega) (by omega) (HFA.is (by omega)) (HK7.out.below hb79) (HC17.out.below hb79) (IS.nil0 _)
                                (fun i hi => (rz_raise ks V y c1 n1 HC17.out.len hy1 (fun j hj => by rw [hlen1]; exact HX1.out j hj) i (by rw [hlen1]; exact hi)).trans (want_one _ _ _ _ _).symm)
                              have HFIN : Hid (Below w.heap.size w w9) := hbw7.trans (hb79.mono hbw7.size)
                              clear HFA hlen1 hb79 hb9 hbw7
                              go_wp2_with fail
                              refine KA.mono ?_
                              rintro e w9 ⟨rfl, rfl⟩
                              go_wp2_with fail
                              refine RA.mono ?_
                              rintro e w9 ⟨rfl, rfl⟩
                              clear KA RA
                              go_wp2
                              go_ret
                              exact ⟨rfl, HFIN.out⟩
          · go_wp2_with fail
            all_goals (go_ret; exact ⟨rfl, Below.refl _ _⟩)
        · go_wp2_with fail
          all_goals (go_ret; exact ⟨rfl, Below.refl _ _⟩)
      · go_wp2_with fail
        all_goals (go_ret; exact ⟨rfl, Below.refl _ _⟩)
end Go.Proofs.Qxb6613363a
