/-
  FnCausalBarrierApplyKnowledgeCommutes returns true, whatever it is handed.
-/
import Derived.Test.Qxb6613363aOutA
import Derived.Test.Qxb6613363aReadB
import Derived.Test.Qxb6613363aBytesA
import Derived.Test.Qxb6613363aLawP
import Derived.Test.Qxb6613363aCopyA
import Derived.Test.Qxb6613363aStepB
import Derived.Deep.DeepCutAuto
namespace Go.Proofs.Qxb6613363a
open Go.RowKit Go.Deep

set_option maxRecDepth 100000 in
set_option maxHeartbeats 8000000 in
theorem law4_any (site sites vs fr w1 x1 w2 x2 : Int) (ka pa a1 a2 : Option Addr) (kn kc pn pc n1 m1 n2 m2 : Nat) (ks c1 c2 : List Int) (rs : List Rw) (w : World)
    (tk : IS w ka kn kc ks) (tp : ISS w pa pn pc rs) (t1 : IS w a1 n1 m1 c1) (t2 : IS w a2 n2 m2 c2) :
    Calls Try.prog 4 #[.int .i64 site, .int .i64 sites, .int .i64 vs, .slice ka kn kc, .slice pa pn pc, .int .i64 fr, .int .i64 w1, .int .i64 x1, .slice a1 n1 m1, .int .i64 w2, .int .i64 x2, .slice a2 n2 m2] w
      fun e w' => e = .returned (.bool true) ∧ Below w.heap.size w w' := by
  have hkm := tk.max
  have hpm := tp.max
  have h1m := t1.max
  have h2m := t2.max
  have HK : Hid (IS w ka kn kc ks) := tk
  have HP : Hid (ISS w pa pn pc rs) := tp
  have H1 : Hid (IS w a1 n1 m1 c1) := t1
  have H2 : Hid (IS w a2 n2 m2 c2) := t2
  clear tk tp t1 t2
  go_enter Try.func4, Try.ntmps4
  go_wp2_with fail
  refine (bytesC_any _ _ _ _ _ _ _ _ _ _ _ _ _ _ _ _ _ _ _ _ _ _ HP.out hkm h1m h2m).mono ?_
  rintro e w ⟨⟨b, rfl, rfl, -⟩⟩
  cases b with
  | false =>
    go_wp2
    go_ret
    exact ⟨rfl, Below.refl _ _⟩
  | true =>
    go_wp2_with fail
    all_goals first | (go_ret; exact ⟨rfl, Below.refl _ _⟩) | skip
    have b1 : pn ≤ 4096 := by omega
    have b2 : kn ≤ 131072 := by omega
    have b3 : n1 ≤ 131072 := by omega
    have b4 : n2 ≤ 131072 := by omega
    have hs3 : ((kn + n1 + n2 : Nat) : Int) = (kn : Int) + n1 + n2 := by omega
    have HWO := wordsOver_any pa pn pc rs (kn + n1 + n2) w HP.out (by omega) (by omega)
    rw [hs3] at HWO
    refine HWO.mono ?_
    rintro e w ⟨⟨b, rfl, rfl, hwo⟩⟩
    clear HWO hs3
    cases b with
    | true =>
      go_wp2
      go_ret
      exact ⟨rfl, Below.refl _ _⟩
    | false =>
      have HW : Hid (kn + n1 + n2 + 3 * pn + wordsTo rs pn ≤ 131072) := hwo rfl
      clear hwo
      by_cases g2 : vs < 1
      · go_wp2_with fail
        all_goals (go_ret; exact ⟨rfl, Below.refl _ _⟩)
      obtain ⟨V, rfl⟩ : ∃ V : Nat, vs = V := ⟨vs.toNat, by omega⟩
      have e1 : (kn : Int) % (V : Int) = ((kn % V : Nat) : Int) := by simp
      have e2 : (kn : Int) / (V : Int) = ((kn / V : Nat) : Int) := by simp
      have eqd : Hid (V * (kn / V) + kn % V = kn) := Nat.div_add_mod kn V
      have hqle : kn / V ≤ kn := Nat.div_le_self _ _
      have hrle : kn % V ≤ kn := Nat.mod_le _ _
      generalize kn % V = r at *
      generalize kn / V = q at *
      by_cases g5 : r = 0
      · by_cases g6 : (q : Int) = sites
        · subst g6
          subst g5
          go_wp2_with fail
          all_goals first | (go_ret; exact ⟨rfl, Below.refl _ _⟩) | skip
          have g1 : 1 ≤ q := by omega
          have d1 : 0 ≤ x1 := by omega
          have d2 : x1 < V := by omega
          have d3 : 0 ≤ x2 := by omega
          have d4 : x2 < V := by omega
          have d5 : n1 ≤ q := by omega
          have d6 : n2 ≤ q := by omega
          obtain ⟨y1, rfl⟩ : ∃ y : Nat, x1 = y := ⟨x1.toNat, by omega⟩
          obtain ⟨y2, rfl⟩ : ∃ y : Nat, x2 = y := ⟨x2.toNat, by omega⟩
          refine (wellFormed_any pa pn pc rs w HP.out).mono ?_
          rintro e w ⟨⟨b, rfl, rfl, hwf⟩⟩
          cases b with
          | false =>
            go_wp2
            go_ret
            exact ⟨rfl, Below.refl _ _⟩
          | true =>
            have HWF : Hid (∀ r ∈ rs, okRow r) := hwf rfl
            clear hwf
            go_upto_if 153 with fail
            go_cut [8, 25] (fun v8 _ wx => ∃ a m, v8 = .slice a n1 m ∧ Hid (IS wx a n1 m c1) ∧ Below w.heap.size w wx)
            case first =>
              as_aux_lemma =>
                cases a1 with
                | none =>
                  obtain ⟨rfl, rfl⟩ := H1.out.lenZ
                  go_wp2_with fail
                  go_meet
                  exact ⟨_, _, rfl, H1, Below.refl _ _⟩
                | some ad =>
                  have hmk := fun wx => run_make_row' (P := Try.prog) 23 3 (.int .i64 0) 8 Try.underlying23 info3 rfl .i64 .i64 n1 (by omega) (by omega) wx
                  have hb0 : Below w.heap.size w (w.alloc (.cells (madeCells #[.int .i64 0] n1) 3)) := (Below.refl _ _).alloc (Nat.le_refl _) _
                  have HSRC : Hid (∀ (j : Nat) v, (c1.map (Value.int .i64))[j]? = some v → (w.alloc (.cells (madeCells #[.int .i64 0] n1) 3)).cell? (ad.add j) = some v) := copy_src H1.out hb0
                  have HL1 : Hid (c1.length = n1) := H1.out.len
                  go_wp2_with (refine wpList_copy_splice rfl (.tmp 157) (.tmp 158) 23 23 rfl 3 Try.underlying23 (by kernel_rfl) _ _ n1 n1 n1 m1 rfl rfl w.heap.size 0 (List.replicate n1 (.int .i64 0)) 3 (made_heap w n1) (c1.map (Value.int .i64)) (made_len HL1.out) (fun _ => ⟨rfl, _, rfl, HSRC.out⟩) (made_fit HL1.out) made_one w.heap.size w hb0 (Nat.le_refl _) ?_; intro w5 hg5 hb5)
                  go_meet
                  exact ⟨_, _, rfl, copied_is HL1.out h1m hg5.out, hb5⟩
            case rest =>
              as_aux_lemma =>
                obtain ⟨b1', m1', rfl, HC1, hbA⟩ := hcut
                obtain ⟨wA, hwA⟩ : ∃ wA, wA = wc := ⟨_, rfl⟩
                subst hwA
                go_upto_if 162 with fail
                go_cut [11, 26] (fun v11 _ wx => ∃ a m, v11 = .slice a n2 m ∧ Hid (IS wx a n2 m c2) ∧ Below wA.heap.size wA wx)
                case first =>
                  as_aux_lemma =>
                    have H2A : Hid (IS wA a2 n2 m2 c2) := H2.out.below hbA
                    cases a2 with
                    | none =>
                      obtain ⟨rfl, rfl⟩ := H2.out.lenZ
                      go_wp2_with fail
                      go_meet
                      exact ⟨_, _, rfl, H2A, Below.refl _ _⟩
                    | some ad =>
                      have hmk := fun wx => run_make_row' (P := Try.prog) 23 3 (.int .i64 0) 8 Try.underlying23 info3 rfl .i64 .i64 n2 (by omega) (by omega) wx
                      have hb0 : Below wA.heap.size wA (wA.alloc (.cells (madeCells #[.int .i64 0] n2) 3)) := (Below.refl _ _).alloc (Nat.le_refl _) _
                      have HSRC : Hid (∀ (j : Nat) v, (c2.map (Value.int .i64))[j]? = some v → (wA.alloc (.cells (madeCells #[.int .i64 0] n2) 3)).cell? (ad.add j) = some v) := copy_src H2A.out hb0
                      have HL2 : Hid (c2.length = n2) := H2.out.len
                      go_wp2_with (refine wpList_copy_splice rfl (.tmp 166) (.tmp 167) 23 23 rfl 3 Try.underlying23 (by kernel_rfl) _ _ n2 n2 n2 m2 rfl rfl wA.heap.size 0 (List.replicate n2 (.int .i64 0)) 3 (made_heap wA n2) (c2.map (Value.int .i64)) (made_len HL2.out) (fun _ => ⟨rfl, _, rfl, HSRC.out⟩) (made_fit HL2.out) made_one wA.heap.size wA hb0 (Nat.le_refl _) ?_; intro w5 hg5 hb5)
                      go_meet
                      exact ⟨_, _, rfl, copied_is HL2.out h2m hg5.out, hb5⟩
                case rest =>
                  as_aux_lemma =>
                    obtain ⟨b2', m2', rfl, HC2, hbB⟩ := hcut
                    obtain ⟨wB, hwB⟩ : ∃ wB, wB = wc := ⟨_, rfl⟩
                    subst hwB
                    have hbwB : Below w.heap.size w wB := hbA.trans (hbB.mono hbA.size)
                    have HKB : Hid (IS wB ka kn kc ks) := HK.out.below hbwB
                    have HPB : Hid (ISS wB pa pn pc rs) := HP.out.below hbwB
                    have HC1B : Hid (IS wB b1' n1 m1' c1) := HC1.out.below hbB
                    have hVq : V * q = kn := eqd.out
                    have hVle : V ≤ kn := by rw [← hVq]; exact Nat.le_mul_of_pos_right V (by omega)
                    have hy1 : y1 < V := by omega
                    have hy2 : y2 < V := by omega
                    have hkpos : 0 < kn := by rw [← hVq]; exact Nat.mul_pos (by omega) (by omega)
                    have HX1 : Hid (∀ k, k < n1 → k * V + y1 < kn) := fun k hk => by
                      have : (k + 1) * V ≤ q * V := Nat.mul_le_mul_right V (by omega)
                      rw [Nat.add_mul, Nat.one_mul, Nat.mul_comm q V, hVq] at this; omega
                    have HX2 : Hid (∀ k, k < n2 → k * V + y2 < kn) := fun k hk => by
                      have : (k + 1) * V ≤ q * V := Nat.mul_le_mul_right V (by omega)
                      rw [Nat.add_mul, Nat.one_mul, Nat.mul_comm q V, hVq] at this; omega
                    have HRS : Hid (∀ r ∈ rs, r.n ≤ 1000000 ∧ 3 ≤ r.n ∧ (r.n - 3) % 3 = 0) := fun r hr => ⟨by have := wordsTo_mem HP.out.len hr; have := HW.out; omega, HWF.out r hr⟩
                    have HKL : Hid (ks.length = kn) := HK.out.len
                    clear hVq
                    go_wp2_with fail
                    refine (clone_any ka kn kc ks wB HKB.out hkpos).mono ?_
                    rintro e w4 ⟨rfl, hrow4, hsz4, hb4⟩
                    have HR4 : Hid (w4.rowIs wB.heap.size 3 kn (fun j => .int .i64 (ks.getD j 0))) := hrow4
                    have HP4 : Hid (ISS w4 pa pn pc rs) := HPB.out.below hb4
                    clear hrow4 hsz4
                    go_wp2_with fail
                    refine (new_any _ _ _ _ _ pa pn pc rs _ _ _ w4 HP4.out (by omega) HRS.out).mono ?_
                    rintro e w5 hnew
                    obtain ⟨cA, psA, rfl, hcbA, hpsA, hb5⟩ := CB.make HKL.out HR4.out hb4 hnew
                    have HCA : Hid (CB wB.heap.size cA wB.heap.size kn V w5 psA ks) := hcbA
                    have HPSA : Hid (psA.map Pc.row = rs.map Rw.xs) := hpsA
                    have hlA : psA.length = pn := by
                      have h1 : (psA.map Pc.row).length = (rs.map Rw.xs).length := by rw [hpsA]
                      rw [List.length_map, List.length_map, HP.out.len] at h1; exact h1
                    clear hnew hcbA hpsA HR4 HP4 hb4
                    go_wp2_with fail
                    as_aux_lemma =>
                      refine (zzapply_nil wB.heap.size cA wB.heap.size kn V fr w1 y1 b1' n1 m1' c1 w5 wB psA ks HCA.out (by omega) (by omega) (by omega) HX1.out HC1B.out (Nat.le_refl _) hb5).mono ?_
                      rintro e w6 ⟨⟨vA1, mA1, rfl, hcA1, hb6⟩⟩
                      have HCA1 : Hid (CB wB.heap.size cA wB.heap.size kn V w6 (psA ++ [⟨fr, w1, y1, vA1, mA1, []⟩]) (rz ks V y1 c1 n1)) := hcA1
                      clear hcA1 HCA
                      go_wp2_with fail
                      refine (zzapply_nil wB.heap.size cA wB.heap.size kn V fr w2 y2 b2' n2 m2' c2 w6 wB _ _ HCA1.out (by omega) (by omega) (by rw [List.length_append, hlA]; simp; omega) HX2.out HC2.out (Nat.le_refl _) (hb5.trans hb6)).mono ?_
                      rintro e w7 ⟨⟨vA2, mA2, rfl, hcA2, hb7⟩⟩
                      have HCA2 : Hid (CB wB.heap.size cA wB.heap.size kn V w7 (psA ++ [⟨fr, w1, y1, vA1, mA1, []⟩] ++ [⟨fr, w2, y2, vA2, mA2, []⟩]) (rz (rz ks V y1 c1 n1) V y2 c2 n2)) := hcA2
                      have hbB7 : Below wB.heap.size wB w7 := (hb5.trans hb6).trans hb7
                      have HK7 : Hid (IS w7 ka kn kc ks) := HKB.out.below hbB7
                      have HP7 : Hid (ISS w7 pa pn pc rs) := HPB.out.below hbB7
                      have HC17 : Hid (IS w7 b1' n1 m1' c1) := HC1B.out.below hbB7
                      have HC27 : Hid (IS w7 b2' n2 m2' c2) := HC2.out.below hbB7
                      clear hcA2 HCA1 hb5 hb6 hb7
                      go_wp2_with fail
                      as_aux_lemma =>
                        refine (clone_any ka kn kc ks w7 HK7.out hkpos).mono ?_
                        rintro e w8 ⟨rfl, hrow8, hsz8, hb8⟩
                        have HR8 : Hid (w8.rowIs w7.heap.size 3 kn (fun j => .int .i64 (ks.getD j 0))) := hrow8
                        have HP8 : Hid (ISS w8 pa pn pc rs) := HP7.out.below hb8
                        clear hrow8 hsz8
                        go_wp2_with fail
                        refine (new_any _ _ _ _ _ pa pn pc rs _ _ _ w8 HP8.out (by omega) HRS.out).mono ?_
                        rintro e w9 hnew
                        obtain ⟨cB, psB, rfl, hcbB, hpsB, hb9⟩ := CB.make HKL.out HR8.out hb8 hnew
                        have HCB : Hid (CB w7.heap.size cB w7.heap.size kn V w9 psB ks) := hcbB
                        have HPSB : Hid (psB.map Pc.row = rs.map Rw.xs) := hpsB
                        have hlB : psB.length = pn := by
                          have h1 : (psB.map Pc.row).length = (rs.map Rw.xs).length := by rw [hpsB]
                          rw [List.length_map, List.length_map, HP.out.len] at h1; exact h1
                        clear hnew hcbB hpsB HR8 HP8 hb8
                        go_wp2_with fail
                        as_aux_lemma =>
                          refine (zzapply_nil w7.heap.size cB w7.heap.size kn V fr w2 y2 b2' n2 m2' c2 w9 w7 psB ks HCB.out (by omega) (by omega) (by omega) HX2.out HC27.out (Nat.le_refl _) hb9).mono ?_
                          rintro e w10 ⟨⟨vB1, mB1, rfl, hcB1, hb10⟩⟩
                          have HCB1 : Hid (CB w7.heap.size cB w7.heap.size kn V w10 (psB ++ [⟨fr, w2, y2, vB1, mB1, []⟩]) (rz ks V y2 c2 n2)) := hcB1
                          clear hcB1 HCB
                          go_wp2_with fail
                          refine (zzapply_nil w7.heap.size cB w7.heap.size kn V fr w1 y1 b1' n1 m1' c1 w10 w7 _ _ HCB1.out (by omega) (by omega) (by rw [List.length_append, hlB]; simp; omega) HX1.out HC17.out (Nat.le_refl _) (hb9.trans hb10)).mono ?_
                          rintro e w11 ⟨⟨vB2, mB2, rfl, hcB2, hb11⟩⟩
                          have HCB2 : Hid (CB w7.heap.size cB w7.heap.size kn V w11 (psB ++ [⟨fr, w2, y2, vB1, mB1, []⟩] ++ [⟨fr, w1, y1, vB2, mB2, []⟩]) (rz (rz ks V y2 c2 n2) V y1 c1 n1)) := hcB2
                          have hb711 : Below w7.heap.size w7 w11 := (hb9.trans hb10).trans hb11
                          have HCA11 : Hid (CB wB.heap.size cA wB.heap.size kn V w11 (psA ++ [⟨fr, w1, y1, vA1, mA1, []⟩] ++ [⟨fr, w2, y2, vA2, mA2, []⟩]) (rz (rz ks V y1 c1 n1) V y2 c2 n2)) := HCA2.out.below hb711
                          have HRX : Hid (∀ r ∈ rs, r.xs.length ≤ 1000000) := fun r hr => by rw [(HP.out.row r hr).len]; exact (HRS.out r hr).1
                          have HSA := rows_small2 (x1 := fr) (y1 := w1) (z1 := y1) (x2 := fr) (y2 := w2) (z2 := y2) (v1 := vA1) (v2 := vA2) (m1 := mA1) (m2 := mA2) (rows_small HPSA.out HRX.out)
                          have HSB := rows_small2 (x1 := fr) (y1 := w2) (z1 := y2) (x2 := fr) (y2 := w1) (z2 := y1) (v1 := vB1) (v2 := vB2) (m1 := mB1) (m2 := mB2) (rows_small HPSB.out HRX.out)
                          have HPA := precs_any wB.heap.size cA wB.heap.size kn V w11 _ _ HCA11.out (by simp [hlA]; omega) (stamps_small HCA11.out.st HSA)
                          have HSB' : Hid (∀ p ∈ psB ++ [⟨fr, w2, y2, vB1, mB1, []⟩] ++ [⟨fr, w1, y1, vB2, mB2, []⟩], p.row.length ≤ 1000000) := HSB
                          clear hcB2 HCB1 hb9 hb10 hb11 HSA HSB HCA2
                          go_wp2_with fail
                          as_aux_lemma =>
                            refine HPA.mono ?_
                            rintro e w12 ⟨⟨rA, oA, nA, qA, rfl, hiA, hrA, hb12⟩⟩
                            obtain rfl : nA = pn + 2 := by rw [← hiA.len]; exact rows_len hrA hlA
                            have HIA : Hid (ISS w12 oA (pn + 2) qA rA) := hiA
                            have HRA : Hid (rA.map Rw.xs = (psA ++ [(⟨fr, w1, y1, vA1, mA1, []⟩ : Pc)] ++ [(⟨fr, w2, y2, vA2, mA2, []⟩ : Pc)]).map Pc.row) := hrA
                            have HCB12 : Hid (CB w7.heap.size cB w7.heap.size kn V w12 (psB ++ [⟨fr, w2, y2, vB1, mB1, []⟩] ++ [⟨fr, w1, y1, vB2, mB2, []⟩]) (rz (rz ks V y2 c2 n2) V y1 c1 n1)) := HCB2.out.below hb12
                            have HPBc := precs_any w7.heap.size cB w7.heap.size kn V w12 _ _ HCB12.out (by simp [hlB]; omega) (stamps_small HCB12.out.st HSB'.out)
                            clear HPA hiA hrA HCB2
                            go_wp2_with fail
                            refine HPBc.mono ?_
                            rintro e w13 ⟨⟨rB, oB, nB, qB, rfl, hiB, hrB, hb13⟩⟩
                            obtain rfl : nB = pn + 2 := by rw [← hiB.len]; exact rows_len hrB hlB
                            have HIB : Hid (ISS w13 oB (pn + 2) qB rB) := hiB
                            have HRB : Hid (rB.map Rw.xs = (psB ++ [(⟨fr, w2, y2, vB1, mB1, []⟩ : Pc)] ++ [(⟨fr, w1, y1, vB2, mB2, []⟩ : Pc)]).map Pc.row) := hrB
                            have HIA13 : Hid (ISS w13 oA (pn + 2) qA rA) := HIA.out.below hb13
                            have hb1113 : Below w11.heap.size w11 w13 := hb12.trans (hb13.mono hb12.size)
                            have hb713 : Below w7.heap.size w7 w13 := hb711.trans (hb1113.mono hb711.size)
                            have HCA13 : Hid (CB wB.heap.size cA wB.heap.size kn V w13 (psA ++ [⟨fr, w1, y1, vA1, mA1, []⟩] ++ [⟨fr, w2, y2, vA2, mA2, []⟩]) (rz (rz ks V y1 c1 n1) V y2 c2 n2)) := HCA11.out.below hb1113
                            have HCB13 : Hid (CB w7.heap.size cB w7.heap.size kn V w13 (psB ++ [⟨fr, w2, y2, vB1, mB1, []⟩] ++ [⟨fr, w1, y1, vB2, mB2, []⟩]) (rz (rz ks V y2 c2 n2) V y1 c1 n1)) := HCB12.out.below hb13
                            have HP13 : Hid (ISS w13 pa pn pc rs) := HP7.out.below hb713
                            have HK13 : Hid (IS w13 ka kn kc ks) := HK7.out.below hb713
                            have HC113 : Hid (IS w13 b1' n1 m1' c1) := HC17.out.below hb713
                            have HC213 : Hid (IS w13 b2' n2 m2' c2) := HC27.out.below hb713
                            have hbw13 : Below w.heap.size w w13 := hbwB.trans ((hbB7.trans (hb713.mono hbB7.size)).mono hbwB.size)
                            clear HPBc hiB hrB HIA HCA11 HCB12 hb12 hb13 hb1113 hb711 hb713 HP7 HK7 HC17 HC27 HKB HPB HC1B HC2 HC1 hbB7 HSB' HRX
                            go_wp2_with fail
                            as_aux_lemma =>
                              go_loopw [50] (fun i wr => ∃ k : Nat, k ≤ pn ∧ i = .int .i64 k ∧ Below w13.heap.size w13 wr) (fun i _ => pn - (intOf i).toNat)
                              case atStart => exact ⟨0, by omega, rfl, Below.refl _ _⟩
                              case round =>
                                obtain ⟨k, hk, rfl, hbr⟩ := hrel
                                by_cases hlt : k < pn
                                · obtain ⟨bA, sA, r1, rfl, hbA1, hrA1, hcA1, tA⟩ := (HIA13.out.below hbr).at k (by omega)
                                  obtain ⟨bB, sB, r2, rfl, hbB1, hrB1, hcB1, tB⟩ := (HIB.out.below hbr).at k (by omega)
                                  obtain ⟨bP, sP, r3, rfl, hbP1, hrP1, hcP1, tP⟩ := (HP13.out.below hbr).at k hlt
                                  have ex1 : r1.xs = r3.xs := row_same2 HRA.out HPSA.out hrP1 hrA1
                                  have ex2 : r2.xs = r3.xs := row_same2 HRB.out HPSB.out hrP1 hrB1
                                  clear hrA1 hrB1 hrP1
                                  obtain ⟨ra1, rn1, rc1, rx1⟩ := r1
                                  obtain ⟨ra2, rn2, rc2, rx2⟩ := r2
                                  obtain ⟨ra3, rn3, rc3, rx3⟩ := r3
                                  dsimp only at hcA1 hcB1 hcP1 tA tB tP ex1 ex2
                                  subst ex1
                                  subst ex2
                                  have en1 : rn1 = rn3 := by rw [← tA.len, ← tP.len]
                                  have en2 : rn2 = rn3 := by rw [← tB.len, ← tP.len]
                                  subst en1
                                  subst en2
                                  have HtA : Hid (IS wr ra1 rn2 rc1 rx2) := tA
                                  have HtB : Hid (IS wr ra2 rn2 rc2 rx2) := tB
                                  have HtP : Hid (IS wr ra3 rn2 rc3 rx2) := tP
                                  have i1 : (k : Int) < (pn : Int) := by omega
                                  have i2 : (k : Int) < (pn : Int) + 2 := by omega
                                  have i3 : k < pn + 2 := by omega
                                  clear tA tB tP
                                  go_wp2_with fail
                                  as_aux_lemma =>
                                    go_quiet (first
                                      | (go_at_call 15; exact Calls.quiet_of (same_any _ _ _ _ _ rx2 _ (HtA.out.drewN _) (HtP.out.drewN _)))
                                      | (go_at_call 15; exact Calls.quiet_of (same_any _ _ _ _ _ rx2 _ (HtB.out.drewN _) (HtP.out.drewN _))))
                                    have hbr2 := below_drewN hbr nq
                                    go_wp2_with fail
                                    exact ⟨⟨k + 1, by omega, by go_num, hbr2⟩, by simp [intOf]; omega⟩
                                · obtain rfl : k = pn := by omega
                                  obtain ⟨w14, hw14⟩ : ∃ w14, w14 = wr := ⟨_, rfl⟩
                                  subst hw14
                                  have hb14 := hbr
                                  obtain ⟨bA, sA, r1, rfl, hbA1, hr1, hc1, t1⟩ := (HIA13.out.below hb14).at k (by omega)
                                  obtain ⟨bA', sA', r2, eA, hbA2, hr2, hc2, t2⟩ := (HIA13.out.below hb14).at (k + 1) (by omega)
                                  cases eA
                                  obtain ⟨bB, sB, r3, rfl, hbB1, hr3, hc3, t3⟩ := (HIB.out.below hb14).at k (by omega)
                                  obtain ⟨bB', sB', r4, eB, hbB2, hr4, hc4, t4⟩ := (HIB.out.below hb14).at (k + 1) (by omega)
                                  cases eB
                                  have ex1 : r1.xs = [fr, w1, (y1 : Int)] := row_last1 HRA.out hlA hr1
                                  have ex2 : r2.xs = [fr, w2, (y2 : Int)] := row_last2 HRA.out hlA hr2
                                  have ex3 : r3.xs = [fr, w2, (y2 : Int)] := row_last1 HRB.out hlB hr3
                                  have ex4 : r4.xs = [fr, w1, (y1 : Int)] := row_last2 HRB.out hlB hr4
                                  clear hr1 hr2 hr3 hr4
                                  obtain ⟨ra1, rn1, rc1, rx1⟩ := r1
                                  obtain ⟨ra2, rn2, rc2, rx2⟩ := r2
                                  obtain ⟨ra3, rn3, rc3, rx3⟩ := r3
                                  obtain ⟨ra4, rn4, rc4, rx4⟩ := r4
                                  dsimp only at hc1 hc2 hc3 hc4 t1 t2 t3 t4 ex1 ex2 ex3 ex4
                                  subst ex1 ex2 ex3 ex4
                                  obtain rfl : rn1 = 3 := t1.len.symm
                                  obtain rfl : rn2 = 3 := t2.len.symm
                                  obtain rfl : rn3 = 3 := t3.len.symm
                                  obtain rfl : rn4 = 3 := t4.len.symm
                                  have T1 : Hid (IS w14 ra1 (0 + 3) rc1 [fr, w1, (y1 : Int)]) := t1
                                  have T2 : Hid (IS w14 ra2 (0 + 3) rc2 [fr, w2, (y2 : Int)]) := t2
                                  have T3 : Hid (IS w14 ra3 (0 + 3) rc3 [fr, w2, (y2 : Int)]) := t3
                                  have T4 : Hid (IS w14 ra4 (0 + 3) rc4 [fr, w1, (y1 : Int)]) := t4
                                  have i1 : (k : Int) < (k : Int) + 2 := by omega
                                  have i2 : (k : Int) + 1 < (k : Int) + 2 := by omega
                                  have HC14 : Hid (w14.cell? ⟨bA, sA + (k + 1), none⟩ = some (.slice ra2 3 rc2)) := hc2
                                  have HC15 : Hid (w14.cell? ⟨bB, sB + k, none⟩ = some (.slice ra3 3 rc3)) := hc3
                                  have HC16 : Hid (w14.cell? ⟨bB, sB + (k + 1), none⟩ = some (.slice ra4 3 rc4)) := hc4
                                  clear t1 t2 t3 t4 hc2 hc3 hc4 HIA13 HIB HRA HRB
                                  go_wp2_with fail
                                  as_aux_lemma =>
                                    refine (isWrite_any ra1 none 0 rc1 0 fr w1 y1 [] w14 T1.out (IS.nil0 _)).mono ?_
                                    rintro e w15 ⟨rfl, hb15⟩
                                    have hd2 : w15.cell? ⟨bA, sA + (k + 1), none⟩ = some (.slice ra2 3 rc2) := (hb15.cell (p := ⟨bA, sA + (k + 1), none⟩) hbA1).trans HC14.out
                                    go_wp2_with fail
                                    refine (isWrite_any ra2 none 0 rc2 0 fr w2 y2 [] w15 (T2.out.below hb15) (IS.nil0 _)).mono ?_
                                    rintro e w16 ⟨rfl, hb16⟩
                                    have hb1416 : Below w14.heap.size w14 w16 := hb15.trans (hb16.mono hb15.size)
                                    have hd3 : w16.cell? ⟨bB, sB + k, none⟩ = some (.slice ra3 3 rc3) := (hb1416.cell (p := ⟨bB, sB + k, none⟩) hbB1).trans HC15.out
                                    go_wp2_with fail
                                    as_aux_lemma =>
                                      refine (isWrite_any ra3 none 0 rc3 0 fr w2 y2 [] w16 (T3.out.below hb1416) (IS.nil0 _)).mono ?_
                                      rintro e w17 ⟨rfl, hb17⟩
                                      have hb1417 : Below w14.heap.size w14 w17 := hb1416.trans (hb17.mono hb1416.size)
                                      have hd4 : w17.cell? ⟨bB, sB + (k + 1), none⟩ = some (.slice ra4 3 rc4) := (hb1417.cell (p := ⟨bB, sB + (k + 1), none⟩) hbB1).trans HC16.out
                                      go_wp2_with fail
                                      refine (isWrite_any ra4 none 0 rc4 0 fr w1 y1 [] w17 (T4.out.below hb1417) (IS.nil0 _)).mono ?_
                                      rintro e w18 ⟨rfl, hb18⟩
                                      have hb1418 : Below w14.heap.size w14 w18 := hb1417.trans (hb18.mono hb1417.size)
                                      have hb1318 : Below w13.heap.size w13 w18 := hb14.trans (hb1418.mono hb14.size)
                                      have HFA := HCA13.out.below hb1318
                                      have HFB := HCB13.out.below hb1318
                                      have KA := known_any _ _ _ _ _ w18 _ _ HFA
                                      have KB := known_any _ _ _ _ _ w18 _ _ HFB
                                      have hlen1 : ks.length = kn := HKL.out
                                      have RA := knownRaised_any (some ⟨wB.heap.size, 0, none⟩) ka b1' b2' kn kn kc n1 m1' n2 m2' V y1 y2 _ ks c1 c2 w18 (by omega) (by omega) (HFA.is (by omega)) (HK13.out.below hb1318) (HC113.out.below hb1318) (HC213.out.below hb1318)
                                        (fun i hi => rz_two ks V y1 y2 c1 c2 n1 n2 HC113.out.len HC213.out.len hy1 hy2 (fun j hj => by rw [hlen1]; exact HX1.out j hj) (fun j hj => by rw [hlen1]; exact HX2.out j hj) i (by rw [hlen1]; exact hi))
                                      have RB := knownRaised_any (some ⟨w7.heap.size, 0, none⟩) ka b1' b2' kn kn kc n1 m1' n2 m2' V y1 y2 _ ks c1 c2 w18 (by omega) (by omega) (HFB.is (by omega)) (HK13.out.below hb1318) (HC113.out.below hb1318) (HC213.out.below hb1318)
                                        (fun i hi => (rz_two ks V y2 y1 c2 c1 n2 n1 HC213.out.len HC113.out.len hy2 hy1 (fun j hj => by rw [hlen1]; exact HX2.out j hj) (fun j hj => by rw [hlen1]; exact HX1.out j hj) i (by rw [hlen1]; exact hi)).trans (want_comm _ _ _ _ _ _ _))
                                      have HFIN : Hid (Below w.heap.size w w18) := hbw13.trans (hb1318.mono hbw13.size)
                                      clear HFA HFB hlen1 hb1318 hb1418 hb1417 hb1416 hb15 hb16 hb17 hb18 hb14 hbw13
                                      go_wp2_with fail
                                      as_aux_lemma =>
                                        refine KA.mono ?_
                                        rintro e w18 ⟨rfl, rfl⟩
                                        go_wp2_with fail
                                        refine RA.mono ?_
                                        rintro e w18 ⟨rfl, rfl⟩
                                        go_wp2_with fail
                                        refine KB.mono ?_
                                        rintro e w18 ⟨rfl, rfl⟩
                                        go_wp2_with fail
                                        refine RB.mono ?_
                                        rintro e w18 ⟨rfl, rfl⟩
                                        clear KA KB RA RB
                                        go_wp2
                                        go_ret
                                        exact ⟨rfl, HFIN.out⟩
        · go_wp2_with fail
          all_goals (go_ret; exact ⟨rfl, Below.refl _ _⟩)
      · go_wp2_with fail
        all_goals (go_ret; exact ⟨rfl, Below.refl _ _⟩)
end Go.Proofs.Qxb6613363a
