/-
  FnReadsAnySplitsAtAnyCutAndMeetsTheReads returns true, whatever it is handed.
-/
import Derived.Test.Qxb6613880aMapB
import Derived.Test.Qxb6613880aMapC
import Derived.Test.Qxb6613880aReadA
import Derived.Test.Qxb6613880aReadB
import Derived.Test.Qxb6613880aReadC
import Derived.Test.Qxb6613880aCutA
namespace Go.Proofs.Qxb6613880a
open Go.RowKit Go.Maps

/-- Of the whole, the part before the cut and the part behind it. -/
theorem split_bool {xs ys : List C3} {K : Nat} {v1 v2 v3 : Bool} (h1 : v1 = true ↔ ∃ x, x ∈ ys ∧ x ∈ xs) (h2 : v2 = true ↔ ∃ x, x ∈ ys.take K ∧ x ∈ xs) (h3 : v3 = true ↔ ∃ x, x ∈ ys.drop K ∧ x ∈ xs) : v1 = (v2 || v3) := by
  rw [Bool.eq_iff_iff, h1, Bool.or_eq_true, h2, h3]
  constructor
  · rintro ⟨x, hx, hr⟩
    rw [← List.take_append_drop K ys, List.mem_append] at hx
    rcases hx with hx | hx
    · exact .inl ⟨x, hx, hr⟩
    · exact .inr ⟨x, hx, hr⟩
  · rintro (⟨x, hx, hr⟩ | ⟨x, hx, hr⟩)
    · exact ⟨x, List.mem_of_mem_take hx, hr⟩
    · exact ⟨x, List.mem_of_mem_drop hx, hr⟩

/-- What newTx has laid, seen through what came behind it. -/
structure Tx (p br n : Nat) (xs : List C3) (w : World) : Prop where
  lt : p < w.heap.size
  cell : w.cell? ⟨p, 4, none⟩ = some (.map (some br))
  set : MS 12 w br n xs

theorem Tx.below {p br n : Nat} {xs : List C3} {w w' : World} (h : Tx p br n xs w) (hb : Below w.heap.size w w') : Tx p br n xs w' :=
  ⟨Nat.lt_of_lt_of_le h.lt hb.size, (hb.cell (p := ⟨p, 4, none⟩) h.lt).trans h.cell, h.set.below hb h.set.lt⟩

theorem below_next {B : Nat} {w w1 w2 : World} (h : Below B w w1) (hB : B ≤ w1.heap.size) (h2 : Below w1.heap.size w1 w2) : Below B w w2 := h.trans (h2.mono hB)

set_option maxRecDepth 100000 in
set_option maxHeartbeats 4000000 in
theorem law_any (k : Int) (a1 a2 : Option Addr) (n1 c1 n2 c2 : Nat) (xs ys : List C3) (w : World) (t1 : CS w a1 n1 c1 xs) (t2 : CS w a2 n2 c2 ys) :
    Calls Try.prog 3 #[.slice a1 n1 c1, .slice a2 n2 c2, .int .i64 k] w fun e w' => e = .returned (.bool true) ∧ Below w.heap.size w w' := by
  have hm1 := t1.max
  have hm2 := t2.max
  have H1 : Hid (CS w a1 n1 c1 xs) := t1
  have H2 : Hid (CS w a2 n2 c2 ys) := t2
  clear t1 t2
  go_enter Try.func3, Try.ntmps3
  go_wp2_with fail
  refine (bytes_any _ _ _ _ _ _ _ _ _ _ H1.out H2.out).mono ?_
  rintro e w ⟨b, rfl, rfl, -⟩
  cases b with
  | false =>
    go_wp2
    go_ret
    exact ⟨rfl, Below.refl _ _⟩
  | true =>
    go_wp2_with fail
    all_goals first | (go_ret; exact ⟨rfl, Below.refl _ _⟩) | skip
    have b1 : n1 ≤ 4096 := by omega
    have b2 : n2 ≤ 4096 := by omega
    refine (cellsBytes_any _ _ _ _ 1048576 _ H1.out (by omega) (by omega)).mono ?_
    rintro e w ⟨rb, rfl, rfl, r0, r1⟩
    by_cases g1 : rb ≤ 1048576
    · have f1 : IntKind.i64.wrap (1048576 - rb) = 1048576 - rb := by simp [IntKind.wrap, IntKind.bits, IntKind.signed]; omega
      go_wp2_with fail
      refine (cellsBytes_any _ _ _ _ (1048576 - rb) _ H2.out (by omega) (by omega)).mono ?_
      rintro e w ⟨cb, rfl, rfl, r2, r3⟩
      by_cases g2 : cb ≤ 1048576 - rb
      · go_wp2_with fail
        all_goals first | (go_ret; exact ⟨rfl, Below.refl _ _⟩) | skip
        have g3 : 0 ≤ k := by omega
        have g4 : k ≤ n2 := by omega
        obtain ⟨K, rfl⟩ : ∃ K : Nat, k = K := ⟨k.toNat, by omega⟩
        have g5 : K ≤ n2 := by omega
        refine (newTx_any _ _ _ xs _ H1.out (by omega)).mono ?_
        rintro e w1 ⟨p, br, rfl, hp, hbr, hpb, hpl, hpc, hmr, hB1⟩
        have HT1 : Hid (Tx p br n1 xs w1) := ⟨hpl, hpc, hmr⟩
        have hs1 := hB1.size
        have HC1 : Hid (CS w1 a2 n2 c2 ys) := H2.out.below hB1
        clear hpl hpc hmr hp hbr hpb
        go_wp2_with fail
        refine (newCells_any _ _ _ ys _ HC1.out (by omega)).mono ?_
        rintro e w2 ⟨d2, rfl, hd2, hmc, hB2⟩
        have HT2 : Hid (Tx p br n1 xs w2) := HT1.out.below hB2
        have HM2 : Hid (MS 13 w2 d2 n2 ys) := hmc
        have hB02 := below_next hB1 hs1 hB2
        clear hmc hd2
        go_wp2_with fail
        refine (zzReadsAny_any p br n1 d2 n2 xs ys _ HT2.out.set HM2.out HT2.out.cell HT2.out.lt HC1.out.ok).mono ?_
        rintro e w3 ⟨v1, rfl, hB3, hv1⟩
        have HV1 : Hid (v1 = true ↔ ∃ x, x ∈ ys ∧ x ∈ xs) := hv1
        have HT3 : Hid (Tx p br n1 xs w3) := HT2.out.below hB3
        have hB03 := below_next hB02 hB02.size hB3
        have HC3 : Hid (CS w3 a2 n2 c2 ys) := H2.out.below hB03
        clear hv1
        obtain ⟨a4, c4, hcs4, hrun4⟩ := front_ex HC3.out g5
        have HC4 : Hid (CS w3 a4 K c4 (ys.take K)) := hcs4
        clear hcs4
        go_wp2_with (refine wpList_slice_known _ rfl 22 (.tmp 51) none (some (.tmp 52)) rfl _ hrun4 ?_)
        refine (newCells_any a4 K c4 _ _ HC4.out (by omega)).mono ?_
        rintro e w4 ⟨d4, rfl, hd4, hmc, hB4⟩
        have HT4 : Hid (Tx p br n1 xs w4) := HT3.out.below hB4
        have HM4 : Hid (MS 13 w4 d4 K (ys.take K)) := hmc
        have hB04 := below_next hB03 hB03.size hB4
        clear hmc hd4
        go_wp2_with fail
        refine (zzReadsAny_any p br n1 d4 K xs (ys.take K) _ HT4.out.set HM4.out HT4.out.cell HT4.out.lt HC4.out.ok).mono ?_
        rintro e w5 ⟨v2, rfl, hB5, hv2⟩
        have HV2 : Hid (v2 = true ↔ ∃ x, x ∈ ys.take K ∧ x ∈ xs) := hv2
        have HT5 : Hid (Tx p br n1 xs w5) := HT4.out.below hB5
        have hB05 := below_next hB04 hB04.size hB5
        have HC5 : Hid (CS w5 a2 n2 c2 ys) := H2.out.below hB05
        clear hv2
        obtain ⟨a6, c6, hcs6, hrun6⟩ := back_ex HC5.out g5
        have HC6 : Hid (CS w5 a6 (n2 - K) c6 (ys.drop K)) := hcs6
        clear hcs6
        go_wp2_with (refine wpList_slice_known _ rfl 22 (.tmp 57) (some (.tmp 58)) none rfl _ hrun6 ?_)
        refine (newCells_any a6 (n2 - K) c6 _ _ HC6.out (by omega)).mono ?_
        rintro e w6 ⟨d6, rfl, hd6, hmc, hB6⟩
        have HT6 : Hid (Tx p br n1 xs w6) := HT5.out.below hB6
        have HM6 : Hid (MS 13 w6 d6 (n2 - K) (ys.drop K)) := hmc
        have hB06 := below_next hB05 hB05.size hB6
        clear hmc hd6
        go_wp2_with fail
        refine (zzReadsAny_any p br n1 d6 (n2 - K) xs (ys.drop K) _ HT6.out.set HM6.out HT6.out.cell HT6.out.lt HC6.out.ok).mono ?_
        rintro e w7 ⟨v3, rfl, hB7, hv3⟩
        have hB07 := below_next hB06 hB06.size hB7
        have HV : Hid (v1 = (v2 || v3)) := split_bool HV1.out HV2.out hv3
        have HC7 : Hid (CS w7 a1 n1 c1 xs) := H1.out.below hB07
        have HD7 : Hid (CS w7 a2 n2 c2 ys) := H2.out.below hB07
        clear hv3 HV2
        cases v2 <;> cases v3 <;> obtain rfl := HV.out
        all_goals
          go_wp2_with fail
          refine (meets_any _ _ _ _ _ _ xs ys _ HC7.out HD7.out).mono ?_
          rintro e w8 ⟨v4, q, rfl, rfl, hv4⟩
          have hE := Bool.eq_iff_iff.2 (hv4.trans HV1.out.symm)
          clear hv4
          subst hE
          go_wp2
          go_ret
          exact ⟨rfl, below_drewN hB07 q⟩
      · go_wp2
        go_ret
        exact ⟨rfl, Below.refl _ _⟩
    · go_wp2
      go_ret
      exact ⟨rfl, Below.refl _ _⟩
end Go.Proofs.Qxb6613880a
