/-
  The row of FnCausalBarrierApplyExact, proved.
-/
import Derived.Test.Qxb6613363aRows
import Derived.Test.Qxb6613363aLaw3
import Derived.Test.Qxb6613363aOpenA
namespace Go.Proofs.Qxb6613363a
open Go.ChangeShapes Go.WideShapes Go.ChangeAt Go.RowKit
set_option linter.unusedVariables false

theorem own3 : ownKnob Try.prog.godebug = none := by kernel_rfl
theorem laidOut3 : laidOutB Try.prog = true := by kernel_rfl

set_option maxRecDepth 100000 in
theorem lifted3 (os : Os) (started : os.Started) (H : Type) (enc : TypeId × Value → H) :
    ReturnsInHanded {} Try.checked os 3 .any (Rows.fnCausalBarrierApplyExactSpec.pre6 enc Try.prog Try.f3 Rows.fnCausalBarrierApplyExactRow.domain false) (Rows.fnCausalBarrierApplyExactSpec.post enc Try.prog Try.f3 false true false false) := by
  refine returnsInHanded_of_change_sized (C := Try.checked) own3 started (by kernel_rfl) Try.func3
    (ChangeSpec.witness6 (enc := enc) (C := Try.checked) false ⟨#[], #[.int .i64 0, .int .i64 0, .int .i64 0, .bool false, .int .i64 0, .slice none 0 0, .slice none 0 0, .int .i64 0, .int .i64 0, .int .i64 0, .slice none 0 0, .slice none 0 0], []⟩ 8 (by kernel_rfl) (by kernel_rfl) (by kernel_rfl) (by kernel_rfl)) ?_
  intro W base args ds gs before hval0 hW hcnd hsz _
  have hval : ∀ (j : Nat) t v, Try.f3.params[j]? = some t → args[j]? = some v → Value.okWide Try.prog W .any base t v := hval0
  have hW' := hW
  obtain ⟨p, q, hA0, hV, rfl, hfz, hnd⟩ := hW
  have hA : DataW.TrodAll enc Try.prog W 0 (fun _ => true) true Try.f3.params.toList args.toList ds p := hA0
  rw [Try.params3] at hA hval hsz
  obtain ⟨v0, vs0, d0, ds0, p0, q0, hargs, rfl, rfl, h0, r0⟩ := trodAll_cons hA
  obtain ⟨v1, vs1, d1, ds1, p1, q1, rfl, rfl, rfl, h1, r1⟩ := trodAll_cons r0
  obtain ⟨v2, vs2, d2, ds2, p2, q2, rfl, rfl, rfl, h2, r2⟩ := trodAll_cons r1
  obtain ⟨v3, vs3, d3, ds3, p3, q3, rfl, rfl, rfl, h3, r3⟩ := trodAll_cons r2
  obtain ⟨v4, vs4, d4, ds4, p4, q4, rfl, rfl, rfl, h4, r4⟩ := trodAll_cons r3
  obtain ⟨v5, vs5, d5, ds5, p5, q5, rfl, rfl, rfl, h5, r5⟩ := trodAll_cons r4
  obtain ⟨v6, vs6, d6, ds6, p6, q6, rfl, rfl, rfl, h6, r6⟩ := trodAll_cons r5
  obtain ⟨v7, vs7, d7, ds7, p7, q7, rfl, rfl, rfl, h7, r7⟩ := trodAll_cons r6
  obtain ⟨v8, vs8, d8, ds8, p8, q8, rfl, rfl, rfl, h8, r8⟩ := trodAll_cons r7
  obtain ⟨v9, vs9, d9, ds9, p9, q9, rfl, rfl, rfl, h9, r9⟩ := trodAll_cons r8
  obtain ⟨v10, vs10, d10, ds10, p10, q10, rfl, rfl, rfl, h10, r10⟩ := trodAll_cons r9
  obtain ⟨v11, vs11, d11, ds11, p11, q11, rfl, rfl, rfl, h11, r11⟩ := trodAll_cons r10
  obtain ⟨rfl, rfl, rfl⟩ := trodAll_nil r11
  obtain rfl : args = #[v0, v1, v2, v3, v4, v5, v6, v7, v8, v9, v10, v11] := by cases args; simp_all
  obtain ⟨rfl, rfl⟩ := trodVars_none hV
  have wt5 : ∀ n ∈ d5.weights Try.prog 22, n ≤ reachBytes := fun n hn => by simpa using List.all_eq_true.1 hsz n (DataW.weights_mem_each (j := 5) (t := 22) (d := d5) rfl rfl n hn)
  have wt6 : ∀ n ∈ d6.weights Try.prog 23, n ≤ reachBytes := fun n hn => by simpa using List.all_eq_true.1 hsz n (DataW.weights_mem_each (j := 6) (t := 23) (d := d6) rfl rfl n hn)
  have wt10 : ∀ n ∈ d10.weights Try.prog 23, n ≤ reachBytes := fun n hn => by simpa using List.all_eq_true.1 hsz n (DataW.weights_mem_each (j := 10) (t := 23) (d := d10) rfl rfl n hn)
  have wt11 : ∀ n ∈ d11.weights Try.prog 23, n ≤ reachBytes := fun n hn => by simpa using List.all_eq_true.1 hsz n (DataW.weights_mem_each (j := 11) (t := 23) (d := d11) rfl rfl n hn)
  have lt : ∀ {t v d q}, DataW.Trod enc Try.prog W 0 (fun _ => true) true t v d q → ∀ x ∈ q, x.block < W.heap.size := fun h => by obtain ⟨m, hm⟩ := h; exact DataW.trod_lt m _ _ _ hm
  obtain ⟨n0, rfl, _⟩ := open_int Try.underlying3 (hval 0 3 v0 rfl rfl) h0
  obtain ⟨n1, rfl, _⟩ := open_int Try.underlying3 (hval 1 3 v1 rfl rfl) h1
  obtain ⟨n2, rfl, _⟩ := open_int Try.underlying3 (hval 2 3 v2 rfl rfl) h2
  obtain ⟨n4, rfl, _⟩ := open_int Try.underlying3 (hval 4 3 v4 rfl rfl) h4
  obtain ⟨n7, rfl, _⟩ := open_int Try.underlying3 (hval 7 3 v7 rfl rfl) h7
  obtain ⟨n8, rfl, _⟩ := open_int Try.underlying3 (hval 8 3 v8 rfl rfl) h8
  obtain ⟨n9, rfl, _⟩ := open_int Try.underlying3 (hval 9 3 v9 rfl rfl) h9
  obtain ⟨b3, rfl, _⟩ := open_bool Try.underlying4 (hval 3 4 v3 rfl rfl) h3
  obtain ⟨a5, l5, c5, rfl⟩ := okWide_slice Try.underlying22 (hval 5 22 v5 rfl rfl)
  obtain ⟨a6, l6, c6, rfl⟩ := okWide_slice Try.underlying23 (hval 6 23 v6 rfl rfl)
  obtain ⟨a10, l10, c10, rfl⟩ := okWide_slice Try.underlying23 (hval 10 23 v10 rfl rfl)
  obtain ⟨a11, l11, c11, rfl⟩ := okWide_slice Try.underlying23 (hval 11 23 v11 rfl rfl)
  obtain ⟨x5, t5⟩ : ∃ xs, ISS W a5 l5 c5 xs := by
    obtain ⟨fuel, hf⟩ := h5
    obtain ⟨a, n, c, xs, e, t⟩ := iss_of_trod hf wt5
    simp [Value.cells] at e
    obtain ⟨rfl, rfl, rfl⟩ := e
    exact ⟨xs, t⟩
  obtain ⟨x6, t6⟩ : ∃ xs, IS W a6 l6 c6 xs := by
    obtain ⟨fuel, hf⟩ := h6
    obtain ⟨a, n, c, xs, e, t⟩ := is_of_trod hf wt6
    simp [Value.cells] at e
    obtain ⟨rfl, rfl, rfl⟩ := e
    exact ⟨xs, t⟩
  obtain ⟨x10, t10⟩ : ∃ xs, IS W a10 l10 c10 xs := by
    obtain ⟨fuel, hf⟩ := h10
    obtain ⟨a, n, c, xs, e, t⟩ := is_of_trod hf wt10
    simp [Value.cells] at e
    obtain ⟨rfl, rfl, rfl⟩ := e
    exact ⟨xs, t⟩
  obtain ⟨x11, t11⟩ : ∃ xs, IS W a11 l11 c11 xs := by
    obtain ⟨fuel, hf⟩ := h11
    obtain ⟨a, n, c, xs, e, t⟩ := is_of_trod hf wt11
    simp [Value.cells] at e
    obtain ⟨rfl, rfl, rfl⟩ := e
    exact ⟨xs, t⟩
  clear hA0 hval0
  refine (law3_any n0 n1 n2 n4 n7 n8 n9 b3 a6 a5 a10 a11 l6 c6 l5 c5 l10 c10 l11 c11 x6 x10 x11 x5 W t6 t5 t10 t11).mono fun e W' ⟨he, bel⟩ => ?_
  subst he
  have sh : ∀ {t v d q}, Try.prog.readableRec t = true → t < Try.prog.types.size → DataW.Trod enc Try.prog W 0 (fun _ => true) true t v d q → DataW.Trod enc Try.prog W' 0 (fun b => decide (b < W.heap.size)) true t v d q := fun hr ht h => Below.trod laidOut3 hr ht h bel (lt h)
  have r3 : Try.prog.readableRec 3 = true := by kernel_rfl
  have r23 : Try.prog.readableRec 23 = true := by kernel_rfl
  have r22 : Try.prog.readableRec 22 = true := by kernel_rfl
  have r4 : Try.prog.readableRec 4 = true := by kernel_rfl
  have s4 : 4 < Try.prog.types.size := of_decide_eq_true (by kernel_rfl)
  have s3 : 3 < Try.prog.types.size := of_decide_eq_true (by kernel_rfl)
  have s23 : 23 < Try.prog.types.size := of_decide_eq_true (by kernel_rfl)
  have s22 : 22 < Try.prog.types.size := of_decide_eq_true (by kernel_rfl)
  exact ⟨_, rfl, _, _, _, [], _, [], hW', trodAll_mk1 (shut_bool Try.underlying4 _), (trodAll_cons_mk (sh r3 s3 h0) (trodAll_cons_mk (sh r3 s3 h1) (trodAll_cons_mk (sh r3 s3 h2) (trodAll_cons_mk (sh r4 s4 h3) (trodAll_cons_mk (sh r3 s3 h4) (trodAll_cons_mk (sh r22 s22 h5) (trodAll_cons_mk (sh r23 s23 h6) (trodAll_cons_mk (sh r3 s3 h7) (trodAll_cons_mk (sh r3 s3 h8) (trodAll_cons_mk (sh r3 s3 h9) (trodAll_cons_mk (sh r23 s23 h10) (trodAll_cons_mk (sh r23 s23 h11) trodAll_mk0)))))))))))), rfl, bel.frame _, fun h => by cases h⟩

theorem fnCausalBarrierApplyExact_holds : Rows.FnCausalBarrierApplyExactSaid :=
  OpenClaim.holds_of_wide 3 Try.f3 rfl rfl rfl rfl rfl rfl rfl ⟨rfl, rfl, rfl, rfl, rfl⟩ rfl rfl rfl rfl rfl (by kernel_rfl) Try.func3 (by kernel_rfl)
    (of_decide_eq_true (by kernel_rfl)) (by unfold Func.isWrapper; first | (rw [if_pos (by decide +kernel)]; kernel_rfl) | (rw [if_neg (by decide +kernel)]; exact ⟨rfl, rfl⟩))
    (fun os started H enc _ => lifted3 os started H enc)
end Go.Proofs.Qxb6613363a
