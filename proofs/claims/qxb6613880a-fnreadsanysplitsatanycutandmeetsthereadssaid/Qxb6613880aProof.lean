/-
  The row of FnReadsAnySplitsAtAnyCutAndMeetsTheReads, proved.
-/
import Derived.Test.Qxb6613880aRows
import Derived.Test.Qxb6613880aLaw
import Derived.Test.Qxb6613880aOpenA
namespace Go.Proofs.Qxb6613880a
open Go.ChangeShapes Go.WideShapes Go.ChangeAt Go.RowKit

theorem ownT : ownKnob Try.prog.godebug = none := by kernel_rfl

set_option maxRecDepth 100000 in
theorem lifted (os : Os) (started : os.Started) (H : Type) (enc : TypeId × Value → H) :
    ReturnsInHanded {} Try.checked os 3 .any (Rows.fnReadsAnySplitsAtAnyCutAndMeetsTheReadsSpec.pre6 enc Try.prog Try.f3 Rows.fnReadsAnySplitsAtAnyCutAndMeetsTheReadsRow.domain false) (Rows.fnReadsAnySplitsAtAnyCutAndMeetsTheReadsSpec.post enc Try.prog Try.f3 false true false false) := by
  refine returnsInHanded_of_change_sized (C := Try.checked) ownT started (by kernel_rfl) Try.func3
    (ChangeSpec.witness6 (enc := enc) (C := Try.checked) false ⟨#[], #[.slice none 0 0, .slice none 0 0, .int .i64 0], []⟩ 8 (by kernel_rfl) (by kernel_rfl) (by kernel_rfl) (by kernel_rfl)) ?_
  intro W base args ds gs before hval0 hW hcnd hsz _
  have hval : ∀ (j : Nat) t v, Try.f3.params[j]? = some t → args[j]? = some v → Value.okWide Try.prog W .any base t v := hval0
  have hW' := hW
  obtain ⟨p, q, hA0, hV, rfl, hfz, hnd⟩ := hW
  have hA : DataW.TrodAll enc Try.prog W 0 (fun _ => true) true Try.f3.params.toList args.toList ds p := hA0
  rw [Try.params3] at hA hval hsz
  obtain ⟨v0, vs0, d0, ds0, p0, q0, hargs, rfl, rfl, h0, r0⟩ := trodAll_cons hA
  obtain ⟨v1, vs1, d1, ds1, p1, q1, rfl, rfl, rfl, h1, r1⟩ := trodAll_cons r0
  obtain ⟨v2, vs2, d2, ds2, p2, q2, rfl, rfl, rfl, h2, r2⟩ := trodAll_cons r1
  obtain ⟨rfl, rfl, rfl⟩ := trodAll_nil r2
  obtain rfl : args = #[v0, v1, v2] := by cases args; simp_all
  obtain ⟨rfl, rfl⟩ := trodVars_none hV
  have wt0 : ∀ n ∈ d0.weights Try.prog 22, n ≤ reachBytes := fun n hn => by simpa using List.all_eq_true.1 hsz n (DataW.weights_mem_each (j := 0) (t := 22) (d := d0) rfl rfl n hn)
  have wt1 : ∀ n ∈ d1.weights Try.prog 22, n ≤ reachBytes := fun n hn => by simpa using List.all_eq_true.1 hsz n (DataW.weights_mem_each (j := 1) (t := 22) (d := d1) rfl rfl n hn)
  have lt : ∀ {t v d q}, DataW.Trod enc Try.prog W 0 (fun _ => true) true t v d q → ∀ x ∈ q, x.block < W.heap.size := fun h => by obtain ⟨m, hm⟩ := h; exact DataW.trod_lt m _ _ _ hm
  obtain ⟨k, rfl, _⟩ := open_int Try.underlying3 (hval 2 3 v2 rfl rfl) h2
  obtain ⟨a0, l0, c0, rfl⟩ := okWide_slice Try.underlying22 (hval 0 22 v0 rfl rfl)
  obtain ⟨a1, l1, c1, rfl⟩ := okWide_slice Try.underlying22 (hval 1 22 v1 rfl rfl)
  obtain ⟨x0, t0⟩ : ∃ xs, CS W a0 l0 c0 xs := by
    obtain ⟨fuel, hf⟩ := h0
    obtain ⟨a, n, c, xs, e, t⟩ := cs_of_trod hf wt0
    simp [Value.cells] at e
    obtain ⟨rfl, rfl, rfl⟩ := e
    exact ⟨xs, t⟩
  obtain ⟨x1, t1⟩ : ∃ xs, CS W a1 l1 c1 xs := by
    obtain ⟨fuel, hf⟩ := h1
    obtain ⟨a, n, c, xs, e, t⟩ := cs_of_trod hf wt1
    simp [Value.cells] at e
    obtain ⟨rfl, rfl, rfl⟩ := e
    exact ⟨xs, t⟩
  clear hA0 hval0
  refine (law_any k a0 a1 l0 c0 l1 c1 x0 x1 W t0 t1).mono fun e W' ⟨he, bel⟩ => ?_
  subst he
  have sh : ∀ {t v d q}, Try.prog.readableRec t = true → t < Try.prog.types.size → DataW.Trod enc Try.prog W 0 (fun _ => true) true t v d q → DataW.Trod enc Try.prog W' 0 (fun b => decide (b < W.heap.size)) true t v d q := fun hr ht h => Below.trod laidOutT hr ht h bel (lt h)
  have r3 : Try.prog.readableRec 3 = true := by kernel_rfl
  have r22 : Try.prog.readableRec 22 = true := by kernel_rfl
  have s3 : 3 < Try.prog.types.size := of_decide_eq_true (by kernel_rfl)
  have s22 : 22 < Try.prog.types.size := of_decide_eq_true (by kernel_rfl)
  exact ⟨_, rfl, _, _, _, [], _, [], hW', trodAll_mk1 (shut_bool Try.underlying4 _), (trodAll_cons_mk (sh r22 s22 h0) (trodAll_cons_mk (sh r22 s22 h1) (trodAll_cons_mk (sh r3 s3 h2) trodAll_mk0))), rfl, bel.frame _, fun h => by cases h⟩

theorem fnReadsAnySplitsAtAnyCutAndMeetsTheReads_holds : Rows.FnReadsAnySplitsAtAnyCutAndMeetsTheReadsSaid :=
  OpenClaim.holds_of_wide 3 Try.f3 rfl rfl rfl rfl rfl rfl rfl ⟨rfl, rfl, rfl, rfl, rfl⟩ rfl rfl rfl rfl rfl (by kernel_rfl) Try.func3 (by kernel_rfl)
    (of_decide_eq_true (by kernel_rfl)) (by unfold Func.isWrapper; first | (rw [if_pos (by decide +kernel)]; kernel_rfl) | (rw [if_neg (by decide +kernel)]; exact ⟨rfl, rfl⟩))
    (fun os started H enc _ => lifted os started H enc)
end Go.Proofs.Qxb6613880a
