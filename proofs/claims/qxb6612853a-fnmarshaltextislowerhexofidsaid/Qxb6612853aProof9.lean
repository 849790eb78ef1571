/-
  The row of FnMarshalTextIsLowerHexOfID, proved.
-/
import Derived.Test.Qxb6612853aRows
import Derived.Test.Qxb6612853aLaw9
import Derived.ProofKit
import Derived.OpenShut
import Derived.ChangeOld
import Derived.Below
namespace Go.Proofs.Qxb6612853a
open Go.ChangeShapes Go.WideShapes Go.ChangeAt Go.RowKit
set_option linter.unusedVariables false

theorem own : ownKnob Try.prog.godebug = none := by kernel_rfl
theorem laidOut : laidOutB Try.prog = true := by kernel_rfl
theorem cells22 : Try.prog.cellsOf 22 = 32 := by kernel_rfl
theorem cells5 : Try.prog.cellsOf 5 = 1 := by kernel_rfl

/-- AN ARRAY OF 32 BYTES BY VALUE, opened. -/
theorem open_id {H : Type} {enc : TypeId × Value → H} {W : World} {base bs : Nat} {sp : Nat → Bool} {hd : Bool} {v : Value} {d : DataW H} {p : List MemPlace}
    (hv : Value.okWide Try.prog W .any bs 22 v) (h : DataW.Trod enc Try.prog W base sp hd 22 v d p) : ∃ cs xs, v = .agg cs ∧ IsId cs xs := by
  obtain ⟨cs, rfl, hsz, _⟩ : ∃ cs, v = .agg cs ∧ cs.size = Try.prog.cellsOf 22 ∧ Row.okWide Try.prog W .any bs 22 cs := by
    simpa [Value.okWide, Try.underlying22] using hv
  rw [cells22] at hsz
  obtain ⟨fuel, hf⟩ := h
  obtain ⟨ys, m, rfl, hx, _, hyl, hel⟩ := DataW.trod_array Try.underlying22 hf
  rw [cells5] at hel
  have key : ∀ i, i < 32 → ∃ n : Int, cs[i]? = some (.int .u8 n) ∧ (0 ≤ n ∧ n < 256) := by
    intro i hi
    have e := hel i hi
    rw [List.getElem?_eq_getElem (by omega)] at e
    obtain ⟨n, hcs, _, hwf⟩ := DataW.trod_int Try.underlying5 e
    refine ⟨n, ?_, ?_⟩
    · simp only [Value.cells, Nat.mul_one] at hcs
      have : ((cs.toList.drop i).take 1)[0]? = some (Value.int .u8 n) := by rw [hcs]; rfl
      simpa using this
    · have := bounds_u8 hwf
      omega
  refine ⟨cs, cs.toList.map intOf, rfl, hsz, by simp [hsz], ?_, ?_⟩
  · intro i hi
    obtain ⟨n, e, _⟩ := key i hi
    rw [e, List.getD_eq_getElem?_getD, List.getElem?_map]
    simp [e, intOf]
  · intro i hi
    obtain ⟨n, e, hn⟩ := key i hi
    rw [List.getD_eq_getElem?_getD, List.getElem?_map]
    simp [e, intOf, hn]

set_option maxRecDepth 100000 in
theorem lifted9 (os : Os) (started : os.Started) (H : Type) (enc : TypeId × Value → H) :
    ReturnsInHanded {} Try.checked os 9 .any (Rows.fnMarshalTextIsLowerHexOfIDSpec.pre6 enc Try.prog Try.f9 Rows.fnMarshalTextIsLowerHexOfIDRow.domain false) (Rows.fnMarshalTextIsLowerHexOfIDSpec.post enc Try.prog Try.f9 false true false false) := by
  refine returnsInHanded_of_change (C := Try.checked) own started (by kernel_rfl) Try.func9
    (ChangeSpec.witness6 (enc := enc) (C := Try.checked) false ⟨#[], #[.agg (Array.replicate 32 (.int .u8 0))], []⟩ 8 (by kernel_rfl) (by kernel_rfl) (by kernel_rfl) (by kernel_rfl)) ?_
  intro W base args ds gs before hval0 hW hcnd _
  have hval : ∀ (j : Nat) t v, Try.f9.params[j]? = some t → args[j]? = some v → Value.okWide Try.prog W .any base t v := hval0
  have hW' := hW
  obtain ⟨p, q, hA0, hV, rfl, hfz, hnd⟩ := hW
  have hA : DataW.TrodAll enc Try.prog W 0 (fun _ => true) true Try.f9.params.toList args.toList ds p := hA0
  rw [Try.params9] at hA hval
  obtain ⟨v0, vs0, d0, ds0, p0, q0, hargs, rfl, rfl, h0, r0⟩ := trodAll_cons hA
  obtain ⟨rfl, rfl, rfl⟩ := trodAll_nil r0
  obtain rfl : args = #[v0] := by cases args; simp_all
  obtain ⟨rfl, rfl⟩ := trodVars_none hV
  have k0 := h0
  have lt0 : ∀ x ∈ p0, x.block < W.heap.size := by obtain ⟨m, hm⟩ := k0; exact DataW.trod_lt m _ _ _ hm
  obtain ⟨cs, xs, rfl, hid⟩ := open_id (hval 0 22 v0 rfl rfl) h0
  clear hA0 hval0
  refine (law9 cs xs W hid).mono fun e W' ⟨he, bel⟩ => ?_
  subst he
  exact ⟨_, rfl, _, _, _, [], _, [], hW', trodAll_mk1 (shut_bool Try.underlying4 _), (trodAll_cons_mk (Below.trod laidOut (by kernel_rfl) (of_decide_eq_true (by kernel_rfl)) k0 bel lt0) trodAll_mk0), rfl, bel.frame _, fun h => by cases h⟩

theorem fnMarshalTextIsLowerHexOfID_holds : Rows.FnMarshalTextIsLowerHexOfIDSaid :=
  OpenClaim.holds_of_wide 9 Try.f9 rfl rfl rfl rfl rfl rfl rfl ⟨rfl, rfl, rfl, rfl, rfl⟩ rfl rfl rfl rfl rfl (by kernel_rfl) Try.func9 (by kernel_rfl)
    (of_decide_eq_true (by kernel_rfl)) (by unfold Func.isWrapper; first | (rw [if_pos (by decide +kernel)]; kernel_rfl) | (rw [if_neg (by decide +kernel)]; exact ⟨rfl, rfl⟩))
    (fun os started H enc _ => lifted9 os started H enc)

end Go.Proofs.Qxb6612853a
