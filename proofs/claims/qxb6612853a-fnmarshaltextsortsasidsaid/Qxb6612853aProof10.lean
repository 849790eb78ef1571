/-
  The row of FnMarshalTextSortsAsID, proved.
-/
import Derived.Test.Qxb6612853aRows
import Derived.Test.Qxb6612853aLaw10
import Derived.ProofKit
import Derived.OpenShut
import Derived.ChangeOld
import Derived.Below
namespace Go.Proofs.Qxb6612853a
open Go.ChangeShapes Go.WideShapes Go.ChangeAt Go.RowKit
set_option linter.unusedVariables false

theorem own : ownKnob Try.prog.godebug = none := by kernel_rfl
theorem laidOut : laidOutB Try.prog = true := by kernel_rfl
theorem cells22 : Try.prog.cellsOf 22 = 32 := by kernel_rfl
theorem cells5 : Try.prog.cellsOf 5 = 1 := by kernel_rfl

/-- AN ARRAY OF 32 BYTES BY VALUE, opened. -/
theorem open_id {H : Type} {enc : TypeId × Value → H} {W : World} {base bs : Nat} {sp : Nat → Bool} {hd : Bool} {v : Value} {d : DataW H} {p : List MemPlace}
    (hv : Value.okWide Try.prog W .any bs 22 v) (h : DataW.Trod enc Try.prog W base sp hd 22 v d p) : ∃ cs xs, v = .agg cs ∧ IsId cs xs := by
  obtain ⟨cs, rfl, hsz, _⟩ : ∃ cs, v = .agg cs ∧ cs.size = Try.prog.cellsOf 22 ∧ Row.okWide Try.prog W .any bs 22 cs := by
    simpa [Value.okWide, Try.underlying22] using hv
  rw [cells22] at hsz
  obtain ⟨fuel, hf⟩ := h
  obtain ⟨ys, m, rfl, hx, _, hyl, hel⟩ := DataW.trod_array Try.underlying22 hf
  rw [cells5] at hel
  have key : ∀ i, i < 32 → ∃ n : Int, cs[i]? = some (.int .u8 n) ∧ (0 ≤ n ∧ n < 256) := by
    intro i hi
    have e := hel i hi
    rw [List.getElem?_eq_getElem (by omega)] at e
    obtain ⟨n, hcs, _, hwf⟩ := DataW.trod_int Try.underlying5 e
    refine ⟨n, ?_, ?_⟩
    · simp only [Value.cells, Nat.mul_one] at hcs
      have : ((cs.toList.drop i).take 1)[0]? = some (Value.int .u8 n) := by rw [hcs]; rfl
      simpa using this
    · have := bounds_u8 hwf
      omega
  refine ⟨cs, cs.toList.map intOf, rfl, hsz, by simp [hsz], ?_, ?_⟩
  · intro i hi
    obtain ⟨n, e, _⟩ := key i hi
    rw [e, List.getD_eq_getElem?_getD, List.getElem?_map]
    simp [e, intOf]
  · intro i hi
    obtain ⟨n, e, hn⟩ := key i hi
    rw [List.getD_eq_getElem?_getD, List.getElem?_map]
    simp [e, intOf, hn]

set_option maxRecDepth 100000 in
theorem lifted10 (os : Os) (started : os.Started) (H : Type) (enc : TypeId × Value → H) :
    ReturnsInHanded {} Try.checked os 10 .any (Rows.fnMarshalTextSortsAsIDSpec.pre6 enc Try.prog Try.f10 Rows.fnMarshalTextSortsAsIDRow.domain false) (Rows.fnMarshalTextSortsAsIDSpec.post enc Try.prog Try.f10 false true false false) := by
  refine returnsInHanded_of_change (C := Try.checked) own started (by kernel_rfl) Try.func10
    (ChangeSpec.witness6 (enc := enc) (C := Try.checked) false ⟨#[], #[.agg (Array.replicate 32 (.int .u8 0)), .agg (Array.replicate 32 (.int .u8 0))], []⟩ 8 (by kernel_rfl) (by kernel_rfl) (by kernel_rfl) (by kernel_rfl)) ?_
  intro W base args ds gs before hval0 hW hcnd _
  have hval : ∀ (j : Nat) t v, Try.f10.params[j]? = some t → args[j]? = some v → Value.okWide Try.prog W .any base t v := hval0
  have hW' := hW
  obtain ⟨p, q, hA0, hV, rfl, hfz, hnd⟩ := hW
  have hA : DataW.TrodAll enc Try.prog W 0 (fun _ => true) true Try.f10.params.toList args.toList ds p := hA0
  rw [Try.params10] at hA hval
  obtain ⟨v0, vs0, d0, ds0, p0, q0, hargs, rfl, rfl, h0, r0⟩ := trodAll_cons hA
  obtain ⟨v1, vs1, d1, ds1, p1, q1, rfl, rfl, rfl, h1, r1⟩ := trodAll_cons r0
  obtain ⟨rfl, rfl, rfl⟩ := trodAll_nil r1
  obtain rfl : args = #[v0, v1] := by cases args; simp_all
  obtain ⟨rfl, rfl⟩ := trodVars_none hV
  have k0 := h0
  have k1 := h1
  have lt0 : ∀ x ∈ p0, x.block < W.heap.size := by obtain ⟨m, hm⟩ := k0; exact DataW.trod_lt m _ _ _ hm
  have lt1 : ∀ x ∈ p1, x.block < W.heap.size := by obtain ⟨m, hm⟩ := k1; exact DataW.trod_lt m _ _ _ hm
  obtain ⟨ca, a, rfl, hida⟩ := open_id (hval 0 22 v0 rfl rfl) h0
  obtain ⟨cb, b, rfl, hidb⟩ := open_id (hval 1 22 v1 rfl rfl) h1
  clear hA0 hval0
  refine (law10 ca cb a b W hida hidb).mono fun e W' ⟨he, bel⟩ => ?_
  subst he
  exact ⟨_, rfl, _, _, _, [], _, [], hW', trodAll_mk1 (shut_bool Try.underlying4 _), (trodAll_cons_mk (Below.trod laidOut (by kernel_rfl) (of_decide_eq_true (by kernel_rfl)) k0 bel lt0) (trodAll_cons_mk (Below.trod laidOut (by kernel_rfl) (of_decide_eq_true (by kernel_rfl)) k1 bel lt1) trodAll_mk0)), rfl, bel.frame _, fun h => by cases h⟩

theorem fnMarshalTextSortsAsID_holds : Rows.FnMarshalTextSortsAsIDSaid :=
  OpenClaim.holds_of_wide 10 Try.f10 rfl rfl rfl rfl rfl rfl rfl ⟨rfl, rfl, rfl, rfl, rfl⟩ rfl rfl rfl rfl rfl (by kernel_rfl) Try.func10 (by kernel_rfl)
    (of_decide_eq_true (by kernel_rfl)) (by unfold Func.isWrapper; first | (rw [if_pos (by decide +kernel)]; kernel_rfl) | (rw [if_neg (by decide +kernel)]; exact ⟨rfl, rfl⟩))
    (fun os started H enc _ => lifted10 os started H enc)

end Go.Proofs.Qxb6612853a
