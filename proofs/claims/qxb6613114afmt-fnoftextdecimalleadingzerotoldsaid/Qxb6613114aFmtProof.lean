/-
  The told and tied card of FnOfTextDecimalLeadingZero, proved.
-/
import Derived.Test.Qxb6613114aFmtTie
import Derived.Test.Qxb6613114aFmtCards
import Derived.Test.Qxb6613114aFmtLawB
import Derived.ProofKit
import Derived.OpenShut
import Derived.LaidMore
import Derived.SevenTiedAt
import Derived.Stop.Joined
import Derived.Stop.JoinedAt
import Derived.Stop.JoinedTold
import Derived.Stop.LaidErr
import Derived.Lib.LaidTab
import Derived.SizedLaws
import Derived.Deep.DeepWitnessRef
namespace Go.Proofs.Qxb6613114aFmt
open Go.ChangeShapes Go.WideShapes Go.ChangeAt Go.RowKit
open Go.Extern.Stop Go.Stop Go.Extern
set_option linter.unusedVariables false

theorem own : ownKnob Tryf.prog.godebug = none := by kernel_rfl
theorem laidOut : laidOutB Tryf.prog = true := by kernel_rfl
theorem row61 {nm : String} (hn : nm = ("*" ++ "errors.errorString")) (u : TypeId) (h : Tryf.prog.typeName? 3 u = some nm) : u = 61 :=
  typeName_ptr_named (nm := "errors.errorString") (by kernel_rfl) (by kernel_rfl) (by decide) u (by rw [← hn]; exact h)

def tab64 : List Int := [0, 1, 56, 2, 57, 49, 28, 3, 61, 58, 42, 50, 38, 29, 17, 4, 62, 47, 59, 36, 45, 43, 51, 22, 53, 39, 33, 30, 24, 18, 12, 5, 63, 55, 48, 27, 60, 41, 37, 16, 46, 35, 44, 21, 52, 32, 23, 11, 54, 26, 40, 15, 34, 20, 31, 10, 25, 14, 19, 9, 13, 8, 7, 6]
theorem tab64_eq : (Rows.laid_math_bits_deBruijn64tab : DataW Unit) = Lib.tabData .u8 tab64 := by kernel_rfl

/-- What the listed variables give the walk. -/
theorem env_of_laid {W : World} (h : laidMetH Tryf.prog Rows.fnOfTextDecimalLeadingZeroRow.laid W) : Env W := by
  rw [MakeChecks.laidMetH_plain _ _ _ (by kernel_rfl)] at h
  have hL : laidMet Tryf.prog ((_, _) :: (_, Rows.laid_math_bits_deBruijn64tab) :: (_, _) :: (_, Rows.laid_strconv_ErrRange) :: (_, Rows.laid_strconv_ErrSyntax) :: []) W := h
  have hT := hL.tail
  rw [tab64_eq] at hT
  have tab := Lib.tabIs_of_head (g := 4) (t := 77) (e := 5) (n := 64) (by kernel_rfl) (by kernel_rfl) Tryf.underlying77 Tryf.underlying5 (by kernel_rfl) (by kernel_rfl) hT
  have hc := tab.cell (g := 4) (by kernel_rfl) 15 (by decide)
  obtain ⟨a1, t1, hv1, _, _, _⟩ := laid_sentinel (g := 2) (ti := 28) (tp := 61) (te := 63) (ts := 9) hL.tail.tail.tail (by kernel_rfl) (by kernel_rfl) Tryf.underlying28 (row61 (by decide)) Tryf.underlying61 Tryf.underlying63 rfl rfl Tryf.underlying9 (by kernel_rfl) (by kernel_rfl)
  obtain ⟨a0, t0, hv0, _, _, _⟩ := laid_sentinel (g := 1) (ti := 28) (tp := 61) (te := 63) (ts := 9) hL.tail.tail.tail.tail (by kernel_rfl) (by kernel_rfl) Tryf.underlying28 (row61 (by decide)) Tryf.underlying61 Tryf.underlying63 rfl rfl Tryf.underlying9 (by kernel_rfl) (by kernel_rfl)
  exact ⟨block_lt_of_cell hc, hc, ⟨_, _, hv0⟩, ⟨_, _, hv1⟩⟩

/-- The door's own heap meets the condition. -/
theorem door_met (os : Os) (args : Array Value) : laidMetH Tryf.prog Rows.fnOfTextDecimalLeadingZeroRow.laid ((World.doorLaid Tryf.prog 400 os).forCall (fun _ _ => 0) ⟨#[], args, []⟩).memory :=
  laidMetH_of_parts3 (fuel := 8) (laidMet_of_run' 8 (by kernel_rfl) (by kernel_rfl)) (by kernel_rfl) (by kernel_rfl)

theorem witness_row (os : Os) {H : Type} (enc : TypeId × Value → H) :
    (OpenSpec.ofChange Rows.fnOfTextDecimalLeadingZeroSpec).preRow enc Tryf.prog Tryf.f3 Rows.fnOfTextDecimalLeadingZeroRow.domain false Rows.fnOfTextDecimalLeadingZeroRow.laid ((World.doorLaid Tryf.prog 400 os).forCall (fun _ _ => 0) ⟨#[], #[.slice none 0 0], []⟩).memory #[.slice none 0 0] := by
  have hw : (DataW.whole enc Tryf.prog ((World.doorLaid Tryf.prog 400 os).forCall (fun _ _ => 0) ⟨#[], #[.slice none 0 0], []⟩).memory Tryf.f3.params.toList (OpenSpec.ofChange Rows.fnOfTextDecimalLeadingZeroSpec).vars false #[Value.slice none 0 0].toList 8).map (fun x => (x.1, x.2.1)) =
      some ([.nil], []) := by kernel_rfl
  obtain ⟨⟨x1, x2, x3⟩, hx, hx1⟩ := Option.map_eq_some_iff.1 hw
  simp only [Prod.mk.injEq] at hx1
  obtain ⟨rfl, rfl⟩ := hx1
  exact OpenSpec.preRow_of_cond 8 hx (by kernel_rfl) (fun k hk => by cases hk) (by kernel_rfl) (door_met os _)

set_option maxRecDepth 100000 in
set_option maxHeartbeats 1000000 in
theorem lifted (os : Os) (started : os.Started) (H : Type) (enc : TypeId × Value → H) :
    ReturnsInTold none {} Tryf.checked os 3 .any Input.okWide ((OpenSpec.ofChange Rows.fnOfTextDecimalLeadingZeroSpec).preRow enc Tryf.prog Tryf.f3 Rows.fnOfTextDecimalLeadingZeroRow.domain false Rows.fnOfTextDecimalLeadingZeroRow.laid)
      (fun F => ((OpenSpec.ofChange Rows.fnOfTextDecimalLeadingZeroSpec).at F).post enc Tryf.prog Tryf.f3 false true false false) (aloneAtReturn Tryf.prog) nothingAlways := by
  refine returnsInTold_of_row (C := Tryf.checked) (s := OpenSpec.ofChange Rows.fnOfTextDecimalLeadingZeroSpec) (by kernel_rfl) own started (by kernel_rfl) Tryf.func3
    (OpenSpec.witness_stopped_atRef (enc := enc) (C := Tryf.checked) false (World.doorLaid Tryf.prog 400 os) #[.slice none 0 0] rfl (by kernel_rfl) (by kernel_rfl) (by kernel_rfl) (witness_row os enc)) ?_
  intro F W base args ds gs before _ hF hval0 hW hcnd _ hsz0 hL _
  have hval : ∀ (j : Nat) t v, Tryf.f3.params[j]? = some t → args[j]? = some v → Value.okWide Tryf.prog W .any base t v := hval0
  have hsz : (DataW.weightsEach Tryf.prog (Tryf.f3.params.toList ++ (OpenSpec.ofChange Rows.fnOfTextDecimalLeadingZeroSpec).bare.plain.varTypes Tryf.prog) (ds ++ gs)).all (· ≤ reachBytes) = true := hsz0
  have hW' := hW
  obtain ⟨p, q, hA0, hV, rfl, hfz, hnd⟩ := hW
  have hA : DataW.TrodAll enc Tryf.prog W 0 (fun _ => true) true Tryf.f3.params.toList args.toList ds p := hA0
  rw [Tryf.params3] at hA hval hsz
  obtain ⟨v0, vs0, d0, ds0, p0, q0, hargs, rfl, rfl, h0, r0⟩ := trodAll_cons hA
  obtain ⟨rfl, rfl, rfl⟩ := trodAll_nil r0
  obtain rfl : args = #[v0] := by cases args; simp_all
  obtain ⟨rfl, rfl⟩ := trodVars_none hV
  obtain ⟨a0, len0, cap0, rfl⟩ := okWide_slice Tryf.underlying22 (hval 0 22 v0 rfl rfl)
  have k0 := h0
  have lt0 : ∀ x ∈ p0, x.block < W.heap.size := by obtain ⟨m, hm⟩ := k0; exact DataW.trod_lt m _ _ _ hm
  obtain ⟨xs, t⟩ : ∃ xs, Txt W a0 len0 cap0 xs := by
    obtain ⟨fuel, hf⟩ := h0
    rcases open_ints Tryf.underlying22 Tryf.underlying5 (by kernel_rfl) hf with ⟨hcs, _⟩ | ⟨x, l, c, zs, hcs, _, hl, hm, hz, hx, hcell, hwz⟩
    · simp [Value.cells] at hcs
      obtain ⟨rfl, rfl, rfl⟩ := hcs
      exact ⟨[], rfl, by omega, (fun x hx => by cases hx), .inl ⟨rfl, rfl, rfl⟩⟩
    · simp [Value.cells] at hcs
      obtain ⟨rfl, rfl, rfl⟩ := hcs
      simp only [Prod.mk.injEq] at hx
      obtain ⟨hd, _⟩ := hx
      have hlz : zs.length = cap0 := by simpa using hz
      have hlt : (zs.take len0).length = len0 := by rw [List.length_take]; omega
      have hw8 := sized_slice (P := Tryf.prog) (j := 0) (t := 22) (e := 5) hsz rfl (by rw [hd]; rfl) Tryf.underlying22
      have hb5 : Tryf.prog.bytesOf 5 = 1 := by kernel_rfl
      rw [hb5] at hw8
      have hmax : len0 ≤ 140737488355328 := by
        simp only [lits, List.length_map, List.length_take, List.length_drop, reachBytes] at hw8; omega
      refine ⟨zs.take len0, hlt, hmax, ?_, .inr ⟨x, rfl, ?_, ?_⟩⟩
      · intro n hn
        have := bounds_u8 (hwz n (List.mem_of_mem_take hn))
        omega
      · rcases Nat.eq_zero_or_pos len0 with e | e
        · exact .inl e
        · have hc0 := hcell 0 (by omega)
          have := World.cell?_spot hc0
          refine .inr ⟨by simpa [Addr.add] using this, ?_⟩
          have h1 := block_lt_of_cell hc0
          have hb : (x.add 0).block = x.block := by unfold Addr.add; split <;> rfl
          rw [hb] at h1; exact h1
      · intro j v hv
        have hj : j < len0 := by have := (List.getElem?_eq_some_iff.1 hv).1; simp at this; omega
        rw [List.getElem?_map, List.getElem?_take_of_lt hj, List.getElem?_eq_getElem (by omega)] at hv
        rw [hcell j (by omega), ← hv, List.getD_eq_getElem?_getD, List.getElem?_eq_getElem (by omega)]
        rfl
  clear hA0 hval0
  refine (law_any F.told a0 len0 cap0 xs W hF (env_of_laid hL) t).mono fun e W' ⟨he, bel⟩ => ?_
  subst he
  exact ⟨_, rfl, _, _, _, [], _, [], hW', trodAll_mk1 (shut_bool Tryf.underlying4 _), (trodAll_cons_mk (Below.trod laidOut (by kernel_rfl) (of_decide_eq_true (by kernel_rfl)) k0 bel lt0) trodAll_mk0), rfl, bel.frame _, fun h => by cases h⟩

theorem stopsAre : Tryf.pinned.checked.prog.stops = ["fmt.errorf"] := by kernel_rfl
theorem stopKnobsAre : Tryf.pinned.checked.prog.stopKnobs = [] := by kernel_rfl
theorem quietAll (os : Os) : Stop.quiet Tryf.pinned.checked.prog os := by
  intro k hk
  rw [stopKnobsAre] at hk
  cases hk

theorem fnOfTextDecimalLeadingZero_told : Rows.FnOfTextDecimalLeadingZeroToldSaid :=
  Claim7.holds_of_told_tied_any_at .later 3 Tryf.f3 "fmt.errorf" [] [] _ _ _ _ _ (by kernel_rfl) rfl rfl rfl laidOut (by kernel_rfl) rfl ⟨rfl, rfl, rfl, rfl, rfl, rfl, rfl⟩ rfl rfl (by kernel_rfl) (by kernel_rfl) Tryf.func3 (by kernel_rfl)
    (of_decide_eq_true (by kernel_rfl)) (by unfold Func.isWrapper; first | (rw [if_pos (by decide +kernel)]; kernel_rfl) | (rw [if_neg (by decide +kernel)]; exact ⟨rfl, rfl⟩)) stopsAre.symm rfl stopKnobsAre.symm (by kernel_rfl)
    (by kernel_rfl) (by kernel_rfl) (by kernel_rfl) (by kernel_rfl) (by kernel_rfl) (by kernel_rfl) (by kernel_rfl) (by kernel_rfl) (by kernel_rfl) rfl (by kernel_rfl) rfl rfl
    rfl rfl
    rfl (by kernel_rfl) (by kernel_rfl) (by kernel_rfl) (by decide) (by kernel_rfl) fnOfTextDecimalLeadingZero_row_tie
    (OpenClaim.moreEntering_of (by kernel_rfl) (by kernel_rfl) (by kernel_rfl) (by kernel_rfl) (by kernel_rfl) (by kernel_rfl) (by kernel_rfl) (by kernel_rfl) (by kernel_rfl) (by kernel_rfl))
    ⟨_, WideRow.started_initial, quietAll _⟩
    (fun os started _ H enc _ => lifted os started H enc)
end Go.Proofs.Qxb6613114aFmt
