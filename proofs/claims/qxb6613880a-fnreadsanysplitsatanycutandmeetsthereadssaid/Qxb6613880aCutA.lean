/-
  A slice of cells, cut at k.
-/
import Derived.Test.Qxb6613880aBase
namespace Go.Proofs.Qxb6613880a
open Go.RowKit

theorem elem22 : Try.prog.elem 22 = 33 := by kernel_rfl
theorem ut22 : Try.prog.underlying 22 = some (.slice (Try.prog.elem 22)) := by rw [elem22]; exact Try.underlying22
theorem size33 (w : World) : (sizeOf 33).run Try.prog w = .ok 3 w := by kernel_rfl
theorem addPlain (b o i : Nat) : (⟨b, o, none⟩ : Addr).add i = ⟨b, o + i, none⟩ := by unfold Addr.add; split <;> simp_all

/-- cells[:k] -/
theorem front_ex {w : World} {a : Option Addr} {n c k : Nat} {ys : List C3} (t : CS w a n c ys) (hk : k ≤ n) :
    ∃ a3 c3, CS w a3 k c3 (ys.take k) ∧ ∀ wx, (Instr.sliceAt 22 (.slice a n c) none (some (.int .i64 k)) none).run Try.prog wx = .ok (.slice a3 k c3) wx := by
  have hl := t.len
  have hc := t.cap
  have hm := t.max
  refine ⟨if c = 0 then a else a.map (·.add (0 * 3)), c - 0, ?_, fun wx => ?_⟩
  · refine ⟨by rw [List.length_take]; omega, by omega, by omega, fun h => ?_, ?_, fun x hx => t.ok x (List.mem_of_mem_take hx)⟩
    · by_cases e : c = 0
      · omega
      · rw [if_neg e] at h
        have := t.nil (by simpa using h)
        omega
    · rcases t.lies with e | ⟨b, o, e, hb, hcell⟩
      · exact .inl (by omega)
      · by_cases e0 : k = 0
        · exact .inl e0
        · refine .inr ⟨b, o, ?_, hb, fun i hi => ?_⟩
          · rw [if_neg (by omega), e]
            simp [addPlain]
          · have hi2 : i < ys.length := by rw [List.length_take] at hi; omega
            rw [List.getElem_take]
            exact hcell i hi2
  · rw [run_sliceAt_slice _ _ _ _ _ _ ut22, run_slice_h _ _ _ _ _ ut22 .i64 k (by omega) (by omega), elem22, size33]
    simp [Result.andThen, sliced]

/-- cells[k:] -/
theorem back_ex {w : World} {a : Option Addr} {n c k : Nat} {ys : List C3} (t : CS w a n c ys) (hk : k ≤ n) :
    ∃ a3 c3, CS w a3 (n - k) c3 (ys.drop k) ∧ ∀ wx, (Instr.sliceAt 22 (.slice a n c) (some (.int .i64 k)) none none).run Try.prog wx = .ok (.slice a3 (n - k) c3) wx := by
  have hl := t.len
  have hc := t.cap
  have hm := t.max
  refine ⟨if c = k then a else a.map (·.add (k * 3)), c - k, ?_, fun wx => ?_⟩
  · refine ⟨by rw [List.length_drop]; omega, by omega, by omega, fun h => ?_, ?_, fun x hx => t.ok x (List.mem_of_mem_drop hx)⟩
    · by_cases e : c = k
      · omega
      · rw [if_neg e] at h
        have := t.nil (by simpa using h)
        omega
    · rcases t.lies with e | ⟨b, o, e, hb, hcell⟩
      · exact .inl (by omega)
      · by_cases e0 : n - k = 0
        · exact .inl e0
        · refine .inr ⟨b, o + k * 3, ?_, hb, fun i hi => ?_⟩
          · rw [if_neg (by omega), e]
            simp [addPlain]
          · have hi2 : k + i < ys.length := by rw [List.length_drop] at hi; omega
            rw [List.getElem_drop]
            have := hcell (k + i) hi2
            rw [show o + k * 3 + i * 3 = o + (k + i) * 3 by omega]
            exact this
  · rw [run_sliceAt_slice _ _ _ _ _ _ ut22, run_slice_l _ _ _ _ _ ut22 .i64 k (by omega) (by omega), elem22, size33]
    simp [Result.andThen, sliced]

/-- A slice operation whose run is known. -/
theorem wpList_slice_known {P : Program} (w : World) {ops : Array Oper} {rest : List Oper} {o : Oper} {a : Act} {Q : Exit → Act → World → Prop}
    (hg : o.guard = none) (t : TypeId) (m : Operand) (lo hi : Option Operand) (hop : o.op = Op.slice t m lo hi none) (v : Value)
    (hrun : ∀ wx, (Instr.sliceAt t (a.eval m) (lo.map a.eval) (hi.map a.eval) none).run P wx = .ok v wx) (hK : wpList P ops Q rest (a.put o.dst v) w) :
    wpList P ops Q (o :: rest) a w := by
  refine wpList_plain hg fun K' hK' => ?_
  unfold Oper.wp
  simp [execOp, hop, hrun, Result.andThen]
  exact hK' _ _ hK
end Go.Proofs.Qxb6613880a
