/-
  The makers: zzCloneInts, zzStampsOf.
-/
import Derived.Test.Qxb6613363aBase
import Derived.Deep.RegionHeld3
import Derived.Deep.AppendLies
import Derived.OwnWalk
namespace Go.Proofs.Qxb6613363a
open Go.RowKit Go.Deep

theorem info3 : (Try.prog.info? 3).map (fun i => (i.zero, i.size, i.bytes)) = some (some (.int .i64 0), 1, 8) := by kernel_rfl
theorem info42 : (Try.prog.info? 42).map (fun i => (i.zero, i.size, i.bytes)) = some (some (.agg #[.int .i64 0, .int .i64 0, .int .i64 0]), 3, 24) := by kernel_rfl

theorem eqlnil (a : Addr) (n c : Nat) (w : World) : (binOp .eql 23 (.slice (some a) n c) (.slice none 0 0)).run Try.prog w = .ok (.bool false) w := by kernel_rfl
theorem neqnil (a : Addr) (n c : Nat) (w : World) : (binOp .neq 23 (.slice (some a) n c) (.slice none 0 0)).run Try.prog w = .ok (.bool true) w := by kernel_rfl
theorem eqlnil' (w : World) : (binOp .eql 23 (.slice none 0 0) (.slice none 0 0)).run Try.prog w = .ok (.bool true) w := by kernel_rfl
theorem neqnil' (w : World) : (binOp .neq 23 (.slice none 0 0) (.slice none 0 0)).run Try.prog w = .ok (.bool false) w := by kernel_rfl

/-- What the clone holds when k numbers have been copied. -/
def clo (xs : List Int) (k : Nat) : Nat → Value := fun j => if j < k then .int .i64 (xs.getD j 0) else .int .i64 0

set_option maxHeartbeats 1000000 in
theorem clone_any (a : Option Addr) (n c : Nat) (xs : List Int) (w : World) (t : IS w a n c xs) (h0 : 0 < n) :
    Calls Try.prog 10 #[.slice a n c] w fun e w' => e = .returned (.slice (some ⟨w.heap.size, 0, none⟩) n n) ∧ w'.rowIs w.heap.size 3 n (fun j => .int .i64 (xs.getD j 0)) ∧ w'.heap.size = w.heap.size + 1 ∧ Below w.heap.size w w' := by
  obtain ⟨b, o, rfl, hb, hc⟩ : ∃ b o, a = some ⟨b, o, none⟩ ∧ b < w.heap.size ∧ ∀ i, i < n → w.cell? ⟨b, o + i, none⟩ = some (.int .i64 (xs.getD i 0)) := by
    rcases t.lies with e | e
    · omega
    · exact e
  have hcap := t.cap
  have hmax := t.max
  have HC : Hid (∀ i, i < n → w.cell? ⟨b, o + i, none⟩ = some (.int .i64 (xs.getD i 0))) := hc
  have hen := eqlnil
  have hmk := fun wx => run_make_row' (P := Try.prog) 23 3 (.int .i64 0) 8 Try.underlying23 info3 rfl .i64 .i64 n (by omega) (by omega) wx
  clear t hc
  go_enter Try.func10, Try.ntmps10
  go_wp2
  go_loopw [4] (fun i wr => ∃ k : Nat, k ≤ n ∧ i = .int .i64 k ∧ wr.rowIs w.heap.size 3 n (clo xs k) ∧ Hid (wr.heap.size = w.heap.size + 1) ∧ Below w.heap.size w wr) (fun i _ => n - (intOf i).toNat)
  case atStart => exact ⟨0, by omega, rfl, (World.rowIs_made w _ _ _).congr (fun i _ => by simp [clo]), by unfold Hid; simp, (Below.refl _ _).alloc (Nat.le_refl _) _⟩
  case round =>
    obtain ⟨k, hk, rfl, hrow, hsz, hbel⟩ := hrel
    by_cases hlt : k < n
    · have hcx : wr.cell? ⟨b, o + k, none⟩ = some (.int .i64 (xs.getD k 0)) := (hbel.cell (p := ⟨b, o + k, none⟩) hb).trans (HC.out k hlt)
      have hcm := hrow.cell (i := k) hlt
      have hfm := hrow.frozen k
      have R1 : (wr.setCell ⟨w.heap.size, k, none⟩ (.int .i64 (xs.getD k 0))).rowIs w.heap.size 3 n (clo xs (k + 1)) := (hrow.set k (.int .i64 (xs.getD k 0))).congr (fun i _ => by
        unfold clo
        by_cases e : i = k
        · subst e; rw [if_pos rfl, if_pos (by omega)]
        · rw [if_neg e]
          by_cases e2 : i < k
          · rw [if_pos e2, if_pos (by omega)]
          · rw [if_neg e2, if_neg (by omega)])
      have R2 : Hid ((wr.setCell ⟨w.heap.size, k, none⟩ (.int .i64 (xs.getD k 0))).heap.size = w.heap.size + 1) := by have := hsz.out; unfold Hid; simpa [World.setCell] using this
      have R3 : Below w.heap.size w (wr.setCell ⟨w.heap.size, k, none⟩ (.int .i64 (xs.getD k 0))) := hbel.setCell (Nat.le_refl _) _
      clear hrow hsz
      generalize xs.getD k 0 = x at *
      generalize clo xs k k = y at *
      go_wp2
      go_roundw
      case rel => exact ⟨k + 1, by omega, by go_num, R1, R2, R3⟩
      case measure => simp [intOf]; omega
    · have hkn : k = n := by omega
      subst hkn
      have R1 := hrow.congr (g := fun j => .int .i64 (xs.getD j 0)) (fun i hi => by unfold clo; rw [if_pos hi])
      clear hrow
      go_wp2
      go_ret
      exact ⟨rfl, R1, hsz.out, hbel⟩
end Go.Proofs.Qxb6613363a
