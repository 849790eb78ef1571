/-
  The closed facts for a walk over fmt.errorf, the stopped function, at this program; what a slice of bytes reads as (after the guide's TagSlice.lean).
-/
import Derived.Test.Qxb6613114aFmtRows
import Derived.WalkKit
import Derived.WalkSpells
import Derived.WalkLawsBesides
import Derived.Stop.CallBack
import Derived.Stop.IfaceNil
import Derived.Laws.Cells
import Derived.Stop.FmtTextSlices
import GoSem.ClaimData
namespace Go.Proofs.Qxb6613114aFmt
open Go.RowKit Go.Extern.Stop Go.Stop Go.Extern

@[go_sem] theorem call18 (args : Array Value) (w : World) : (callFunc 18 args).run Tryf.prog w = ((FmtStop.errorf #[9, 47] #[28] args).run Tryf.prog w).andThen fun v w' => .ok (.value v) w' :=
  run_callFunc_extern Tryf.func18 (by kernel_rfl) (by kernel_rfl) (by kernel_rfl) (by kernel_rfl) args w
@[go_sem] theorem guardF (name : String) (w : World) : (FmtStop.guard name).run Tryf.prog w = .ok () w := by kernel_rfl

/-- The format: a quoted text, and the words behind it. -/
def fmtB : ByteArray := ⟨#[37, 113, 32, 105, 115, 32, 110, 111, 116, 32, 97, 110, 32, 117, 110, 115, 105, 103, 110, 101, 100, 32, 105, 110, 116, 101, 103, 101, 114, 32, 111, 102, 32, 54, 52, 32, 98, 105, 116, 115]⟩
@[go_sem] theorem fmt0 : FmtStop.printed? ⟨#[37, 113, 32, 105, 115, 32, 110, 111, 116, 32, 97, 110, 32, 117, 110, 115, 105, 103, 110, 101, 100, 32, 105, 110, 116, 101, 103, 101, 114, 32, 111, 102, 32, 54, 52, 32, 98, 105, 116, 115]⟩ 1 = some [(0, 113, false)] := by kernel_rfl
@[go_sem] theorem fmt0r (w : World) : (FmtDoors.printed ⟨#[37, 113, 32, 105, 115, 32, 110, 111, 116, 32, 97, 110, 32, 117, 110, 115, 105, 103, 110, 101, 100, 32, 105, 110, 116, 101, 103, 101, 114, 32, 111, 102, 32, 54, 52, 32, 98, 105, 116, 115]⟩ 1).run Tryf.prog w = .ok [(0, 113, false)] w := by kernel_rfl

theorem value5 (name : String) (x : Int) (w : World) : (FmtStop.value name FmtStop.depth 5 [.int .u8 x]).run Tryf.prog w = .ok (digits 8 (x % 2 ^ 64).toNat) w := by kernel_rfl
theorem values5 (name : String) (w : World) : ∀ xs : List Int, (List.mapM ((fun c => FmtStop.value name FmtStop.depth 5 [c]) ∘ Value.int IntKind.u8) xs).run Tryf.prog w = .ok (xs.map fun x => digits 8 (x % 18446744073709551616).toNat) w
  | [] => by simp [List.mapM_nil]
  | x :: xs => by
    have ih := values5 name w xs
    have h := value5 name x w
    simp [List.mapM_cons, h, ih, Result.andThen]

theorem opBytes (a : Addr) (cap : Nat) (xs : List Int) (w : World) (hc : ∀ j v, (xs.map (Value.int .u8))[j]? = some v → w.cell? (a.add j) = some v) :
    ∃ rd, ∀ name, (FmtStop.operand name true 113 false (.iface 22 (.slice (some a) xs.length cap))).run Tryf.prog w = .ok rd w := by
  obtain ⟨str, h1⟩ : ∃ str, (typeStr 22).run Tryf.prog w = .ok str w := ⟨Tryf.t22.str, by kernel_rfl⟩
  refine ⟨(13 :: (FmtStop.pack str.toUTF8.data.toList ++ 6 :: FmtStop.pack "uint8".toUTF8.data.toList), 1 :: (digits 8 xs.length ++ FmtText.intValues xs)), fun name => ?_⟩
  have d2 : Tryf.t22.desc = .slice 5 := rfl
  have hb : (FmtStop.bare (FmtStop.asked true 113 false) 22).run Tryf.prog w = .ok true w := by kernel_rfl
  have hs : (FmtStop.scalar 5).run Tryf.prog w = .ok true w := by kernel_rfl
  have hy : (Extern.Stop.isByte 5).run Tryf.prog w = .ok true w := by kernel_rfl
  have hw : Tryf.prog.funcs.any (·.name == FmtStop.writeWord) = true := by kernel_rfl
  have hsh : (FmtStop.shape name (FmtStop.asked true 113 false) FmtStop.depth 5).run Tryf.prog w = .ok (6 :: FmtStop.pack "uint8".toUTF8.data.toList) w := by kernel_rfl
  have hl := run_loadCells_list (P := Tryf.prog) w a (xs.map (Value.int .u8)) hc
  rw [List.length_map] at hl
  simp [FmtStop.operand, h1, hb, hs, hy, hsh, hl, values5, FmtText.intValues]
  intro hno
  obtain ⟨i, hi, _, _, he⟩ := Array.any_iff_exists.1 hw
  exact absurd (by simpa using he) (hno i hi)
theorem opNil (w : World) : ∃ rd, ∀ name, (FmtStop.operand name true 113 false (.iface 22 (.slice none 0 0))).run Tryf.prog w = .ok rd w := by
  obtain ⟨str, h1⟩ : ∃ str, (typeStr 22).run Tryf.prog w = .ok str w := ⟨Tryf.t22.str, by kernel_rfl⟩
  refine ⟨(13 :: (FmtStop.pack str.toUTF8.data.toList ++ 6 :: FmtStop.pack "uint8".toUTF8.data.toList), [0]), fun name => ?_⟩
  have d2 : Tryf.t22.desc = .slice 5 := rfl
  have hb : (FmtStop.bare (FmtStop.asked true 113 false) 22).run Tryf.prog w = .ok true w := by kernel_rfl
  have hs : (FmtStop.scalar 5).run Tryf.prog w = .ok true w := by kernel_rfl
  have hy : (Extern.Stop.isByte 5).run Tryf.prog w = .ok true w := by kernel_rfl
  have hw : Tryf.prog.funcs.any (·.name == FmtStop.writeWord) = true := by kernel_rfl
  have hsh : (FmtStop.shape name (FmtStop.asked true 113 false) FmtStop.depth 5).run Tryf.prog w = .ok (6 :: FmtStop.pack "uint8".toUTF8.data.toList) w := by kernel_rfl
  simp [FmtStop.operand, h1, hb, hs, hy, hsh]
  intro hno
  obtain ⟨i, hi, _, _, he⟩ := Array.any_iff_exists.1 hw
  exact absurd (by simpa using he) (hno i hi)
@[go_sem] theorem ptrToErr (w : World) : (FmtStop.ptrTo "errors.errorString").run Tryf.prog w = .ok 61 w := by kernel_rfl

@[go_sem] theorem elemErr (w : World) : (elemOf 61).run Tryf.prog w = .ok 63 w := by kernel_rfl

set_option maxHeartbeats 400000 in
theorem errorf_any (F : Interp) (blk : Nat) (v : Value) (rd : List UInt8 × List UInt8) (w : World) (hF : F.answers w.tape)
    (hc0 : w.cell? ⟨blk, 0, none⟩ = some (.iface 22 v))
    (hop : ∀ name, (FmtStop.operand name true 113 false (.iface 22 v)).run Tryf.prog w = .ok rd w) :
    Calls Tryf.prog 13 #[.string ⟨#[37, 113, 32, 105, 115, 32, 110, 111, 116, 32, 97, 110, 32, 117, 110, 115, 105, 103, 110, 101, 100, 32, 105, 110, 116, 101, 103, 101, 114, 32, 111, 102, 32, 54, 52, 32, 98, 105, 116, 115]⟩, .slice (some ⟨blk, 0, none⟩) 1 1] w fun e w' =>
      ∃ T x, e = .returned (.iface T x) ∧ Below w.heap.size w w' := by
  have hF' := answers_open hF
  go_enter Tryf.func13, Tryf.ntmps13
  go_wp2
  go_ret
  exact ⟨_, _, rfl, (Below.alloc (Below.drew (Below.refl _ _)) (Nat.le_refl _) _)⟩
end Go.Proofs.Qxb6613114aFmt
