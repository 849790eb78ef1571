/-
  strconv.ParseUint at base 10, 64 bits: the shelf's structure laid at this program (plain words, by the shelf's own tools), and the two contracts that the walk uses.
-/
import Derived.Shelf.Pu.ErrVarParseUint
import Derived.Test.Qxb6613114aFmtWalkC
namespace Go.Proofs.Qxb6613114aFmt
open Go.Shelf Go.RowKit
def Tryf.laysPu14_ren : Go.Shelf.Ren := ⟨fun | 14 => 12 | 16 => 16 | 17 => 17 | 19 => 24 | 20 => 25 | 21 => 26 | 22 => 27 | 23 => 28 | 24 => 29 | 25 => 35 | 27 => 36 | 26 => 19 | 28 => 39 | 29 => 40 | 30 => 20 | 31 => 21 | 32 => 22 | 33 => 23 | 35 => 31 | 34 => 30 | 36 => 32 | 37 => 33 | 38 => 34 | 39 => 37 | 40 => 38 | n => n, fun | 9 => 9 | 3 => 3 | 22 => 31 | 24 => 28 | 25 => 40 | 4 => 4 | 34 => 56 | 5 => 5 | 36 => 45 | 37 => 22 | 0 => 0 | 39 => 58 | 21 => 21 | 44 => 73 | 47 => 75 | 50 => 63 | 48 => 61 | 2 => 2 | 52 => 51 | 55 => 54 | 59 => 66 | 60 => 67 | 20 => 20 | 61 => 68 | 65 => 76 | 66 => 77 | 67 => 80 | n => n, fun | 0 => 1 | 1 => 2 | 2 => 0 | 3 => 3 | 4 => 4 | n => n⟩
theorem Tryf.laysPu14 : Go.Proofs.LaysPu.n14 Tryf.prog Tryf.laysPu14_ren := {
  mixed := by kernel_rfl
  f14 := Tryf.func12.trans (congrArg some (by kernel_rfl))
  f16 := Tryf.func16.trans (congrArg some (by kernel_rfl))
  f17 := Tryf.func17.trans (congrArg some (by kernel_rfl))
  f19 := Tryf.func24.trans (congrArg some (by kernel_rfl))
  f20 := Tryf.func25.trans (congrArg some (by kernel_rfl))
  f21 := Tryf.func26.trans (congrArg some (by kernel_rfl))
  f22 := Tryf.func27.trans (congrArg some (by kernel_rfl))
  f23 := Tryf.func28.trans (congrArg some (by kernel_rfl))
  f24 := Tryf.func29.trans (congrArg some (by kernel_rfl))
  f25 := Tryf.func35.trans (congrArg some (by kernel_rfl))
  f26 := Tryf.func19.trans (congrArg some (by kernel_rfl))
  f27 := Tryf.func36.trans (congrArg some (by kernel_rfl))
  f28 := Tryf.func39.trans (congrArg some (by kernel_rfl))
  f29 := Tryf.func40.trans (congrArg some (by kernel_rfl))
  f30 := Tryf.func20.trans (congrArg some (by kernel_rfl))
  f31 := Tryf.func21.trans (congrArg some (by kernel_rfl))
  f32 := Tryf.func22.trans (congrArg some (by kernel_rfl))
  f33 := Tryf.func23.trans (congrArg some (by kernel_rfl))
  f34 := Tryf.func30.trans (congrArg some (by kernel_rfl))
  f35 := Tryf.func31.trans (congrArg some (by kernel_rfl))
  f36 := Tryf.func32.trans (congrArg some (by kernel_rfl))
  f37 := Tryf.func33.trans (congrArg some (by kernel_rfl))
  f38 := Tryf.func34.trans (congrArg some (by kernel_rfl))
  f39 := Tryf.func37.trans (congrArg some (by kernel_rfl))
  f40 := Tryf.func38.trans (congrArg some (by kernel_rfl))
  t0 := Tryf.underlying0
  a0 := Tryf.isAgg0
  z0 := Tryf.sizeOf0
  v0 := Tryf.zeroValue0
  i0 := by kernel_rfl
  t2 := Tryf.underlying2
  a2 := Tryf.isAgg2
  z2 := Tryf.sizeOf2
  v2 := Tryf.zeroValue2
  i2 := by kernel_rfl
  t3 := Tryf.underlying3
  a3 := Tryf.isAgg3
  z3 := Tryf.sizeOf3
  v3 := Tryf.zeroValue3
  i3 := by kernel_rfl
  t4 := Tryf.underlying4
  a4 := Tryf.isAgg4
  z4 := Tryf.sizeOf4
  v4 := Tryf.zeroValue4
  i4 := by kernel_rfl
  t5 := Tryf.underlying5
  a5 := Tryf.isAgg5
  z5 := Tryf.sizeOf5
  v5 := Tryf.zeroValue5
  i5 := by kernel_rfl
  t9 := Tryf.underlying9
  a9 := Tryf.isAgg9
  z9 := Tryf.sizeOf9
  v9 := Tryf.zeroValue9
  i9 := by kernel_rfl
  t20 := Tryf.underlying20
  a20 := Tryf.isAgg20
  z20 := Tryf.sizeOf20
  v20 := Tryf.zeroValue20
  i20 := by kernel_rfl
  t21 := Tryf.underlying21
  a21 := Tryf.isAgg21
  z21 := Tryf.sizeOf21
  v21 := Tryf.zeroValue21
  i21 := by kernel_rfl
  t22 := Tryf.underlying31
  a22 := Tryf.isAgg31
  z22 := Tryf.sizeOf31
  v22 := Tryf.zeroValue31
  i22 := by kernel_rfl
  t24 := Tryf.underlying28
  a24 := Tryf.isAgg28
  z24 := Tryf.sizeOf28
  v24 := Tryf.zeroValue28
  i24 := by kernel_rfl
  t25 := Tryf.underlying40
  a25 := Tryf.isAgg40
  z25 := Tryf.sizeOf40
  v25 := Tryf.zeroValue40
  i25 := by kernel_rfl
  t34 := Tryf.underlying56
  a34 := Tryf.isAgg56
  z34 := Tryf.sizeOf56
  v34 := Tryf.zeroValue56
  i34 := by kernel_rfl
  c34 := by kernel_rfl
  t36 := Tryf.underlying45
  a36 := Tryf.isAgg45
  z36 := Tryf.sizeOf45
  v36 := Tryf.zeroValue45
  i36 := by kernel_rfl
  t37 := Tryf.underlying22
  a37 := Tryf.isAgg22
  z37 := Tryf.sizeOf22
  v37 := Tryf.zeroValue22
  i37 := by kernel_rfl
  t39 := Tryf.underlying58
  a39 := Tryf.isAgg58
  z39 := Tryf.sizeOf58
  v39 := Tryf.zeroValue58
  i39 := by kernel_rfl
  t44 := Tryf.underlying73
  a44 := Tryf.isAgg73
  z44 := Tryf.sizeOf73
  v44 := Tryf.zeroValue73
  i44 := by kernel_rfl
  t47 := Tryf.underlying75
  a47 := Tryf.isAgg75
  z47 := Tryf.sizeOf75
  v47 := Tryf.zeroValue75
  i47 := by kernel_rfl
  t48 := Tryf.underlying61
  a48 := Tryf.isAgg61
  z48 := Tryf.sizeOf61
  v48 := Tryf.zeroValue61
  i48 := by kernel_rfl
  t50 := Tryf.underlying63
  a50 := Tryf.isAgg63
  z50 := Tryf.sizeOf63
  v50 := Tryf.zeroValue63
  i50 := by kernel_rfl
  t52 := Tryf.underlying51
  a52 := Tryf.isAgg51
  z52 := Tryf.sizeOf51
  v52 := Tryf.zeroValue51
  i52 := by kernel_rfl
  t55 := Tryf.underlying54
  a55 := Tryf.isAgg54
  z55 := Tryf.sizeOf54
  v55 := Tryf.zeroValue54
  i55 := by kernel_rfl
  t59 := Tryf.underlying66
  a59 := Tryf.isAgg66
  z59 := Tryf.sizeOf66
  v59 := Tryf.zeroValue66
  i59 := by kernel_rfl
  t60 := Tryf.underlying67
  a60 := Tryf.isAgg67
  z60 := Tryf.sizeOf67
  v60 := Tryf.zeroValue67
  i60 := by kernel_rfl
  t61 := Tryf.underlying68
  a61 := Tryf.isAgg68
  z61 := Tryf.sizeOf68
  t65 := Tryf.underlying76
  a65 := Tryf.isAgg76
  z65 := Tryf.sizeOf76
  v65 := Tryf.zeroValue76
  i65 := by kernel_rfl
  t66 := Tryf.underlying77
  a66 := Tryf.isAgg77
  z66 := Tryf.sizeOf77
  v66 := Tryf.zeroValue77
  i66 := by kernel_rfl
  t67 := Tryf.underlying80
  a67 := Tryf.isAgg80
  z67 := Tryf.sizeOf80
  v67 := Tryf.zeroValue80
  i67 := by kernel_rfl
  g0 := by kernel_rfl
  m0 := by kernel_rfl
  g1 := by kernel_rfl
  m1 := by kernel_rfl
  g2 := by kernel_rfl
  m2 := by kernel_rfl
  g3 := by kernel_rfl
  m3 := by kernel_rfl
  g4 := by kernel_rfl
  m4 := by kernel_rfl }

/-- What the law's road reads of the world besides its arguments: one cell of a table, two variables of package strconv. -/
structure Env (w : World) : Prop where
  size : 4 < w.heap.size
  tab : w.cell? ⟨4, 15, none⟩ = some (.int .u8 4)
  errS : ∃ tp p, w.var? Tryf.prog "strconv.ErrSyntax" = some #[.iface tp p]
  errR : ∃ tp p, w.var? Tryf.prog "strconv.ErrRange" = some #[.iface tp p]

theorem below_bytesWorld (w : World) (e : TypeId) (s : ByteArray) : Below w.heap.size w (Lib.bytesWorld w e s) :=
  ⟨rfl, rfl, rfl, by rw [Lib.bytesWorld_size]; omega, fun k hk => Lib.bytesWorld_at_old w e s k hk⟩

theorem parse_ok (xs : List Int) (u : Nat) (w : World) (hb : ∀ x ∈ xs, 0 ≤ x ∧ x < 256) (hl : xs.length ≤ 281474976710656) (h : decOpt xs = some u) :
    Calls Tryf.prog 12 #[.string (strOfNums xs), .int .i64 10, .int .i64 64] w fun e w' => e = .returned (.tuple #[.int .u64 u, .nilIface]) ∧ Below w.heap.size w w' := by
  have hsz : (strOfNums xs).size = xs.length := strOfNums_size xs
  obtain ⟨p1, p2⟩ := parse_decOpt xs hb
  rcases hend : Lib.parseUintB 64 (Lib.bytesOf xs) with u' | _ | _
  · have e1 := p1 u' hend
    rw [h] at e1
    cases e1
    refine (Any.strconv_ParseUint_10_at64_ok Tryf.laysPu14 (strOfNums xs) (by omega) u hend w).mono ?_
    rintro e w' ⟨rfl, rfl | rfl⟩
    · exact ⟨rfl, Below.refl _ _⟩
    · exact ⟨rfl, below_bytesWorld _ _ _⟩
  · rw [p2 (fun u' hh => by rw [hend] at hh; cases hh)] at h; cases h
  · rw [p2 (fun u' hh => by rw [hend] at hh; cases hh)] at h; cases h

theorem parse_fail (xs : List Int) (w : World) (E : Env w) (hb : ∀ x ∈ xs, 0 ≤ x ∧ x < 256) (hl : xs.length ≤ 281474976710656) (h : decOpt xs = none) :
    Calls Tryf.prog 12 #[.string (strOfNums xs), .int .i64 10, .int .i64 64] w fun e w' => (∃ n T x, e = .returned (.tuple #[.int .u64 n, .iface T x])) ∧ Below w.heap.size w w' := by
  have hsz : (strOfNums xs).size = xs.length := strOfNums_size xs
  obtain ⟨p1, p2⟩ := parse_decOpt xs hb
  rcases hend : Lib.parseUintB 64 (Lib.bytesOf xs) with u' | _ | _
  · rw [p1 u' hend] at h; cases h
  · obtain ⟨tp, p, hv⟩ := E.errS
    refine (Any.strconv_ParseUint_10_at64_syntax_var Tryf.laysPu14 (strOfNums xs) (by omega) hend tp p w hv).mono ?_
    rintro e w' ⟨N, rfl, _, _, hbel⟩
    exact ⟨⟨_, _, _, rfl⟩, hbel⟩
  · obtain ⟨tp, p, hv⟩ := E.errR
    refine (Any.strconv_ParseUint_10_at64_range_var Tryf.laysPu14 (strOfNums xs) (by omega) hend tp p w hv).mono ?_
    rintro e w' ⟨N, rfl, _, _, hbel⟩
    exact ⟨⟨_, _, _, rfl⟩, hbel⟩
end Go.Proofs.Qxb6613114aFmt
