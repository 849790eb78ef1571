/-
  The walk of (*Function).OfText at the law's own function.
-/
import Derived.Test.Qxb6613114aFmtParse
import Derived.Laws.IdiomStrings
namespace Go.Proofs.Qxb6613114aFmt
open Go.RowKit Go.Extern.Stop Go.Stop Go.Extern

set_option maxHeartbeats 400000 in
theorem newFn (s : ByteArray) (w : World) :
    Calls Tryf.prog 5 #[.string s] w fun e w' => e = .returned (.pointer (some ⟨w.heap.size, 0, none⟩)) ∧ w' = w.alloc (.cells #[.string s, .func (.func 10) #[] #[], .nilFunc] 39) := by
  go_enter Tryf.func5, Tryf.ntmps5
  go_wp2
  go_ret
  exact ⟨rfl, rfl⟩

/-- A slice of bytes that can be read: its numbers xs. -/
structure Txt (w : World) (a : Option Addr) (n c : Nat) (xs : List Int) : Prop where
  len : xs.length = n
  max : n ≤ 140737488355328
  byte : ∀ x ∈ xs, 0 ≤ x ∧ x < 256
  lies : (a = none ∧ n = 0 ∧ c = 0) ∨ ∃ x, a = some x ∧ (n = 0 ∨ (x.spot = none ∧ x.block < w.heap.size)) ∧ ∀ j v, (xs.map (Value.int .u8))[j]? = some v → w.cell? (x.add j) = some v

theorem Txt.below {w w' : World} {a : Option Addr} {n c : Nat} {xs : List Int} (t : Txt w a n c xs) (h : Below w.heap.size w w') : Txt w' a n c xs := by
  refine ⟨t.len, t.max, t.byte, ?_⟩
  rcases t.lies with e | ⟨x, rfl, hx, hc⟩
  · exact .inl e
  · refine .inr ⟨x, rfl, ?_, ?_⟩
    · rcases hx with e | ⟨e1, e2⟩
      · exact .inl e
      · exact .inr ⟨e1, Nat.lt_of_lt_of_le e2 h.size⟩
    · intro j v hv
      rcases hx with e | ⟨e1, e2⟩
      · have hj := (List.getElem?_eq_some_iff.1 hv).1
        have := t.len
        simp at hj; omega
      · have hb : (x.add j).block = x.block := by unfold Addr.add; split <;> rfl
        rw [h.cell (p := x.add j) (by rw [hb]; exact e2)]
        exact hc j v hv

theorem Txt.conv {w : World} {a : Option Addr} {n c : Nat} {xs : List Int} (t : Txt w a n c xs) : (convert 22 9 (.slice a n c)).run Tryf.prog w = .ok (.string (strOfNums xs)) w := by
  rcases t.lies with ⟨rfl, rfl, rfl⟩ | ⟨x, rfl, hx, hc⟩
  · obtain rfl : xs = [] := List.eq_nil_of_length_eq_zero t.len
    exact run_convert_bytes_nil w 22 5 Tryf.underlying22 Tryf.underlying5 0 0 9 Tryf.underlying9
  · have hl := run_loadCells_list (P := Tryf.prog) w x (xs.map (Value.int .u8)) hc
    rw [List.length_map, t.len] at hl
    rw [run_convert_bytes_string w 22 9 5 _ n c Tryf.underlying22 Tryf.underlying5 Tryf.underlying9, run_bytesToString w _ n c xs hl, foldl_push_bytes]
    simp [strOfNums, ByteArray.empty, ByteArray.emptyWithCapacity]
    rfl

theorem Txt.op {w : World} {a : Option Addr} {n c : Nat} {xs : List Int} (t : Txt w a n c xs) : ∃ rd, ∀ name, (FmtStop.operand name true 113 false (.iface 22 (.slice a n c))).run Tryf.prog w = .ok rd w := by
  rcases t.lies with ⟨rfl, rfl, rfl⟩ | ⟨x, rfl, hx, hc⟩
  · exact opNil w
  · have := t.len
    subst this
    exact opBytes x c xs w hc

theorem Env.below {w w' : World} (E : Env w) (h : Below w.heap.size w w') : Env w' := by
  obtain ⟨t1, p1, h1⟩ := E.errS
  obtain ⟨t2, p2, h2⟩ := E.errR
  have hs := E.size
  exact ⟨Nat.lt_of_lt_of_le hs h.size, (h.cell (p := ⟨4, 15, none⟩) hs).trans E.tab, ⟨t1, p1, var?_below h (g := 1) (by kernel_rfl) (by omega) h1⟩, ⟨t2, p2, var?_below h (g := 2) (by kernel_rfl) (by omega) h2⟩⟩

/-- The law's function lies at block p. -/
structure IsFn (w : World) (p : Nat) : Prop where
  lt : p < w.heap.size
  uint : w.cell? ⟨p, 1, none⟩ = some (.func (.func 10) #[] #[])
  bytes : w.cell? ⟨p, 2, none⟩ = some .nilFunc
theorem IsFn.below {w w' : World} {p : Nat} (f : IsFn w p) (h : Below w.heap.size w w') : IsFn w' p :=
  ⟨Nat.lt_of_lt_of_le f.lt h.size, (h.cell (p := ⟨p, 1, none⟩) f.lt).trans f.uint, (h.cell (p := ⟨p, 2, none⟩) f.lt).trans f.bytes⟩

theorem nilf (w : World) : (binOp .neq 30 .nilFunc .nilFunc).run Tryf.prog w = .ok (.bool false) w := by kernel_rfl

set_option maxHeartbeats 1000000 in
theorem ofText_ok (p : Nat) (a : Option Addr) (n c : Nat) (xs : List Int) (u : Nat) (w : World) (E : Env w) (f : IsFn w p) (t : Txt w a n c xs) (hd : decOpt xs = some u) :
    Calls Tryf.prog 6 #[.pointer (some ⟨p, 0, none⟩), .slice a n c] w fun e w' => ∃ v, e = .returned (.tuple #[v, .nilIface]) ∧ Made w.heap.size v (hexL u) w' ∧ Below w.heap.size w w' := by
  have hcv := t.conv
  have hb2 := f.bytes
  have hnf := nilf
  go_enter Tryf.func6, Tryf.ntmps6
  go_wp2_with fail
  refine (parse_ok xs u w t.byte (by have := t.len; have := t.max; omega) hd).mono ?_
  rintro e w1 ⟨rfl, hbel⟩
  have f1 := f.below hbel
  have E1 := E.below hbel
  have hu1 := f1.uint
  have HB : Hid (Below w.heap.size w w1) := hbel
  clear hbel hcv
  go_wp2_with fail
  refine (closure_any u _ (decOpt_lt xs u hd) E1.size E1.tab).mono ?_
  rintro e w2 ⟨v, rfl, ⟨g, cap, rfl, hg1, hg2, hc⟩, hb⟩
  go_wp2
  go_ret2
  exact ⟨_, rfl, ⟨g, cap, rfl, Nat.le_trans HB.out.size hg1, hg2, hc⟩, HB.out.trans (hb.mono HB.out.size)⟩

set_option maxHeartbeats 1000000 in
theorem ofText_fail (F : Interp) (p : Nat) (a : Option Addr) (n c : Nat) (xs : List Int) (w : World) (hF : F.answers w.tape) (E : Env w) (f : IsFn w p) (t : Txt w a n c xs) (hd : decOpt xs = none) :
    Calls Tryf.prog 6 #[.pointer (some ⟨p, 0, none⟩), .slice a n c] w fun e w' => ∃ T x, e = .returned (.tuple #[.slice none 0 0, .iface T x]) ∧ Below w.heap.size w w' := by
  have hcv := t.conv
  have hb2 := f.bytes
  have hnf := nilf
  go_enter Tryf.func6, Tryf.ntmps6
  go_wp2_with fail
  refine (parse_fail xs w E t.byte (by have := t.len; have := t.max; omega) hd).mono ?_
  rintro e w1 ⟨⟨m, T, x, rfl⟩, hbel⟩
  have t1 := t.below hbel
  have hF1 : F.answers w1.tape := by rw [hbel.tape]; exact hF
  have HB : Hid (Below w.heap.size w w1) := hbel
  clear hbel hcv
  go_wp2_with fail
  obtain ⟨rd, hrd⟩ := (t1.below ((Below.refl _ w1).alloc (Nat.le_refl _) (.cells #[.iface 22 (.slice a n c)] 20))).op
  refine (errorf_any F w1.heap.size (.slice a n c) rd _ ?_ ?_ ?_).mono ?_
  · exact hF1
  · rw [World.cell?_alloc_mark]; rfl
  · exact hrd
  rintro e w2 ⟨T2, x2, rfl, hb⟩
  clear hrd
  go_wp2
  go_ret2
  exact ⟨_, _, rfl, HB.out.trans (((Below.refl _ w1).alloc (Nat.le_refl _) _).trans (hb.mono (by simp)) |>.mono HB.out.size)⟩
end Go.Proofs.Qxb6613114aFmt
