/-
  readsAny: is one of the written cells among the reads?
-/
import Derived.Test.Qxb6613880aMapA
import Derived.BigQuiet
import Derived.BigRegion
import Derived.Deep.QuietTactic
import Derived.Deep.AppendLies
import Derived.Deep.RegionHeld3
namespace Go.Proofs.Qxb6613880a
open Go.RowKit Go.Maps

theorem zero64 : ∃ z : { l : Array Value // l.size = 12 ∧ l.toList.all Value.oneCell' = true }, ∀ w, (zeroValue 64).run Try.prog w = .ok (.agg z.1) w :=
  ⟨⟨#[.string ⟨#[]⟩, .string ⟨#[]⟩, .string ⟨#[]⟩, .string ⟨#[]⟩, .string ⟨#[]⟩, .map none, .slice none 0 0, .slice none 0 0, .string ⟨#[]⟩, .string ⟨#[]⟩, .string ⟨#[]⟩, .string ⟨#[]⟩], rfl, rfl⟩, fun w => by kernel_rfl⟩

theorem key_unique {key : Value} : ∀ {l : List MapEntry} {x y : MapEntry}, l.Pairwise (fun a b => a.key ≠ b.key) → x ∈ l → y ∈ l → x.key = key → y.key = key → x = y
  | [], _, _, _, h, _, _, _ => by cases h
  | z :: l, x, y, hp, hx, hy, ex, ey => by
    obtain ⟨h1, h2⟩ := List.pairwise_cons.1 hp
    rcases List.mem_cons.1 hx with hx1 | hx1
    · rcases List.mem_cons.1 hy with hy1 | hy1
      · rw [hx1, hy1]
      · exact absurd (ex.trans ey.symm) (hx1 ▸ h1 y hy1)
    · rcases List.mem_cons.1 hy with hy1 | hy1
      · exact absurd (ey.trans ex.symm) (hy1 ▸ h1 x hx1)
      · exact key_unique h2 hx1 hy1 ex ey

/-- The look-up, in every world that has the map's block as it is here. -/
theorem look_fix {w : World} {br nr : Nat} {Dr : DataW Unit} (hown : w.ownsMap Try.prog 52 (elN 12) br nr Dr) {key : Value} {kl : Lit} (hkey : keyOf Try.prog 52 key = some kl) :
    ∃ cs : Array Value, (cs.size = 12 ∧ cs.toList.all Value.oneCell' = true) ∧ ∀ w' : World, w'.heap[br]? = w.heap[br]? → (Instr.lookup 53 (.map (some br)) key true).run Try.prog w' = .ok (.tuple #[.agg cs, .bool (Maps.has Dr kl)]) w' := by
  obtain ⟨es, clock, hb, F, _, rfl⟩ := hown
  obtain ⟨z, hz⟩ := zero64
  have hp : es.toList.Pairwise (fun x y => x.key ≠ y.key) := ((MapKept.stamped_iff es clock).1 F.stamped).2.2
  rcases Maps.fit_look true law52 Try.underlying53 (hz w) hb F hkey with ⟨_, hno, hat⟩ | ⟨e0, y, he, hk0, _, hRv, hat, _⟩
  · refine ⟨z.1, z.2, fun w' hw' => ?_⟩
    rw [Maps.has_false_of_atKey hat]
    rcases Maps.fit_look true law52 Try.underlying53 (hz w') (hw'.trans hb) F hkey with ⟨hrun, _, _⟩ | ⟨e1, _, he1, hk1, _⟩
    · exact hrun
    · exact absurd hk1 (hno e1 he1)
  · obtain ⟨cs, hcs⟩ := elN_inv hRv
    refine ⟨cs.1, cs.2, fun w' hw' => ?_⟩
    rw [Maps.has_true_of_atKey hat]
    rcases Maps.fit_look true law52 Try.underlying53 (hz w') (hw'.trans hb) F hkey with ⟨_, hno, _⟩ | ⟨e1, _, he1, hk1, hrun, _⟩
    · exact absurd hk0 (hno e0 he)
    · rw [key_unique hp he1 he hk1 hk0] at hrun
      rw [hcs] at hrun
      exact hrun

/-- Is one of ys among xs? New blocks alone are made. -/
structure RaOut (xs ys : List C3) (w : World) (e : Ending) (w' : World) : Prop where
  ex : ∃ b : Bool, e = .returned (.bool b) ∧ Below w.heap.size w w' ∧ (b = true ↔ ∃ x, x ∈ ys ∧ x ∈ xs)

/-- No key that has come is among xs. -/
def Past (D : DataW Unit) (left : Lit → Bool) (xs : List C3) : Prop :=
  (∀ kl, left kl = true → Maps.has D kl = true) ∧ ∀ x kl, keyOf Try.prog 52 (kv x) = some kl → Maps.has D kl = true → left kl = false → x ∉ xs

theorem past_start (D : DataW Unit) (xs : List C3) : Past D (Maps.has D) xs := ⟨fun _ h => h, fun x kl _ h1 h2 => by rw [h1] at h2; cases h2⟩

theorem past_step {D : DataW Unit} {left : Lit → Bool} {xs : List C3} (h : Past D left xs) {x : C3} {kl : Lit} (hx : keyOf Try.prog 52 (kv x) = some kl) (hn : x ∉ xs) : Past D (fun z => left z && !z.sameKey kl) xs := by
  refine ⟨fun z hz => h.1 z (by simp at hz; exact hz.1), fun y ky hy h1 h2 => ?_⟩
  simp only [Bool.and_eq_false_iff, Bool.not_eq_eq_eq_not, Bool.not_false] at h2
  rcases h2 with h2 | h2
  · exact h.2 y ky hy h1 h2
  · have e := WideAt.sameKey_eq h2
    subst e
    rw [kv_inj (law52.inj hy hx)]
    exact hn

set_option maxRecDepth 100000 in
set_option maxHeartbeats 2000000 in
theorem readsAny_any (p br nr bc nc : Nat) (xs ys : List C3) (w : World) (hr : MS 12 w br nr xs) (hc : MS 13 w bc nc ys) (hp : w.cell? ⟨p, 4, none⟩ = some (.map (some br))) (hpl : p < w.heap.size) (hok : ∀ y ∈ ys, Ok3 y) :
    Calls Try.prog 16 #[.pointer (some ⟨p, 0, none⟩), .map (some bc)] w (RaOut xs ys w) := by
  obtain ⟨Dr, hor, hDr⟩ := hr.ex
  obtain ⟨Dc, hoc, hDc⟩ := hc.ex
  have HDR : Hid (Holds Dr xs) := hDr
  have HDC : Hid (Holds Dc ys) := hDc
  have HOK : Hid (∀ y ∈ ys, Ok3 y) := hok
  have hbrl := hor.lt
  have hbcl := hoc.lt
  clear hr hc hDr hDc hok
  go_enter Try.func16, Try.ntmps16
  go_wp2_with (first
    | (at_range; refine wpList_range_own _ rfl _ 28 rfl 52 50 law52 Try.underlying28 _ bc nc _ rfl hoc ?_; intro w0 hrg0 hg0 hs0)
    | go_in)
  go_frame
  go_loopw [10] (fun _ wr => ∃ (left : Lit → Bool) (cnt : Nat), wr.ranges Try.prog 52 (elN 13) bc w.heap.size nc Dc left cnt ∧ Below w.heap.size w wr ∧ Hid (Past Dc left xs)) (fun _ wr => wr.rangeLeft bc w.heap.size)
  case atStart => exact ⟨_, _, hrg0, (Below.refl _ _).grown hg0 (Nat.le_refl _) (fun j hj => by cases hj), past_start _ _⟩
  case round =>
    obtain ⟨left, cnt, hrg, hbel, hpast⟩ := hrel
    go_wp2_with (first
      | (at_next; refine wpList_next_ranges _ rfl _ rfl 52 law52 (elN 13) (fun x : C3 => .agg #[.string x.a, .string x.b, .string x.c]) (fun cs : { l : Array Value // l.size = 13 ∧ l.toList.all Value.oneCell' = true } => .agg cs.1) (fun key kl h => key_inv h) (fun v y h => elN_inv h) bc w.heap.size nc Dc left cnt rfl hrg ?_ ?_)
      | go_in)
    · intro hc0 hl0
      go_wp2
      go_ret
      refine ⟨false, rfl, hbel, ?_⟩
      simp only [Bool.false_eq_true, false_iff]
      rintro ⟨x, h1, h2⟩
      obtain ⟨kl, hkl⟩ := key_ex (HOK.out x h1)
      exact hpast.out.2 x kl hkl ((HDC.out x kl hkl).2 h1) (hl0 kl) h2
    · intro x cv hcv hcv2 kl y1 y2 w1 cnt1 hkey hlk hRv hat hrg1 hlt hg1 hs1 hen
      obtain ⟨xa, xb, xc⟩ := x
      dsimp only at hen hkey
      clear hRv hat hcv2
      have hw1 : w1.heap[br]? = w.heap[br]? := (hg1.block br (Nat.lt_of_lt_of_le hbrl hbel.size) (fun e => by have := Option.some.inj e; omega)).trans (hbel.block br hbrl)
      obtain ⟨cs, hcs, hlook⟩ := look_fix hor hkey
      obtain ⟨bl, hbl⟩ : ∃ bl, bl = Maps.has Dr kl := ⟨_, rfl⟩
      rw [← hbl] at hlook
      have HBL : Hid (bl = Maps.has Dr kl) := hbl
      obtain ⟨hcs1, hcs2⟩ := hcs
      obtain ⟨x0, x1, x2, x3, x4, x5, x6, x7, x8, x9, x10, x11, rfl⟩ : ∃ x0 x1 x2 x3 x4 x5 x6 x7 x8 x9 x10 x11 : Value, cs = #[x0, x1, x2, x3, x4, x5, x6, x7, x8, x9, x10, x11] := by
        obtain ⟨l⟩ := cs
        match l, hcs1 with
        | [x0, x1, x2, x3, x4, x5, x6, x7, x8, x9, x10, x11], _ => exact ⟨x0, x1, x2, x3, x4, x5, x6, x7, x8, x9, x10, x11, rfl⟩
      simp only [List.all_cons, List.all_nil, Bool.and_true, Bool.and_eq_true] at hcs2
      obtain ⟨i0, i1, i2, i3, i4, i5, i6, i7, i8, i9, i10, i11⟩ := hcs2
      have s0 : ∀ W a m, (store a x0 m).run Try.prog W = stored Try.prog W a x0 m := fun W a m => run_store Try.prog W a x0 m i0
      have s1 : ∀ W a m, (store a x1 m).run Try.prog W = stored Try.prog W a x1 m := fun W a m => run_store Try.prog W a x1 m i1
      have s2 : ∀ W a m, (store a x2 m).run Try.prog W = stored Try.prog W a x2 m := fun W a m => run_store Try.prog W a x2 m i2
      have s3 : ∀ W a m, (store a x3 m).run Try.prog W = stored Try.prog W a x3 m := fun W a m => run_store Try.prog W a x3 m i3
      have s4 : ∀ W a m, (store a x4 m).run Try.prog W = stored Try.prog W a x4 m := fun W a m => run_store Try.prog W a x4 m i4
      have s5 : ∀ W a m, (store a x5 m).run Try.prog W = stored Try.prog W a x5 m := fun W a m => run_store Try.prog W a x5 m i5
      have s6 : ∀ W a m, (store a x6 m).run Try.prog W = stored Try.prog W a x6 m := fun W a m => run_store Try.prog W a x6 m i6
      have s7 : ∀ W a m, (store a x7 m).run Try.prog W = stored Try.prog W a x7 m := fun W a m => run_store Try.prog W a x7 m i7
      have s8 : ∀ W a m, (store a x8 m).run Try.prog W = stored Try.prog W a x8 m := fun W a m => run_store Try.prog W a x8 m i8
      have s9 : ∀ W a m, (store a x9 m).run Try.prog W = stored Try.prog W a x9 m := fun W a m => run_store Try.prog W a x9 m i9
      have s10 : ∀ W a m, (store a x10 m).run Try.prog W = stored Try.prog W a x10 m := fun W a m => run_store Try.prog W a x10 m i10
      have s11 : ∀ W a m, (store a x11 m).run Try.prog W = stored Try.prog W a x11 m := fun W a m => run_store Try.prog W a x11 m i11
      clear i0 i1 i2 i3 i4 i5 i6 i7 i8 i9 i10 i11 hcs1
      have HX : Hid ((⟨xa, xb, xc⟩ : C3) ∈ ys) := (HDC.out ⟨xa, xb, xc⟩ kl hkey).1 (hpast.out.1 kl hlk)
      have HB0 : Below w.heap.size w w1 := hbel.grown hg1 hbel.size (fun j hj => by cases hj; exact Nat.le_refl _)
      clear hbl hlk
      go_wp2_with fail
      obtain ⟨wa, hwa⟩ : ∃ wa, wa = w1.alloc (.cells #[.string xa, .string xb, .string xc] 52) := ⟨_, rfl⟩
      rw [← hwa]
      have k0 : wa.cell? ⟨wr.heap.size, 0, none⟩ = some (.string xa) := by rw [hwa, ← hs1]; exact cell_at_new _ _ _ _ rfl
      have k1 : wa.cell? ⟨wr.heap.size, 1, none⟩ = some (.string xb) := by rw [hwa, ← hs1]; exact cell_at_new _ _ _ _ rfl
      have k2 : wa.cell? ⟨wr.heap.size, 2, none⟩ = some (.string xc) := by rw [hwa, ← hs1]; exact cell_at_new _ _ _ _ rfl
      have hwb : wa.heap[br]? = w.heap[br]? := by
        rw [hwa, (MapKept.heap_alloc w1 _).2 br (by rw [hs1]; exact Nat.lt_of_lt_of_le hbrl hbel.size)]
        exact hw1
      have hp1 : wa.cell? ⟨p, 4, none⟩ = some (.map (some br)) := by
        have e1 : wa.heap[p]? = w.heap[p]? := by
          rw [hwa, (MapKept.heap_alloc w1 _).2 p (by rw [hs1]; exact Nat.lt_of_lt_of_le hpl hbel.size)]
          exact (hg1.block p (Nat.lt_of_lt_of_le hpl hbel.size) (fun e => by have := Option.some.inj e; omega)).trans (hbel.block p hpl)
        exact (World.cell?_of_block (a := ⟨p, 4, none⟩) e1).trans hp
      have hsa : wa.heap.size = wr.heap.size + 1 := by rw [hwa, ← hs1]; simp
      have HWA : Hid (wa = w1.alloc (.cells #[.string xa, .string xb, .string xc] 52)) := hwa
      have HLK : Hid (∀ w' : World, w'.heap[br]? = w.heap[br]? → (Instr.lookup 53 (.map (some br)) (.agg #[.string xa, .string xb, .string xc]) true).run Try.prog w' = .ok (.tuple #[.agg #[x0, x1, x2, x3, x4, x5, x6, x7, x8, x9, x10, x11], .bool bl]) w') := hlook
      have LK : (Instr.lookup 53 (.map (some br)) (.agg #[.string xa, .string xb, .string xc]) true).run Try.prog wa.drew = .ok (.tuple #[.agg #[x0, x1, x2, x3, x4, x5, x6, x7, x8, x9, x10, x11], .bool bl]) wa.drew := hlook wa.drew hwb
      have LK2 : ∀ o : Obj, (Instr.lookup 53 (.map (some br)) (.agg #[.string xa, .string xb, .string xc]) true).run Try.prog (wa.alloc o).drew = .ok (.tuple #[.agg #[x0, x1, x2, x3, x4, x5, x6, x7, x8, x9, x10, x11], .bool bl]) (wa.alloc o).drew :=
        fun o => hlook _ (((MapKept.heap_alloc wa o).2 br (by rw [hsa]; have := hbel.size; omega)).trans hwb)
      have l1 : wr.heap.size < wa.heap.size := by omega
      have l2 : p < wa.heap.size := by have := hbel.size; omega
      have l3 : wr.heap.size ≠ wa.heap.size := by omega
      have l4 : p ≠ wa.heap.size := by omega
      have HSA : Hid (wa.heap.size = wr.heap.size + 1) := hsa
      have HR2 : Hid (∀ o, ((wa.alloc o).drew).ranges Try.prog 52 (elN 13) bc w.heap.size nc Dc (fun z => left z && !z.sameKey kl) cnt1) := fun o => by
        rw [hwa]
        exact (hrg1.alloc _).alloc _
      have HB2 : Hid (∀ o, Below w.heap.size w (wa.alloc o).drew) := fun o => by
        rw [hwa]
        exact ((HB0.alloc HB0.size _).alloc (by have := HB0.size; simp; omega) _).drew
      clear hwa hlook hsa hrg1 HB0
      go_region_held3 (fun w' => w'.cell? ⟨p, 4, none⟩ = some (.map (some br)) ∧ w'.cell? ⟨wr.heap.size, 0, none⟩ = some (.string xa) ∧ w'.cell? ⟨wr.heap.size, 1, none⟩ = some (.string xb) ∧ w'.cell? ⟨wr.heap.size, 2, none⟩ = some (.string xc) ∧
          (Instr.lookup 53 (.map (some br)) (.agg #[.string xa, .string xb, .string xc]) true).run Try.prog w' = .ok (.tuple #[.agg #[x0, x1, x2, x3, x4, x5, x6, x7, x8, x9, x10, x11], .bool bl]) w')
        (first | (exact ⟨hp1, k0, k1, k2, LK⟩) | go_keep)
        (fail)
      all_goals
        have hR2 := HR2.out (.cells #[x0, x1, x2, x3, x4, x5, x6, x7, x8, x9, x10, x11] 64)
        have hB2 := HB2.out (.cells #[x0, x1, x2, x3, x4, x5, x6, x7, x8, x9, x10, x11] 64)
        cases bl with
        | true =>
          have HXS : Hid ((⟨xa, xb, xc⟩ : C3) ∈ xs) := (HDR.out ⟨xa, xb, xc⟩ kl hkey).1 HBL.out.symm
          go_wp2
          go_ret
          exact ⟨true, rfl, hB2, by simp only [true_iff]; exact ⟨_, HX.out, HXS.out⟩⟩
        | false =>
          have HP2 : Hid (Past Dc (fun z => left z && !z.sameKey kl) xs) := past_step (x := ⟨xa, xb, xc⟩) hpast.out hkey (fun h => by have := (HDR.out ⟨xa, xb, xc⟩ kl hkey).2 h; rw [← HBL.out] at this; cases this)
          go_wp2
          go_roundw
          case rel => exact ⟨_, cnt1, hR2, hB2, HP2⟩
          case measure => rw [hR2.left_eq, hrg.left_eq]; exact hlt

theorem zzReadsAny_any (p br nr bc nc : Nat) (xs ys : List C3) (w : World) (hr : MS 12 w br nr xs) (hc : MS 13 w bc nc ys) (hp : w.cell? ⟨p, 4, none⟩ = some (.map (some br))) (hpl : p < w.heap.size) (hok : ∀ y ∈ ys, Ok3 y) :
    Calls Try.prog 8 #[.pointer (some ⟨p, 0, none⟩), .map (some bc)] w (RaOut xs ys w) := by
  have HC := readsAny_any p br nr bc nc xs ys w hr hc hp hpl hok
  clear hr hc hp hpl hok
  go_enter Try.func8, Try.ntmps8
  go_wp2_with fail
  refine HC.mono ?_
  rintro e w1 ⟨b, rfl, hb, hx⟩
  have HX : Hid (b = true ↔ ∃ x, x ∈ ys ∧ x ∈ xs) := hx
  clear hx HC
  go_wp2
  go_ret
  exact ⟨b, rfl, hb, HX.out⟩
end Go.Proofs.Qxb6613880a
