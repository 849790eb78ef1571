/-
  newCells and newTx: a list of cells put into a map.
-/
import Derived.Test.Qxb6613880aMapA
import Derived.BigQuiet
import Derived.Deep.QuietTactic
import Derived.Deep.RegionHeld3
import Derived.Deep.AppendLies
namespace Go.Proofs.Qxb6613880a
open Go.RowKit Go.Maps

theorem Below.ofGrown {base b : Nat} {w w' : World} (h : w.grownBy w' (some b)) (hb : base ≤ b) (hs : base ≤ w.heap.size) : Below base w w' :=
  (Below.refl _ w).grown h hs (fun k hk => by cases hk; exact hb)

set_option maxRecDepth 100000 in
set_option maxHeartbeats 1000000 in
theorem newCells_any (a : Option Addr) (n c : Nat) (xs : List C3) (w : World) (t : CS w a n c xs) (hn : n ≤ 100000) :
    Calls Try.prog 9 #[.slice a n c] w (McOut xs n w) := by
  have hcap := t.cap
  have HT : Hid (CS w a n c xs) := t
  clear t
  go_enter Try.func9, Try.ntmps9
  go_wp2_with fail
  refine (newCells0_any _).mono ?_
  rintro e w1 ⟨b, rfl, hb, hms, hbel⟩
  go_wp2_with fail
  go_loopw [4] (fun i wr => ∃ k : Nat, k ≤ n ∧ i = .int .i64 k ∧ MS 13 wr b k (xs.take k) ∧ Below w.heap.size w wr) (fun i _ => n - (intOf i).toNat)
  case atStart => exact ⟨0, by omega, rfl, by simpa using hms, hbel⟩
  case round =>
    obtain ⟨k, hk, rfl, hmk, hbk⟩ := hrel
    by_cases hlt : k < n
    · obtain ⟨b2, o, x, rfl, hb2, hxk, hox, c0, c1, c2⟩ := HT.out.at k hlt
      have d0 : wr.cell? ⟨b2, o + k * 3, none⟩ = some (.string x.a) := (hbk.cell (p := ⟨b2, _, none⟩) hb2).trans c0
      have d1 : wr.cell? ⟨b2, o + k * 3 + 1, none⟩ = some (.string x.b) := (hbk.cell (p := ⟨b2, _, none⟩) hb2).trans c1
      have d2 : wr.cell? ⟨b2, o + k * 3 + 2, none⟩ = some (.string x.c) := (hbk.cell (p := ⟨b2, _, none⟩) hb2).trans c2
      clear c0 c1 c2
      obtain ⟨xa, xb, xc⟩ := x
      dsimp only at d0 d1 d2
      have HMK : Hid (MS 13 wr.drew b k (xs.take k)) := ⟨hmk.ex⟩
      have HOX : Hid (Ok3 ⟨xa, xb, xc⟩) := hox
      have HXK : Hid (xs[k]? = some ⟨xa, xb, xc⟩) := hxk
      have hbs := hbk.size
      have hbw : b2 < wr.heap.size := by omega
      have hne : some b2 ≠ some b := fun e => by have := Option.some.inj e; omega
      clear hmk hox hxk hms
      go_wp2_with fail
      go_region_held3 (fun w' => w'.cell? ⟨b2, o + k * 3, none⟩ = some (.string xa) ∧ w'.cell? ⟨b2, o + k * 3 + 1, none⟩ = some (.string xb) ∧ w'.cell? ⟨b2, o + k * 3 + 2, none⟩ = some (.string xc))
        (first
          | (exact ⟨(hg2.cell_far ⟨b2, _, none⟩ hbw hne).trans d0, (hg2.cell_far ⟨b2, _, none⟩ hbw hne).trans d1, (hg2.cell_far ⟨b2, _, none⟩ hbw hne).trans d2⟩)
          | go_keep)
        (first
          | (go_at_call 12
             refine (addCell_any b k _ ⟨xa, xb, xc⟩ _ HMK.out (by omega) HOX.out).mono ?_
             rintro e w2 ⟨rfl, hm2, hg2⟩))
      have hb2' : Below w.heap.size w w2 := (below_drewN hbk 1).trans (Below.ofGrown hg2 hb hbs)
      rw [← take_snoc HXK.out] at hm2
      go_wp2
      go_roundw
      case rel => exact ⟨k + 1, by omega, by go_num, hm2, hb2'⟩
      case measure => simp [intOf]; omega
    · obtain rfl : k = n := by omega
      rw [List.take_of_length_le (by rw [HT.out.len]; omega)] at hmk
      have HF : Hid (McOut xs k w (.returned (.map (some b))) wr) := ⟨b, rfl, hb, hmk, hbk⟩
      clear hmk hms
      go_wp2
      go_ret
      exact HF.out

set_option maxRecDepth 100000 in
set_option maxHeartbeats 1000000 in
theorem newTx_any (a : Option Addr) (n c : Nat) (xs : List C3) (w : World) (t : CS w a n c xs) (hn : n ≤ 100000) :
    Calls Try.prog 7 #[.slice a n c] w (TxOut xs n w) := by
  have hcap := t.cap
  have HT : Hid (CS w a n c xs) := t
  clear t
  go_enter Try.func7, Try.ntmps7
  go_wp2_with fail
  refine (newTx0_any _).mono ?_
  rintro e w1 ⟨p, b, rfl, hp, hb, hpb, hp1, hc1, hms, hbel⟩
  go_wp2_with fail
  go_loopw [4] (fun i wr => ∃ k : Nat, k ≤ n ∧ i = .int .i64 k ∧ MS 12 wr b k (xs.take k) ∧ Below w.heap.size w wr ∧ p < wr.heap.size ∧ Hid (wr.cell? ⟨p, 4, none⟩ = some (.map (some b)))) (fun i _ => n - (intOf i).toNat)
  case atStart => exact ⟨0, by omega, rfl, by simpa using hms, hbel, hp1, hc1⟩
  case round =>
    obtain ⟨k, hk, rfl, hmk, hbk, hpk, HC⟩ := hrel
    by_cases hlt : k < n
    · obtain ⟨b2, o, x, rfl, hb2, hxk, hox, c0, c1, c2⟩ := HT.out.at k hlt
      have d0 : wr.cell? ⟨b2, o + k * 3, none⟩ = some (.string x.a) := (hbk.cell (p := ⟨b2, _, none⟩) hb2).trans c0
      have d1 : wr.cell? ⟨b2, o + k * 3 + 1, none⟩ = some (.string x.b) := (hbk.cell (p := ⟨b2, _, none⟩) hb2).trans c1
      have d2 : wr.cell? ⟨b2, o + k * 3 + 2, none⟩ = some (.string x.c) := (hbk.cell (p := ⟨b2, _, none⟩) hb2).trans c2
      clear c0 c1 c2
      obtain ⟨xa, xb, xc⟩ := x
      dsimp only at d0 d1 d2
      have HMK : Hid (MS 12 wr.drew b k (xs.take k)) := ⟨hmk.ex⟩
      have HOX : Hid (Ok3 ⟨xa, xb, xc⟩) := hox
      have HXK : Hid (xs[k]? = some ⟨xa, xb, xc⟩) := hxk
      have hbs := hbk.size
      have hbw : b2 < wr.heap.size := by omega
      have hne : some b2 ≠ some b := fun e => by have := Option.some.inj e; omega
      have hne2 : some p ≠ some b := fun e => hpb (Option.some.inj e)
      clear hmk hox hxk hms hc1
      go_wp2_with fail
      go_region_held3 (fun w' => w'.cell? ⟨b2, o + k * 3, none⟩ = some (.string xa) ∧ w'.cell? ⟨b2, o + k * 3 + 1, none⟩ = some (.string xb) ∧ w'.cell? ⟨b2, o + k * 3 + 2, none⟩ = some (.string xc))
        (first
          | (exact ⟨(hg2.cell_far ⟨b2, _, none⟩ hbw hne).trans d0, (hg2.cell_far ⟨b2, _, none⟩ hbw hne).trans d1, (hg2.cell_far ⟨b2, _, none⟩ hbw hne).trans d2⟩)
          | go_keep)
        (first
          | (go_at_call 15
             refine (addRead_any p b k _ ⟨xa, xb, xc⟩ _ HMK.out HC.out (by omega) HOX.out).mono ?_
             rintro e w2 ⟨rfl, hm2, hg2⟩))
      have hb2' : Below w.heap.size w w2 := (below_drewN hbk 1).trans (Below.ofGrown hg2 hb hbs)
      have HC2 : Hid (w2.cell? ⟨p, 4, none⟩ = some (.map (some b))) := (hg2.cell_far ⟨p, _, none⟩ hpk hne2).trans HC.out
      have hp2 : p < w2.heap.size := Nat.lt_of_lt_of_le hpk hg2.size
      rw [← take_snoc HXK.out] at hm2
      go_wp2
      go_roundw
      case rel => exact ⟨k + 1, by omega, by go_num, hm2, hb2', hp2, HC2⟩
      case measure => simp [intOf]; omega
    · obtain rfl : k = n := by omega
      rw [List.take_of_length_le (by rw [HT.out.len]; omega)] at hmk
      have HF : Hid (TxOut xs k w (.returned (.pointer (some ⟨p, 0, none⟩))) wr) := ⟨p, b, rfl, hp, hb, hpb, hpk, HC.out, hmk, hbk⟩
      clear hmk hms hc1
      go_wp2
      go_ret
      exact HF.out
end Go.Proofs.Qxb6613880a
