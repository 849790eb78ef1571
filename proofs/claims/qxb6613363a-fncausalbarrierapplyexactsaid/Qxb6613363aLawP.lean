/-
  The plain law on the numbers: no Go in sight.
-/
import Derived.Test.Qxb6613363aApB
import Derived.Test.Qxb6613363aReadC
namespace Go.Proofs.Qxb6613363a
open Go.RowKit

theorem raise1_max (x k : Nat) (xj : Int) (col : List Int) (v : Int) : raise1 x k xj col v = if (x : Int) = xj ∧ k < col.length then max v (col.getD k 0) else v := by
  unfold raise1
  by_cases h1 : (x : Int) = xj ∧ k < col.length
  · rw [if_pos h1]
    by_cases h2 : v < col.getD k 0
    · rw [if_pos ⟨h1.1, h1.2, h2⟩, Int.max_eq_right (Int.le_of_lt h2)]
    · rw [if_neg (fun h => h2 h.2.2), Int.max_eq_left (Int.not_lt.mp h2)]
  · rw [if_neg h1, if_neg (fun h => h1 ⟨h.1, h.2.1⟩)]

theorem raise1_comm (x k : Nat) (x1 x2 : Int) (c1 c2 : List Int) (v : Int) : raise1 x k x1 c1 (raise1 x k x2 c2 v) = raise1 x k x2 c2 (raise1 x k x1 c1 v) := by
  simp only [raise1_max]
  split <;> split <;> omega

theorem rz_get (K : List Int) (V vr : Nat) (cx : List Int) (hv : vr < V) (k : Nat) (hk : ∀ j, j < k → j * V + vr < K.length) (i : Nat) (hi : i < K.length) :
    (rz K V vr cx k).getD i 0 = if i % V = vr ∧ i / V < k then max (K.getD i 0) (cx.getD (i / V) 0) else K.getD i 0 := by
  have hdm := Nat.div_add_mod i V
  induction k with
  | zero => simp [rz]
  | succ k ih =>
    have ih' := ih (fun j hj => hk j (by omega))
    have hpos := hk k (by omega)
    rw [rz]
    by_cases e : i = k * V + vr
    · have e1 : i % V = vr := by rw [e, Nat.mul_comm, Nat.mul_add_mod, Nat.mod_eq_of_lt hv]
      have e2 : i / V = k := by rw [e, Nat.mul_comm, Nat.mul_add_div (by omega), Nat.div_eq_of_lt hv, Nat.add_zero]
      rw [if_pos ⟨e1, by omega⟩, ← e, List.getD_eq_getElem?_getD, List.getElem?_set_self (by rw [rz_len]; exact hi)]
      rw [if_neg (by rw [e2]; omega)] at ih'
      rw [ih', e2]; rfl
    · rw [List.getD_eq_getElem?_getD, List.getElem?_set_ne (Ne.symm e), ← List.getD_eq_getElem?_getD, ih']
      by_cases h1 : i % V = vr ∧ i / V < k
      · rw [if_pos h1, if_pos ⟨h1.1, by omega⟩]
      · rw [if_neg h1, if_neg]
        rintro ⟨g1, g2⟩
        have g3 : i / V = k := by
          rcases Nat.lt_or_ge (i / V) k with h | h
          · exact absurd ⟨g1, h⟩ h1
          · omega
        apply e
        rw [← g1, ← g3, Nat.mul_comm]; exact hdm.symm

theorem rz_raise (K : List Int) (V vr : Nat) (cx : List Int) (n : Nat) (hn : cx.length = n) (hv : vr < V) (hk : ∀ j, j < n → j * V + vr < K.length) (i : Nat) (hi : i < K.length) :
    (rz K V vr cx n).getD i 0 = raise1 (i % V) (i / V) vr cx (K.getD i 0) := by
  rw [rz_get K V vr cx hv n hk i hi, raise1_max, hn]
  by_cases h : i % V = vr ∧ i / V < n
  · rw [if_pos h, if_pos ⟨by rw [h.1], h.2⟩]
  · rw [if_neg h, if_neg (fun g => h ⟨by omega, g.2⟩)]

/-- One column after the other, at cell i. -/
theorem rz_two (K : List Int) (V x1 x2 : Nat) (c1 c2 : List Int) (n1 n2 : Nat) (h1 : c1.length = n1) (h2 : c2.length = n2) (hv1 : x1 < V) (hv2 : x2 < V) (hk1 : ∀ j, j < n1 → j * V + x1 < K.length) (hk2 : ∀ j, j < n2 → j * V + x2 < K.length) (i : Nat) (hi : i < K.length) :
    (rz (rz K V x1 c1 n1) V x2 c2 n2).getD i 0 = want V x1 c1 x2 c2 K i := by
  rw [rz_raise _ V x2 c2 n2 h2 hv2 (fun j hj => by rw [rz_len]; exact hk2 j hj) i (by rw [rz_len]; exact hi), rz_raise K V x1 c1 n1 h1 hv1 hk1 i hi]
  rfl
theorem want_comm (V x1 x2 : Nat) (c1 c2 : List Int) (K : List Int) (i : Nat) : want V x2 c2 x1 c1 K i = want V x1 c1 x2 c2 K i := raise1_comm _ _ _ _ _ _ _
end Go.Proofs.Qxb6613363a
