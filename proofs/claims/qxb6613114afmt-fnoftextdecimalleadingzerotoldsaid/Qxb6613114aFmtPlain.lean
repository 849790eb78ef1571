/-
  The plain mathematics: decimal numerals of 64 bits; hexadecimal digits. No program here.
-/
import Derived.Lib.ParseIntB
import Derived.Lib.Bytes
namespace Go.Proofs.Qxb6613114aFmt

/-- The number that decimal digits spell behind 'acc', where it stays below 2^64. -/
def dec (acc : Nat) : List Int → Option Nat
  | [] => some acc
  | c :: r => if 48 ≤ c ∧ c ≤ 57 then (if acc * 10 + (c - 48).toNat < 18446744073709551616 then dec (acc * 10 + (c - 48).toNat) r else none) else none
/-- One digit or more. -/
def decOpt (l : List Int) : Option Nat := if l = [] then none else dec 0 l

theorem dec_lt : ∀ (l : List Int) (acc u : Nat), acc < 18446744073709551616 → dec acc l = some u → u < 18446744073709551616
  | [], acc, u, h, e => by simp [dec] at e; omega
  | c :: r, acc, u, h, e => by
    unfold dec at e
    split at e
    · split at e
      · exact dec_lt r _ u (by assumption) e
      · cases e
    · cases e
theorem decOpt_lt (l : List Int) (u : Nat) (e : decOpt l = some u) : u < 18446744073709551616 := by
  unfold decOpt at e
  split at e
  · cases e
  · exact dec_lt l 0 u (by decide) e
theorem decOpt_zero (l : List Int) : decOpt (48 :: l) = dec 0 l := by
  rw [decOpt, if_neg (by simp), dec, if_pos (by decide), if_pos (by decide)]
  rfl
theorem decOpt_zero_ne (l : List Int) (h : l ≠ []) : decOpt (48 :: l) = decOpt l := by
  rw [decOpt_zero, decOpt, if_neg h]

/-- The shelf's reading of a numeral is this one. -/
theorem parse_dec : ∀ (xs : List Int) (acc : Nat), (∀ x ∈ xs, 0 ≤ x ∧ x < 256) → acc < 18446744073709551616 →
    (∀ u, Lib.parseUintM (2 ^ 64 - 1) acc (Lib.bytesOf xs) = .ok u → dec acc xs = some u) ∧ ((∀ u, Lib.parseUintM (2 ^ 64 - 1) acc (Lib.bytesOf xs) ≠ .ok u) → dec acc xs = none)
  | [], acc, _, _ => by
    constructor
    · intro u h; simp [Lib.bytesOf, Lib.parseUintM] at h; simp [dec, h]
    · intro h; exact absurd rfl (h acc)
  | c :: r, acc, hb, ha => by
    have hc := hb c (List.mem_cons_self ..)
    have hn : (UInt8.ofNat c.toNat).toNat = c.toNat := by rw [UInt8.toNat_ofNat']; omega
    have eb : Lib.bytesOf (c :: r) = UInt8.ofNat c.toNat :: Lib.bytesOf r := rfl
    rw [eb]
    unfold Lib.parseUintM dec
    rw [hn]
    by_cases h1 : 48 ≤ c ∧ c ≤ 57
    · have e1 : (c - 48).toNat = c.toNat - 48 := by omega
      rw [if_pos h1, if_pos (show 48 ≤ c.toNat ∧ c.toNat ≤ 57 by omega), e1]
      by_cases h2 : 1844674407370955162 ≤ acc
      · rw [if_pos h2, if_neg (show ¬ acc * 10 + (c.toNat - 48) < 18446744073709551616 by omega)]
        exact ⟨fun u h => (by cases h), fun _ => rfl⟩
      · rw [if_neg h2]
        by_cases h3 : acc * 10 + (c.toNat - 48) < 18446744073709551616
        · rw [if_pos h3, if_neg (show ¬ 2 ^ 64 - 1 < acc * 10 + (c.toNat - 48) by omega)]
          exact parse_dec r _ (fun x hx => hb x (List.mem_cons_of_mem _ hx)) h3
        · rw [if_neg h3, if_pos (show 2 ^ 64 - 1 < acc * 10 + (c.toNat - 48) by omega)]
          exact ⟨fun u h => (by cases h), fun _ => rfl⟩
    · rw [if_neg h1, if_neg (show ¬ (48 ≤ c.toNat ∧ c.toNat ≤ 57) by omega)]
      exact ⟨fun u h => (by cases h), fun _ => rfl⟩

theorem parse_decOpt (xs : List Int) (hb : ∀ x ∈ xs, 0 ≤ x ∧ x < 256) :
    (∀ u, Lib.parseUintB 64 (Lib.bytesOf xs) = .ok u → decOpt xs = some u) ∧ ((∀ u, Lib.parseUintB 64 (Lib.bytesOf xs) ≠ .ok u) → decOpt xs = none) := by
  unfold Lib.parseUintB decOpt
  by_cases h : xs = []
  · subst h
    rw [if_pos rfl]
    exact ⟨fun u h => (by simp [Lib.bytesOf] at h), fun _ => rfl⟩
  · rw [if_neg h, if_neg (by intro e; cases xs with | nil => exact h rfl | cons a t => simp [Lib.bytesOf] at e)]
    exact parse_dec xs 0 hb (by decide)

/-- A hexadecimal digit, in lower case. -/
def hexD (d : Nat) : Int := if d < 10 then 48 + d else 87 + d
/-- The digits of u: at most f + 1 of them. -/
def hexQ : Nat → Nat → List Int
  | 0, u => [hexD u]
  | f + 1, u => if u < 16 then [hexD u] else hexQ f (u / 16) ++ [hexD (u % 16)]
/-- The digits of u, none for nought. -/
def hexP : Nat → Nat → List Int
  | 0, _ => []
  | f + 1, u => if u = 0 then [] else hexP f (u / 16) ++ [hexD (u % 16)]
/-- The lower-case hexadecimal of a uint64. -/
def hexL (u : Nat) : List Int := hexQ 15 u

theorem hexD_range (d : Nat) (h : d < 16) : 0 ≤ hexD d ∧ hexD d < 256 := by unfold hexD; split <;> omega
theorem hexQ_small (f u : Nat) (h : u < 16) : hexQ f u = [hexD u] := by cases f with | zero => rfl | succ f => rw [hexQ, if_pos h]
theorem hexQ_big (f u : Nat) (h : 16 ≤ u) : hexQ (f + 1) u = hexQ f (u / 16) ++ [hexD (u % 16)] := by rw [hexQ, if_neg (by omega)]
theorem hexP_zero (f : Nat) : hexP f 0 = [] := by cases f <;> rfl
theorem hexP_pos (f u : Nat) (h : 0 < u) : hexP (f + 1) u = hexP f (u / 16) ++ [hexD (u % 16)] := by rw [hexP, if_neg (by omega)]
theorem hexP_eq : ∀ (f u : Nat), 0 < u → u < 16 ^ (f + 1) → hexP (f + 1) u = hexQ f u
  | 0, u, h0, h => by
    rw [hexP_pos 0 u h0, show u / 16 = 0 by omega, hexP_zero, show u % 16 = u by omega]; rfl
  | f + 1, u, h0, h => by
    rw [hexP_pos (f + 1) u h0]
    by_cases h1 : u < 16
    · rw [show u / 16 = 0 by omega, hexP_zero, show u % 16 = u by omega, hexQ_small _ _ h1]; rfl
    · rw [hexQ_big f u (by omega), hexP_eq f (u / 16) (by omega) (by rw [Nat.pow_succ] at h; omega)]
theorem hexL_zero : hexL 0 = [48] := by rfl
theorem hexL_pos (u : Nat) (h0 : 0 < u) (h : u < 18446744073709551616) : hexL u = hexP 16 u := (hexP_eq 15 u h0 h).symm
theorem hexQ_len : ∀ (f u : Nat), 0 < (hexQ f u).length ∧ (hexQ f u).length ≤ f + 1
  | 0, u => by simp [hexQ]
  | f + 1, u => by
    unfold hexQ
    split
    · simp
    · have := hexQ_len f (u / 16); simp; omega
theorem hexL_len (u : Nat) : 0 < (hexL u).length ∧ (hexL u).length ≤ 16 := hexQ_len 15 u
end Go.Proofs.Qxb6613114aFmt
