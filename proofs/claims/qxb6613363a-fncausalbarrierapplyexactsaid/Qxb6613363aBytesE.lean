/-
  The bound on total length of the other law: a bool, and nothing is written.
-/
import Derived.Test.Qxb6613363aBytesA
namespace Go.Proofs.Qxb6613363a
open Go.RowKit

set_option maxRecDepth 100000 in
set_option maxHeartbeats 1000000 in
theorem bytesE_any (v0 v1 v2 v3 v4 v7 v8 v9 : Value) (ka pa c1 c2 : Option Addr) (kn kc pn pc n1 m1 n2 m2 : Nat) (rs : List Rw) (w : World) (t : ISS w pa pn pc rs)
    (hk : kn ≤ 17592186044416) (h1 : n1 ≤ 17592186044416) (h2 : n2 ≤ 17592186044416) :
    Calls Try.prog 7 #[v0, v1, v2, v3, v4, .slice pa pn pc, .slice ka kn kc, v7, v8, v9, .slice c1 n1 m1, .slice c2 n2 m2] w (BP Any w) := by
  have hcap := t.cap
  have hmax := t.max
  have HT : Hid (ISS w pa pn pc rs) := t
  clear t
  go_enter Try.func7, Try.ntmps7
  go_wp2
  · go_ret; exact ⟨⟨_, rfl, rfl, trivial⟩⟩
  go_loopw [25, 26] (fun s i wr => ∃ k z : Nat, k ≤ pn ∧ i = .int .i64 k ∧ s = .int .i64 z ∧ z ≤ 1048576 ∧ wr = w) (fun _ i _ => pn - (intOf i).toNat)
  case atStart => exact ⟨0, pn, by omega, rfl, by go_num, by omega, rfl⟩
  case round =>
    obtain ⟨k, z, hk2, rfl, rfl, hz, rfl⟩ := hrel
    by_cases hlt : k < pn
    · obtain ⟨r, hrm, b, o, hspot, hc⟩ : ∃ r, r ∈ rs ∧ ∃ b o, pa = some ⟨b, o, none⟩ ∧ wr.cell? ⟨b, o + k, none⟩ = some (.slice r.a r.n r.c) := by
        rcases HT.out.lies with e | ⟨b, o, e, h1, h2⟩
        · omega
        · exact ⟨rs[k]'(by rw [HT.out.len]; omega), List.getElem_mem _, b, o, e, h2 k (by rw [HT.out.len]; omega)⟩
      subst hspot
      have hrx := (HT.out.row r hrm).max
      obtain ⟨ra, rn, rc, rx⟩ := r
      dsimp only at hc hrx
      go_wp2
      · go_ret; exact ⟨⟨_, rfl, rfl, trivial⟩⟩
      · go_ret; exact ⟨⟨_, rfl, rfl, trivial⟩⟩
      · exact ⟨⟨k + 1, z + rn, by omega, by go_num, by go_num, by omega, trivial⟩, by simp [intOf]; omega⟩
    · go_wp2
      all_goals (go_ret; exact ⟨⟨_, rfl, rfl, trivial⟩⟩)
end Go.Proofs.Qxb6613363a
