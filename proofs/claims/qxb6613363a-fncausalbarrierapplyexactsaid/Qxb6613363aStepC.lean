/-
  The steps of the law on one apply.
-/
import Derived.Test.Qxb6613363aStepB
import Derived.Test.Qxb6613363aLawP
import Derived.Test.Qxb6613363aDelC
namespace Go.Proofs.Qxb6613363a
open Go.RowKit Go.Deep

theorem want_one (V vr : Nat) (c1 : List Int) (K : List Int) (i : Nat) : want V vr c1 (-1) [] K i = raise1 (i % V) (i / V) vr c1 (K.getD i 0) := by
  unfold want
  rw [raise1_max (xj := -1), if_neg]
  rintro ⟨_, h⟩
  simp at h

/-- The kept precedent number j, where j of the first k are kept. -/
theorem filter_get {f : Pc → Bool} : ∀ {ps : List Pc} {k : Nat} {p : Pc}, ps[k]? = some p → f p = true → (ps.filter f)[((ps.take k).filter f).length]? = some p
  | [], k, p, h, _ => by simp at h
  | q :: ps, 0, p, h, hf => by
    simp at h; subst h
    simp [hf]
  | q :: ps, k + 1, p, h, hf => by
    have ih := filter_get (ps := ps) (k := k) (p := p) (by simpa using h) hf
    rw [List.take_succ_cons]
    by_cases hq : f q = true
    · rw [List.filter_cons_of_pos hq, List.filter_cons_of_pos hq]; simpa using ih
    · rw [List.filter_cons_of_neg hq, List.filter_cons_of_neg hq]; exact ih

theorem filter_len_le {f : Pc → Bool} (ps : List Pc) (k : Nat) : ((ps.take k).filter f).length ≤ (ps.filter f).length :=
  List.Sublist.length_le (List.Sublist.filter f (List.take_sublist k ps))

/-- Of the rows given back: the kept ones, then the new one. -/
theorem got_row {rs' : List Rw} {qs : List Pc} {q : Pc} (h1 : rs'.map Rw.xs = (qs ++ [q]).map Pc.row) {j : Nat} {p : Pc} {r' : Rw} (hq : qs[j]? = some p) (hr' : rs'[j]? = some r') : r'.xs = p.row := by
  have e1 : (rs'.map Rw.xs)[j]? = some r'.xs := by rw [List.getElem?_map, hr']; rfl
  have hj := (List.getElem?_eq_some_iff.1 hq).1
  rw [h1, List.map_append, List.getElem?_append_left (by simpa using hj), List.getElem?_map, hq] at e1
  exact (Option.some.inj e1).symm
theorem got_last {rs' : List Rw} {qs : List Pc} {q : Pc} (h1 : rs'.map Rw.xs = (qs ++ [q]).map Pc.row) {r' : Rw} (hr' : rs'[qs.length]? = some r') : r'.xs = q.row := by
  have e1 : (rs'.map Rw.xs)[qs.length]? = some r'.xs := by rw [List.getElem?_map, hr']; rfl
  rw [h1, List.map_append, List.getElem?_append_right (by simp)] at e1
  simp at e1
  exact e1.symm
theorem got_len {rs' : List Rw} {qs : List Pc} {q : Pc} (h1 : rs'.map Rw.xs = (qs ++ [q]).map Pc.row) : rs'.length = qs.length + 1 := by
  have := congrArg List.length h1
  simpa using this

/-- ZZApply, whatever the barrier. -/
theorem zzapply_del (base c kb n V : Nat) (fr wt : Int) (vr : Nat) (ca : Option Addr) (cn cc : Nat) (cxs : List Int) (a : Option Addr) (m cp : Nat) (ts : List Int) (w wB : World) (ps : List Pc) (K : List Int)
    (hcb : CB base c kb n V w ps K) (t : IS w a (3 * m) cp ts) (hm : m ≤ 100000) (hn : n ≤ 1000000) (hcn : cn ≤ 1000000) (hps : ps.length ≤ 1000000) (hk : ∀ k, k < cn → k * V + vr < n) (tc : IS wB ca cn cc cxs) (hB : wB.heap.size ≤ base) (hBw : Below base wB w) :
    Calls Try.prog 12 #[.pointer (some ⟨c, 0, none⟩), .int .i64 fr, .int .i64 wt, .int .i64 vr, .slice ca cn cc, .slice a (3 * m) cp] w (ZaOut base c kb n V (ps.filter (kept ts m)) fr wt vr ts (rz K V vr cxs cn) w) :=
  zzapply_any base c kb n V fr wt vr ca cn cc cxs a (3 * m) cp ts w wB ps (ps.filter (kept ts m)) K hcb t (by omega) (by omega) hn hcn hps (fun _ h => (List.mem_filter.1 h).1) (List.length_filter_le _ _) hk tc hB hBw
    (fun W pv bb va vn vc m' hm' g1 g2 g3 g4 => by
      obtain rfl : m' = m := by omega
      exact delete_any pv ps bb va vn vc m' base ts W g1 g2 hps g3 g4 (by omega))
end Go.Proofs.Qxb6613363a
