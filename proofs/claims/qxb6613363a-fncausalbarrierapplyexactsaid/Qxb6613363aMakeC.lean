/-
  What a barrier's memory holds, and the maker ZZNewCausalBarrier.
-/
import Derived.Test.Qxb6613363aMakeB
import Derived.Deep.Onto
namespace Go.Proofs.Qxb6613363a
open Go.RowKit Go.Deep

/-- A precedent: its three numbers, its barrier's value, length and numbers. -/
structure Pc where
  x : Int
  y : Int
  z : Int
  v : Value
  m : Nat
  ts : List Int

/-- A precedent's four cells. -/
def Pc.four (p : Pc) : List Value := [.int .i64 p.x, .int .i64 p.y, .int .i64 p.z, p.v]
/-- A precedent in the flat row form. -/
def Pc.row (p : Pc) : List Int := p.x :: p.y :: p.z :: p.ts
def flat (ps : List Pc) : List Value := ps.flatMap Pc.four

theorem flat_append (ps qs : List Pc) : flat (ps ++ qs) = flat ps ++ flat qs := by simp [flat, List.flatMap_append]

/-- Each precedent's barrier lies in memory of its own. -/
def Sts (w : World) (base : Nat) (ps : List Pc) : Prop := ∀ p ∈ ps, w.ownsRow base 42 3 p.v p.m (p.ts.map (Value.int .i64))

theorem own_tags {w : World} {b1 b2 e1 e2 s1 s2 n1 n2 : Nat} {v1 v2 : Value} {x1 x2 : List Value} (h1 : w.ownsRow b1 e1 s1 v1 n1 x1) (h2 : w.ownsRow b2 e2 s2 v2 n2 x2) (he : e1 ≠ e2) : v1.ownBlock = none ∨ v1.ownBlock ≠ v2.ownBlock := by
  rcases h1.2 with ⟨e, _⟩ | ⟨g, cap, cur, e, _, hg, _⟩
  · left; rw [e]; rfl
  · right
    rcases h2.2 with ⟨e', _⟩ | ⟨g', cap', cur', e', _, hg', _⟩
    · rw [e, e']; simp [Value.ownBlock]
    · rw [e, e']; simp only [Value.ownBlock, ne_eq, Option.some.injEq]
      intro hgg
      subst hgg
      rw [hg] at hg'
      simp at hg'
      exact he hg'.2

theorem Sts.kept {w w' : World} {base b2 e2 s2 n2 : Nat} {ps : List Pc} {v2 : Value} {x2 : List Value} (h : Sts w base ps) (h2 : w.ownsRow b2 e2 s2 v2 n2 x2) (he : 42 ≠ e2) (hg : w.grownBy w' v2.ownBlock) : Sts w' base ps :=
  fun p hp => (h p hp).kept hg (own_tags (h p hp) h2 he)
theorem Sts.alloc {w : World} {base : Nat} {ps : List Pc} (h : Sts w base ps) (o : Obj) : Sts (w.alloc o) base ps := fun p hp => (h p hp).alloc o
theorem own_below {w w' : World} {base e size n : Nat} {v : Value} {xs : List Value} (h : w.ownsRow base e size v n xs) (hb : Below w.heap.size w w') : w'.ownsRow base e size v n xs := by
  refine ⟨h.1, ?_⟩
  rcases h.2 with hn | ⟨g, cap, cur, e1, h1, hg, rest⟩
  · exact .inl hn
  · refine .inr ⟨g, cap, cur, e1, h1, ?_, rest⟩
    rw [hb.block g ?_]; exact hg
    by_cases hlt : g < w.heap.size
    · exact hlt
    · rw [Array.getElem?_eq_none (by omega)] at hg; cases hg
theorem Sts.below {w w' : World} {base : Nat} {ps : List Pc} (h : Sts w base ps) (hb : Below w.heap.size w w') : Sts w' base ps := fun p hp => own_below (h p hp) hb
theorem Sts.mono {w : World} {base base' : Nat} {ps : List Pc} (h : Sts w base ps) (hb : base' ≤ base) : Sts w base' ps := fun p hp => World.ownsRow.mono (h p hp) hb

theorem info46 : (Try.prog.info? 46).map (fun i => (i.zero, i.size, i.bytes)) = some (some (.agg #[.int .i64 0, .int .i64 0, .int .i64 0, .slice none 0 0]), 4, 48) := by kernel_rfl
theorem neqnil22 (a : Addr) (n c : Nat) (w : World) : (binOp .neq 22 (.slice (some a) n c) (.slice none 0 0)).run Try.prog w = .ok (.bool true) w := by kernel_rfl
theorem neqnil22' (w : World) : (binOp .neq 22 (.slice none 0 0) (.slice none 0 0)).run Try.prog w = .ok (.bool false) w := by kernel_rfl

theorem own_slice {w : World} {base e size n : Nat} {v : Value} {xs : List Value} (h : w.ownsRow base e size v n xs) : ∃ a n c, v = .slice a n c := by
  rcases h.2 with ⟨e, _⟩ | ⟨g, cap, cur, e, _⟩
  · exact ⟨_, _, _, e⟩
  · exact ⟨_, _, _, e⟩

theorem IS.below2 {w w' : World} {B : Nat} {a : Option Addr} {n c : Nat} {xs : List Int} (t : IS w a n c xs) (h : Below B w w') (hB : w.heap.size ≤ B := by exact Nat.le_refl _) : IS w' a n c xs := t.below (h.mono hB)

theorem IS.tail3 {w : World} {b o : Nat} {n c : Nat} {x0 x1 x2 : Int} {ts : List Int} (t : IS w (some ⟨b, o, none⟩) n c (x0 :: x1 :: x2 :: ts)) (h : 3 ≤ n) :
    ((c = 3 ∧ n = 3) ∧ IS w (some ⟨b, o, none⟩) 0 0 ts) ∨ ((c ≠ 3 ∧ (n - 3) % 3 = (n - 3) % 3) ∧ IS w (some ⟨b, o + 3, none⟩) (n - 3) (c - 3) ts) := by
  have hl := t.len
  have hc := t.cap
  have hm := t.max
  simp at hl
  by_cases e : c = 3
  · exact .inl ⟨⟨e, by omega⟩, by omega, by omega, by omega, (fun e => by cases e), .inl (by omega)⟩
  · refine .inr ⟨⟨e, rfl⟩, by omega, by omega, by omega, (fun e => by cases e), ?_⟩
    right
    rcases t.lies with e2 | ⟨b', o', e', hb, hcl⟩
    · omega
    · cases e'
      refine ⟨b, o + 3, rfl, hb, fun i hi => ?_⟩
      rw [show o + 3 + i = o + (i + 3) by omega, hcl (i + 3) (by omega)]
      simp

/-- What ZZNewCausalBarrier gives back. -/
structure NewOut (rs : List Rw) (V : Int) (kv : Value) (w : World) (e : Ending) (w' : World) : Prop where
  ex : ∃ c ps pv f, e = .returned (.pointer (some ⟨c, 0, none⟩)) ∧ w.heap.size ≤ c ∧ ps.map Pc.row = rs.map Rw.xs ∧ w'.rowIs c 50 8 f ∧ f 2 = .int .i64 V ∧ f 6 = pv ∧ f 7 = kv ∧
    w'.ownsRow w.heap.size 46 4 pv ps.length (flat ps) ∧ Sts w' w.heap.size ps ∧ Below w.heap.size w w'

theorem newRow (w : World) (a b c d e f g h : Value) : (w.alloc (.cells #[a, b, c, d, e, f, g, h] 50)).rowIs w.heap.size 50 8 (fun i => #[a, b, c, d, e, f, g, h].getD i a) :=
  World.rowIs_alloc w #[a, b, c, d, e, f, g, h] 50 _ (fun i hi => by
    rw [Array.getElem?_eq_getElem hi]; congr 1; simp only [Array.getD, dif_pos hi]; rfl)

set_option maxRecDepth 100000 in
set_option maxHeartbeats 1000000 in
theorem new_any (site sites V : Int) (ws : Bool) (wrs : Int) (a : Option Addr) (n c : Nat) (rs : List Rw) (ka : Option Addr) (kn kc : Nat) (w : World) (t : ISS w a n c rs) (hn : n ≤ 4096)
    (hr : ∀ r ∈ rs, r.n ≤ 1000000 ∧ 3 ≤ r.n ∧ (r.n - 3) % 3 = 0) :
    Calls Try.prog 11 #[.int .i64 site, .int .i64 sites, .int .i64 V, .bool ws, .int .i64 wrs, .slice a n c, .slice ka kn kc] w (NewOut rs V (.slice ka kn kc) w) := by
  cases a with
  | none =>
    have hen := neqnil22'
    have hc0 := t.nil rfl
    have hcap := t.cap
    have hl := t.len
    obtain rfl : n = 0 := by omega
    subst hc0
    obtain rfl : rs = [] := List.eq_nil_of_length_eq_zero hl
    have HF : Hid (NewOut [] V (.slice ka kn kc) w (.returned (.pointer (some ⟨w.heap.size, 0, none⟩))) (w.alloc (.cells #[.int .i64 site, .int .i64 sites, .int .i64 V, .int .i64 sites, .bool ws, .int .i64 wrs, .slice none 0 0, .slice ka kn kc] 50))) :=
      ⟨_, [], _, _, rfl, Nat.le_refl _, rfl, newRow w _ _ _ _ _ _ _ _, rfl, rfl, rfl, World.ownsRow_nil _ _ _ _, (fun p hp => by cases hp), (Below.refl _ _).alloc (Nat.le_refl _) _⟩
    clear t hr
    go_enter Try.func11, Try.ntmps11
    go_wp2
    go_ret
    exact HF.out
  | some ad =>
    have hen := neqnil22
    have hcap := t.cap
    have HL : Hid (rs.length = n) := t.len
    have HT : Hid (ISS w (some ad) n c rs) := t
    have HR : Hid (∀ r ∈ rs, r.n ≤ 1000000 ∧ 3 ≤ r.n ∧ (r.n - 3) % 3 = 0) := hr
    obtain ⟨i0, hi, hz0, hz1, hz2⟩ := info_parts info46
    clear t hr
    go_enter Try.func11, Try.ntmps11
    go_wp2_with (at_make; refine wpList_make_own _ rfl (.const (.int .i64 0)) (.tmp 21) 40 rfl w.heap.size 46 i0 _ 4 Try.underlying40 hi hz0 hz1 .i64 .i64 _ n rfl rfl (by omega) (by rw [hz2]; omega) (by unfold maxLen; omega) (Nat.le_refl _) ?_; intro w3 hown3 hgr3)
    have b3 : Below w.heap.size w w3 := (Below.refl _ w).grown hgr3 (Nat.le_refl _) (fun k h => by cases h)
    go_loopw [15, 25] (fun v i wr => ∃ k : Nat, k ≤ n ∧ i = .int .i64 k ∧ Below w.heap.size w wr ∧ Hid (∃ ps : List Pc, ps.length = k ∧ ps.map Pc.row = (rs.take k).map Rw.xs ∧ wr.ownsRow w.heap.size 46 4 v ps.length (flat ps) ∧ Sts wr w.heap.size ps)) (fun _ i _ => n - (intOf i).toNat)
    case atStart => exact ⟨0, by omega, rfl, b3, [], rfl, rfl, hown3, fun p hp => by cases hp⟩
    case round =>
      obtain ⟨k, hk, rfl, hbel, hps⟩ := hrel
      by_cases hlt : k < n
      · obtain ⟨r, hrk, b, o, hspot, hbl, hc⟩ : ∃ r, rs[k]? = some r ∧ ∃ b o, ad = ⟨b, o, none⟩ ∧ b < w.heap.size ∧ w.cell? ⟨b, o + k, none⟩ = some (.slice r.a r.n r.c) := by
          rcases HT.out.lies with e | ⟨b, o, e, h1, h2⟩
          · omega
          · cases e; exact ⟨rs[k]'(by rw [HL.out]; omega), List.getElem?_eq_getElem _, b, o, rfl, h1, h2 k (by rw [HL.out]; omega)⟩
        subst hspot
        have hrm := List.mem_of_getElem? hrk
        have HRK : Hid (rs[k]? = some r) := hrk
        clear hrk
        obtain ⟨hr1, hr2, hr3⟩ := HR.out r hrm
        have HX : Hid (IS w r.a r.n r.c r.xs) := HT.out.row r hrm
        obtain ⟨ra, rn, rc, rx⟩ := r
        dsimp only at hc hr1 hr2 hr3 HX
        have hrc := HX.out.cap
        obtain ⟨rb, ro, rfl, hrb, hrl⟩ : ∃ rb ro, ra = some ⟨rb, ro, none⟩ ∧ rb < w.heap.size ∧ ∀ i, i < rn → w.cell? ⟨rb, ro + i, none⟩ = some (.int .i64 (rx.getD i 0)) := by
          rcases HX.out.lies with e | ⟨b, o, e, h1, h2⟩
          · omega
          · exact ⟨b, o, e, h1, h2⟩
        have hc' : wr.cell? ⟨b, o + k, none⟩ = _ := (hbel.cell (p := ⟨b, o + k, none⟩) hbl).trans hc
        have hc0 : wr.cell? ⟨rb, ro, none⟩ = _ := (hbel.cell (p := ⟨rb, ro, none⟩) hrb).trans (hrl 0 (by omega))
        have hc1 : wr.cell? ⟨rb, ro + 1, none⟩ = _ := (hbel.cell (p := ⟨rb, ro + 1, none⟩) hrb).trans (hrl 1 (by omega))
        have hc2 : wr.cell? ⟨rb, ro + 2, none⟩ = _ := (hbel.cell (p := ⟨rb, ro + 2, none⟩) hrb).trans (hrl 2 (by omega))
        clear hc hrl
        obtain ⟨x0, x1, x2, ts, rfl⟩ : ∃ x0 x1 x2 ts, rx = x0 :: x1 :: x2 :: ts := by
          have hl := HX.out.len
          match rx, hl with
          | [], hl => simp at hl; omega
          | [_], hl => simp at hl; omega
          | [_, _], hl => simp at hl; omega
          | x0 :: x1 :: x2 :: ts, _ => exact ⟨x0, x1, x2, ts, rfl⟩
        have hc0 : wr.cell? ⟨rb, ro, none⟩ = some (.int .i64 x0) := hc0
        have hc1 : wr.cell? ⟨rb, ro + 1, none⟩ = some (.int .i64 x1) := hc1
        have hc2 : wr.cell? ⟨rb, ro + 2, none⟩ = some (.int .i64 x2) := hc2
        obtain ⟨ps, hpl, hpr, hown, hst⟩ := hps.out
        obtain ⟨L, hL⟩ : ∃ L, L = flat ps := ⟨_, rfl⟩
        rw [← hL, hpl] at hown
        have HLL : Hid (L = flat ps) := hL
        have HPR : Hid (ps.map Pc.row = (rs.take k).map Rw.xs) := hpr
        have HST : Hid (Sts wr w.heap.size ps) := hst
        clear hps hL hpr hst
        have hbs := hbel.size
        have hne := own_ne hown hrb
        have g0 : 0 < rn := by omega
        have g1 : (1:Int) < (rn:Int) := by omega
        have g2 : (2:Int) < (rn:Int) := by omega
        have g3 : (3:Int) ≤ (rn:Int) := by omega
        have g4 : (rn:Int) ≤ (rc:Int) := by omega
        rcases IS.tail3 HX.out hr2 with ⟨⟨e3, e4⟩, HI0⟩ | ⟨⟨e3, e4⟩, HI0⟩
        all_goals
          have HI : Hid (IS wr.drew _ _ _ _) := HI0.below2 hbel.drew
          clear HI0
          first
          | (subst e3; subst e4)
          | clear e4
          go_wp2_with fail
          go_region_held3 (fun w' => w'.cell? ⟨rb, ro, none⟩ = some (.int .i64 x0) ∧ w'.cell? ⟨rb, ro + 1, none⟩ = some (.int .i64 x1) ∧ w'.cell? ⟨rb, ro + 2, none⟩ = some (.int .i64 x2))
            (first
              | (exact ⟨(hb1.cell (p := ⟨rb, ro, none⟩) (Nat.lt_of_lt_of_le hrb hbs)).trans hc0, (hb1.cell (p := ⟨rb, ro + 1, none⟩) (Nat.lt_of_lt_of_le hrb hbs)).trans hc1, (hb1.cell (p := ⟨rb, ro + 2, none⟩) (Nat.lt_of_lt_of_le hrb hbs)).trans hc2⟩)
              | go_keep
              | (go_split_ands
                 refine ⟨?_, ?_, ?_⟩
                 · (rw [hgrow.cell_far _ (by simp; omega) (Ne.symm hne)]; assumption)
                 · (rw [hgrow.cell_far _ (by simp; omega) (Ne.symm hne)]; assumption)
                 · (rw [hgrow.cell_far _ (by simp; omega) (Ne.symm hne)]; assumption)))
            (first
              | (go_at_call 23
                 refine (stamps_any _ _ _ ts _ HI.out (by first | exact hr3 | decide) (by omega)).mono ?_
                 rintro e w1 ⟨⟨v, m, rfl, hm, hov, hb1⟩⟩
                 clear hm
                 obtain ⟨va, vn, vc, rfl⟩ := own_slice hov
                 have hs1 : wr.heap.size ≤ w1.heap.size := hb1.size)
              | (refine step_append_lies _ (by rfl) _ _ _ (by rfl) w.heap.size 46 i0 _ 4 48 Try.underlying40 hi hz0 hz1 hz2 rfl (by omega) u15 k L (by rfl) (((own_below hown.drew hb1).alloc _).drew)
                  ⟨w1.heap.size, 0, none⟩ 1 1 [.int .i64 x0, .int .i64 x1, .int .i64 x2, .slice va vn vc] (by rfl) (by rfl) (World.news_of_block (cs := #[.int .i64 x0, .int .i64 x1, .int .i64 x2, .slice va vn vc]) (t := 46) (fr := (0, 0)) (heap_alloc_new w1 _)) (by simp [Value.oneCell'])
                  (by omega) (by unfold maxLen; omega) (by omega) (by simp; omega) (w1.heap.size + 1) (by simp) ?_
                 intro gg cap w2 hown1 hgrow hat hlt))
          have hb2 : Below w.heap.size w w2 := by
            refine ((hbel.drew.trans (hb1.mono hbs)).alloc (Nat.le_trans hbs hs1) _).grown hgrow ?_ (fun g hg => own_ge hown hg)
            simp; omega
          have hown0 := ((own_below hown.drew hb1).alloc (.cells #[.int .i64 x0, .int .i64 x1, .int .i64 x2, .slice va vn vc] 46))
          have hst2 : Sts w2 w.heap.size (ps ++ [⟨x0, x1, x2, .slice va vn vc, m, ts⟩]) := by
            have h1 : Sts w1 w.heap.size (ps ++ [⟨x0, x1, x2, .slice va vn vc, m, ts⟩]) := by
              intro p hp
              rcases List.mem_append.mp hp with hp | hp
              · exact Sts.below (w := wr.drew) HST.out hb1 p hp
              · rw [List.mem_singleton.mp hp]
                exact World.ownsRow.mono hov hbs
            exact Sts.kept (h1.alloc _) hown0 (by decide) hgrow
          have hrow2 : (ps ++ [(⟨x0, x1, x2, .slice va vn vc, m, ts⟩ : Pc)]).map Pc.row = (rs.take (k + 1)).map Rw.xs := by
            rw [List.take_add_one, HRK.out, List.map_append, List.map_append, HPR.out]
            rfl
          have hown2 : w2.ownsRow w.heap.size 46 4 (.slice (some ⟨gg, 0, none⟩) (k + 1) cap) (ps ++ [(⟨x0, x1, x2, .slice va vn vc, m, ts⟩ : Pc)]).length (flat (ps ++ [⟨x0, x1, x2, .slice va vn vc, m, ts⟩])) := by
            rw [flat_append, ← HLL.out, List.length_append, hpl]
            exact hown1
          clear hown0 hov hown1
          go_wp2
          go_roundw
          case rel => exact ⟨k + 1, by omega, by go_num, hb2, _, by rw [List.length_append, hpl]; rfl, hrow2, hown2, hst2⟩
          case measure => simp [intOf]; omega
      · obtain rfl : k = n := by omega
        obtain ⟨ps, hpl, hpr, hown, hst⟩ := hps.out
        obtain ⟨va, vn, vc, rfl⟩ := own_slice hown
        have HF : Hid (NewOut rs V (.slice ka kn kc) w (.returned (.pointer (some ⟨wr.heap.size, 0, none⟩))) (wr.alloc (.cells #[.int .i64 site, .int .i64 sites, .int .i64 V, .int .i64 sites, .bool ws, .int .i64 wrs, .slice va vn vc, .slice ka kn kc] 50))) := by
          rw [List.take_of_length_le (by rw [HL.out]; omega)] at hpr
          exact ⟨_, ps, _, _, rfl, hbel.size, hpr, newRow wr _ _ _ _ _ _ _ _, rfl, rfl, rfl, hown.alloc _, hst.alloc _, hbel.alloc hbel.size _⟩
        clear hown hst hps
        go_wp2
        go_ret
        exact HF.out
end Go.Proofs.Qxb6613363a
