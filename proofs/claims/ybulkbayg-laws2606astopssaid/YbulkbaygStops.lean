/-
  LawS2606AStops.
-/
import Derived.Test.YbulkbaygIter
import Derived.Test.YbulkbaygBuild
import Derived.Maps.AppendAt
import Derived.RangeFuncBox
namespace Go.Proofs.Ybulkbayg
open Go.RowKit

/-- What the closure of LawS2606AStops holds when pre has come. -/
structure Got (S0 : World) (gb tb st : Nat) (pre : List Item) (W : World) : Prop where
  got : ∃ v, Boxed W gb 27 v ∧ W.ownsRow S0.heap.size 37 4 v pre.length (encs pre)
  stop : Boxed W tb 3 (.int .i64 st)
  below : Below S0.heap.size S0 W

theorem Got.drewN {S0 : World} {gb tb st : Nat} {pre : List Item} {W : World} (h : Got S0 gb tb st pre W) (n : Nat) : Got S0 gb tb st pre (W.drewN n) := by
  obtain ⟨⟨v, h1, h2⟩, h3, h4⟩ := h
  exact ⟨⟨v, h1, h2⟩, h3, below_drewN h4 n⟩

set_option maxHeartbeats 1000000 in
theorem closure_any (S0 : World) (gb tb st : Nat) (hne : tb ≠ gb) (hgb : S0.heap.size ≤ gb) (pre : List Item) (x : Item) (W : World) (h : Got S0 gb tb st pre W) (hl : pre.length ≤ 100000) :
    Calls Yba.prog 11 #[x.agg, .pointer (some ⟨gb, 0, none⟩), .pointer (some ⟨tb, 0, none⟩)] W fun e W' => e = .returned (.bool (decide (pre.length + 1 < st))) ∧ Got S0 gb tb st (pre ++ [x]) W' ∧ Below S0.heap.size W W' := by
  obtain ⟨⟨v, bV, rV⟩, bT, hB⟩ := h
  have hbox : Below S0.heap.size W (W.alloc (.cells x.enc.toArray 37)) := (Below.refl _ W).alloc hB.size _
  obtain ⟨v', w1, hrun, hown', hgrow, _⟩ := append_item (W.alloc (.cells x.enc.toArray 37)) S0.heap.size v pre x (rV.alloc _) hl (by have := hB.size; simp; omega)
  obtain ⟨g', cap', rfl⟩ := ownsRow_succ hown'
  obtain ⟨hv1, hv2, hr2, _, hb2⟩ := (bV.alloc (.cells x.enc.toArray 37)).appended (by decide) (rV.alloc _) (by have := hB.size; simp; omega) hgb hown' hgrow
  have bT1 : Boxed w1 tb 3 (.int .i64 st) := ((bT.alloc _).alloc _).kept hgrow ((bT.alloc (.cells x.enc.toArray 37)).not_row (by decide) (rV.alloc _))
  have bT2 := bT1.other hne (.slice (some ⟨g', 0, none⟩) (pre.length + 1) cap')
  have HG : Hid (Got S0 gb tb st (pre ++ [x]) (w1.setCell ⟨gb, 0, none⟩ (.slice (some ⟨g', 0, none⟩) (pre.length + 1) cap')) ∧ Below S0.heap.size W (w1.setCell ⟨gb, 0, none⟩ (.slice (some ⟨g', 0, none⟩) (pre.length + 1) cap'))) := by
    refine ⟨⟨⟨_, hv2, ?_⟩, bT2, (hB.trans hbox).trans hb2⟩, hbox.trans hb2⟩
    rw [List.length_append, encs_append]
    simpa [encs] using hr2
  have c0 : (W.alloc (.cells x.enc.toArray 37)).cell? ⟨gb, 0, none⟩ = some v := (bV.alloc _).cell
  have c1 := hv1.cell
  have c2 := hv1.frozen
  have c3 := hv2.cell
  have c4 := bT2.cell
  have hrun' : (Builtin.append_ #[27, 27] 27 #[v, .slice (some ⟨W.heap.size + 1, 0, none⟩) 1 1]).run Yba.prog ((W.alloc (.cells #[.string x.blk, .pointer (some ⟨x.p, 0, none⟩), .int .i64 x.k, .pointer (some ⟨x.l, 0, none⟩)] 37)).alloc (.cells #[.string x.blk, .pointer (some ⟨x.p, 0, none⟩), .int .i64 x.k, .pointer (some ⟨x.l, 0, none⟩)] 37)) = .ok (.slice (some ⟨g', 0, none⟩) (pre.length + 1) cap') w1 := by
    rw [World.size_alloc] at hrun
    exact hrun
  have c0' : (W.alloc (.cells #[.string x.blk, .pointer (some ⟨x.p, 0, none⟩), .int .i64 x.k, .pointer (some ⟨x.l, 0, none⟩)] 37)).cell? ⟨gb, 0, none⟩ = some v := c0
  have hcmp : decide ((pre.length : Int) + 1 < (st : Int)) = decide (pre.length + 1 < st) := by
    by_cases h : pre.length + 1 < st
    · rw [decide_eq_true h, decide_eq_true (by omega)]
    · rw [decide_eq_false h, decide_eq_false (by omega)]
  have HC := hide hcmp
  clear c0 hrun hv1 hv2 hr2 hb2 bT1 bT2 hown' hgrow bV rV bT hbox hcmp hB
  unfold Item.agg ptr
  go_enter Yba.func11, Yba.ntmps11
  go_wp2_with (at_builtin; refine wpList_append_eq rfl (.tmp 5) (.tmp 7) 27 27 rfl rfl _ _ rfl rfl _ _ hrun' ?_)
  go_ret
  exact ⟨ret_bool HC.out, HG.out⟩

theorem take_of_pre {α : Type} {q xs : List α} (h : q <+: xs) : q = xs.take q.length := by
  obtain ⟨r, rfl⟩ := h
  simp

set_option maxHeartbeats 1000000 in
/-- The iterator, called with that closure. -/
theorem iter_stops (S0 W : World) (K : Nat → Int) (va : Option Addr) (vc mb : Nat) (ts : List TopN) (h : Fed S0 K va mb ts) (hN : (topItems K ts).length ≤ 100000) (gb tb st B1 B2 : Nat) (hne : tb ≠ gb) (hgb : S0.heap.size ≤ gb) (hst0 : 0 < st)
    (h1 : W.cell? ⟨B1, 0, none⟩ = some (.slice va ts.length vc)) (h2 : W.cell? ⟨B2, 0, none⟩ = some (.map (some mb))) (h0 : Got S0 gb tb st [] W) :
    Calls Yba.prog 19 #[.func (.func 11) #[] #[.pointer (some ⟨gb, 0, none⟩), .pointer (some ⟨tb, 0, none⟩)], .pointer (some ⟨B1, 0, none⟩), .pointer (some ⟨B2, 0, none⟩)] W fun e W' =>
      (∃ v, e = .returned v) ∧ Got S0 gb tb st ((topItems K ts).take (min st (topItems K ts).length)) W' := by
  have HT := hide (top_walkC gb tb S0 mb K h.kinds (topItems K ts).length (fun pre W => Got S0 gb tb st pre W ∧ pre.length < st) (fun pre W => Got S0 gb tb st pre W ∧ pre.length = st)
    (fun xs W n hj => ⟨hj.1.drewN n, hj.2⟩)
    (fun pre x W1 hj hl => by
      refine (closure_any S0 gb tb st hne hgb pre x W1 hj.1 (by omega)).mono ?_
      rintro e W2 ⟨rfl, hg, hb⟩
      refine ⟨_, rfl, And.intro (fun e => ⟨⟨hg, ?_⟩, hb⟩) (fun e => ⟨hg, ?_⟩)⟩
      · have := of_decide_eq_true e
        simpa using this
      · have := of_decide_eq_false e
        have := hj.2
        simp
        omega)
    va vc ts h.few h.row h.tops [] W h0.below ⟨h0, hst0⟩ (by simp))
  go_enter Yba.func19, Yba.ntmps19
  go_wp2_with fail
  refine HT.out.mono ?_
  rintro e W1 ⟨r, rfl, HR⟩
  have HR2 : Hid (Got S0 gb tb st ((topItems K ts).take (min st (topItems K ts).length)) W1) := by
    cases r
    · obtain ⟨q, hq, hx, hl⟩ := HR.out.2 rfl
      have hle := hq.length_le
      simp only [List.nil_append] at hx hl
      show Got _ _ _ _ _ _
      rw [show min st (topItems K ts).length = q.length by omega, ← take_of_pre hq]
      exact hx
    · obtain ⟨⟨hg, hl⟩, _⟩ := HR.out.1 rfl
      simp only [List.nil_append] at hg hl
      show Got _ _ _ _ _ _
      rw [show min st (topItems K ts).length = (topItems K ts).length by omega, List.take_length]
      exact hg
  clear HR HT
  go_wp2
  go_end0
  exact ⟨⟨_, rfl⟩, HR2.out⟩

theorem owns_addr {w : World} {base e size k n c : Nat} {a : Option Addr} {xs : List Value} (h : w.ownsRow base e size (.slice a n c) k xs) : a = none ∨ ∃ g, a = some ⟨g, 0, none⟩ := by
  rcases h.2 with ⟨e, _⟩ | ⟨g, cap, cur, e, _⟩
  · cases e; exact .inl rfl
  · cases e; exact .inr ⟨g, rfl⟩

set_option maxHeartbeats 4000000 in
set_option maxRecDepth 100000 in
theorem stops_any (v : Value) (ts : List TopG) (ka : Option Addr) (kc : Nat) (ks : List Int) (t : Int) (ht0 : 0 ≤ t) (ht : t ≤ 255) (w : World) (h : Tops w v ts) (hk : Ints w (.slice ka ks.length kc) ks) (hmax : ts.length ≤ 9223372036854775807) :
    Calls Yba.prog 4 #[v, .slice ka ks.length kc, .int .u8 t] w fun e w' => e = .returned (.bool true) ∧ Below w.heap.size w w' := by
  have HBIG := hide (too_big v ts w h hmax)
  have HB := fun hs => hide (build_any v ts ka kc ks w h hk hs)
  obtain ⟨a, c, rfl, _, _⟩ := h
  obtain ⟨n, hn⟩ : ∃ n : Nat, t % 8 = (n : Int) := ⟨(t % 8).toNat, by omega⟩
  have hn8 : n < 8 := by omega
  go_enter Yba.func4, Yba.ntmps4
  go_wp2_with fail
  refine HBIG.out.mono ?_
  rintro e w' ⟨⟨b, rfl, hb⟩, hw⟩
  obtain rfl : w = w' := hw.symm
  cases b
  case true =>
    go_wp2
    go_ret
    exact ⟨rfl, Below.refl _ _⟩
  case false =>
    have HB' := HB (hb rfl)
    clear hb HB HBIG
    go_wp2_with fail
    refine HB'.out.mono ?_
    rintro e S0 ⟨vp, mb, vw, nodes, rfl, BU⟩
    obtain ⟨va, vc, rfl, HF⟩ := Fed.of_built BU
    obtain ⟨wa, wc, rfl, hwc, HW, hnil⟩ := Row.of_owns BU.want
    go_wp2_with (go_at_call 9; refine (lists_any _ _ _ _ _).mono ?_; rintro e w' ⟨rfl, rfl⟩)
    have hwa := owns_addr BU.want
    have HU := hide BU.below
    have hitems := BU.items
    have hfew := BU.few
    generalize hxs : topItems (kindAt ks) nodes = xs at *
    have hxl : xs.length ≤ 100000 := by omega
    obtain ⟨W1, hW1⟩ : ∃ W1, (((S0.alloc (.cells #[.int .i64 (↑n + 1)] 3)).alloc (.cells #[.slice none 0 0] 27)).alloc (.cells #[.slice va nodes.length vc] 25)).alloc (.cells #[.map (some mb)] 26) = W1 := ⟨_, rfl⟩
    have hcast : ((n + 1 : Nat) : Int) = (n : Int) + 1 := by omega
    have bT : Boxed W1 S0.heap.size 3 (.int .i64 ((n + 1 : Nat) : Int)) := by rw [← hW1, hcast]; exact (((Boxed.new S0 3 _).alloc _).alloc _).alloc _
    have bG : Boxed W1 (S0.heap.size + 1) 27 (.slice none 0 0) := by rw [← hW1]; have := ((Boxed.new (S0.alloc (.cells #[.int .i64 (↑n + 1)] 3)) 27 (.slice none 0 0)).alloc (.cells #[.slice va nodes.length vc] 25)).alloc (.cells #[.map (some mb)] 26); rwa [World.size_alloc] at this
    have bP : Boxed W1 (S0.heap.size + 1 + 1) 25 (.slice va nodes.length vc) := by rw [← hW1]; have := (Boxed.new ((S0.alloc (.cells #[.int .i64 (↑n + 1)] 3)).alloc (.cells #[.slice none 0 0] 27)) 25 (.slice va nodes.length vc)).alloc (.cells #[.map (some mb)] 26); rwa [World.size_alloc, World.size_alloc] at this
    have bM : Boxed W1 (S0.heap.size + 1 + 1 + 1) 26 (.map (some mb)) := by rw [← hW1]; have := Boxed.new (((S0.alloc (.cells #[.int .i64 (↑n + 1)] 3)).alloc (.cells #[.slice none 0 0] 27)).alloc (.cells #[.slice va nodes.length vc] 25)) 26 (.map (some mb)); rwa [World.size_alloc, World.size_alloc, World.size_alloc] at this
    have hB1 : Below S0.heap.size S0 W1 := by rw [← hW1]; exact ((((Below.refl _ S0).alloc (Nat.le_refl _) _).alloc (by simp) _).alloc (by simp; omega) _).alloc (by simp; omega) _
    have hit := iter_stops S0 W1 (kindAt ks) va vc mb nodes HF (by rw [hxs]; exact hxl) (S0.heap.size + 1) S0.heap.size (n + 1) (S0.heap.size + 1 + 1) (S0.heap.size + 1 + 1 + 1) (by omega) (by omega) (by omega) bP.cell bM.cell ⟨⟨_, bG, World.ownsRow_nil _ _ _ _⟩, bT, hB1⟩
    rw [hxs] at hit
    have HIT := hide hit
    rw [hW1]
    have HW' := hide HW
    clear hW1 bT bG bP bM hit hn HW HF BU HB' hxs
    refine HIT.out.mono ?_
    rintro e W2 ⟨⟨v, rfl⟩, G⟩
    obtain ⟨m, hm⟩ : ∃ m, min (n + 1) xs.length = m := ⟨_, rfl⟩
    rw [hm] at G
    have hql : (xs.take m).length = m := by simp; omega
    have HW2 := hide ((HW'.out.below G.below).take m)
    generalize xs.take m = q at *
    obtain ⟨⟨vg, bV, rV⟩, bT, hB2⟩ := G
    obtain ⟨ga, gc, rfl, _, hrow2, _⟩ := Row.of_owns rV
    rw [hql] at bV
    have hc1 := bV.cell
    have hc2 := bT.cell
    rw [hcast] at hc2
    have HROW := hide hrow2
    have HB2 := hide hB2
    have HBV := hide bV
    have HE : Hid (∀ W, Below W2.heap.size W2 W → Calls Yba.prog 10 #[.slice ga m gc, .slice wa m wc] W fun e w' => e = .returned (.bool true) ∧ Below W.heap.size W w') := by
      intro W hw
      have := equal_rows ga wa gc wc q W (HROW.out.below hw) (HW2.out.below hw) (by omega)
      rw [hql] at this
      exact this
    have HUW : Hid (Below w.heap.size w W2) := HU.out.trans (HB2.out.mono HU.out.size)
    clear rV hrow2 HIT bT hcast bV HW2 HROW HW' hB2 hB1 HB2 HU hql
    by_cases hle : n + 1 ≤ xs.length
    · obtain rfl : n + 1 = m := by omega
      clear hm
      rcases hwa with rfl | ⟨g, rfl⟩
      · have := (hnil rfl).1
        subst this
        simp at hle
      · clear hnil
        go_upto_region 9 with fail
        have z1 : (0 : Int) ≤ (n : Int) + 1 := by omega
        have z2 : (n : Int) + 1 ≤ (wc : Int) := by omega
        go_region_held3 (fun w' => w'.cell? ⟨S0.heap.size + 1, 0, none⟩ = some (.slice ga (n + 1) gc)) (go_keep) (first | (go_at_call 10; refine (HE.out _ ((Below.refl _ _).drew)).mono ?_; rintro e W3 ⟨rfl, hb3⟩; have HB3 := hide hb3; have q9 := (HB3.out.cell (p := ⟨S0.heap.size + 1, 0, none⟩) (show _ < W2.drew.heap.size from HBV.out.lt)).trans (show W2.drew.cell? _ = _ from HBV.out.cell); clear hb3))
        all_goals
          go_wp2
          go_ret
          exact ⟨rfl, (HUW.out.drew).trans (HB3.out.mono HUW.out.size)⟩
    · obtain rfl : xs.length = m := by omega
      clear hm
      rcases hwa with rfl | ⟨g, rfl⟩
      · obtain ⟨rfl, rfl⟩ := hnil rfl
        clear hnil
        go_upto_region 9 with fail
        go_region_held3 (fun w' => w'.cell? ⟨S0.heap.size + 1, 0, none⟩ = some (.slice ga 0 gc)) (go_keep) (first | (go_at_call 10; refine (HE.out _ ((Below.refl _ _).drew)).mono ?_; rintro e W3 ⟨rfl, hb3⟩; have HB3 := hide hb3; have q9 := (HB3.out.cell (p := ⟨S0.heap.size + 1, 0, none⟩) (show _ < W2.drew.heap.size from HBV.out.lt)).trans (show W2.drew.cell? _ = _ from HBV.out.cell); clear hb3))
        all_goals
          go_wp2
          go_ret
          exact ⟨rfl, (HUW.out.drew).trans (HB3.out.mono HUW.out.size)⟩
      · clear hnil
        generalize xs.length = L at *
        go_upto_region 9 with fail
        have z1 : (0 : Int) ≤ (L : Int) := by omega
        have z2 : (L : Int) ≤ (wc : Int) := by omega
        go_region_held3 (fun w' => w'.cell? ⟨S0.heap.size + 1, 0, none⟩ = some (.slice ga L gc)) (go_keep) (first | (go_at_call 10; refine (HE.out _ ((Below.refl _ _).drew)).mono ?_; rintro e W3 ⟨rfl, hb3⟩; have HB3 := hide hb3; have q9 := (HB3.out.cell (p := ⟨S0.heap.size + 1, 0, none⟩) (show _ < W2.drew.heap.size from HBV.out.lt)).trans (show W2.drew.cell? _ = _ from HBV.out.cell); clear hb3))
        all_goals
          go_wp2
          go_ret
          exact ⟨rfl, (HUW.out.drew).trans (HB3.out.mono HUW.out.size)⟩
end Go.Proofs.Ybulkbayg
