/-
  LawS2606AFinds.
-/
import Derived.Test.YbulkbaygIter
import Derived.Test.YbulkbaygBuild
import Derived.Maps.AppendAt
import Derived.RangeFuncBox
namespace Go.Proofs.Ybulkbayg
open Go.RowKit Go.Shelf

attribute [local go_sem] Oper.semAt_some

/-- A loop variable's box. -/
def ItemBox (W : World) (B : Nat) (x : Item) : Prop := W.heap[B]? = some (.cells x.enc.toArray 37 (0, 0))

theorem ItemBox.cell {W : World} {B : Nat} {x : Item} (h : ItemBox W B x) (j : Nat) : W.cell? ⟨B, j, none⟩ = x.enc[j]? := by
  rw [cell_of_heap h j]
  simp

theorem itemBox_own (B : Nat) (x : Item) (W W' : World) (row : Option Nat) (h : ItemBox W B x) (hg : W.grownBy W' row) (hr : ∀ r, row = some r → ∃ o : Obj, W.heap[r]? = some o ∧ o.isCells = false) : ItemBox W' B x := by
  refine (hg.block B (lt_of_heap h) fun e => ?_).trans h
  obtain ⟨o, ho, hc⟩ := hr B e.symm
  rw [show W.heap[B]? = _ from h] at ho
  cases ho
  cases hc

theorem item_cells (W : World) (x : Item) : ∀ j u, x.enc[j]? = some u → (W.alloc (.cells x.enc.toArray 37)).cell? ((⟨W.heap.size, 0, none⟩ : Addr).add j) = some u := by
  intro j u hu
  rw [show (⟨W.heap.size, 0, none⟩ : Addr).add j = ⟨W.heap.size, j, none⟩ by unfold Addr.add; split <;> simp_all]
  rw [cell_of_heap (heap_alloc_new W _) j]
  simpa using hu

set_option maxHeartbeats 4000000 in
set_option maxRecDepth 100000 in
theorem finds_any (v : Value) (ts : List TopG) (ka : Option Addr) (kc : Nat) (ks : List Int) (w : World) (h : Tops w v ts) (hk : Ints w (.slice ka ks.length kc) ks) (hmax : ts.length ≤ 9223372036854775807) :
    Calls Yba.prog 3 #[v, .slice ka ks.length kc] w fun e w' => e = .returned (.bool true) ∧ Below w.heap.size w w' := by
  have HBIG := hide (too_big v ts w h hmax)
  have HB := fun hs => hide (build_any v ts ka kc ks w h hk hs)
  obtain ⟨a, c, rfl, _, _⟩ := h
  refine (callsIn_wide (n := 5)).1 ?_
  refine callsIn_of_wp_marks Yba.func3 rfl trivial ?_ rfl
  simp only [Yba.ntmps3, List.size_toArray, List.length_cons, List.length_nil, Nat.reduceAdd, Nat.reduceSub, Array.replicate_succ, Array.replicate_zero, List.push_toArray, List.append_toArray, List.nil_append, List.cons_append]
  gi_wp2_with fail
  refine ⟨trivial, ?_⟩
  refine (callsIn_wide.2 HBIG.out).mono ?_
  rintro e w' ⟨⟨b, rfl, hb⟩, hw⟩
  obtain rfl : w = w' := hw.symm
  cases b
  case true =>
    gi_wp2
    exact ⟨_, results_tmp rfl _ _ _, rfl, Below.refl _ _⟩
  case false =>
    have HB' := HB (hb rfl)
    clear hb HB HBIG
    gi_wp2_with fail
    refine ⟨trivial, ?_⟩
    refine (callsIn_wide.2 HB'.out).mono ?_
    rintro e S0 ⟨vp, mb, vw, nodes, rfl, BU⟩
    obtain ⟨va, vc, rfl, HF⟩ := Fed.of_built BU
    obtain ⟨wa, wc, rfl, _, HW, _⟩ := Row.of_owns BU.want
    gi_wp2_with (refine ⟨trivial, ?_⟩; gi_at_call 9; refine (callsIn_wide.2 (lists_any _ _ _ _ _)).mono ?_; rintro e w' ⟨rfl, rfl⟩)
    have HW' := hide HW
    have HU := hide BU.below
    have HF' := hide HF
    have hitems := BU.items
    have hfew := BU.few
    clear BU HW HF
    obtain ⟨W1, hW1⟩ : ∃ W1, ((S0.alloc (.cells #[.slice none 0 0] 27)).alloc (.cells #[.slice va nodes.length vc] 25)).alloc (.cells #[.map (some mb)] 26) = W1 := ⟨_, rfl⟩
    have bG : Boxed W1 S0.heap.size 27 (.slice none 0 0) := by rw [← hW1]; exact ((Boxed.new S0 27 _).alloc _).alloc _
    have bP : Boxed W1 (S0.heap.size + 1) 25 (.slice va nodes.length vc) := by rw [← hW1]; have := (Boxed.new (S0.alloc (.cells #[.slice none 0 0] 27)) 25 (.slice va nodes.length vc)).alloc (.cells #[.map (some mb)] 26); rwa [World.size_alloc] at this
    have bM : Boxed W1 (S0.heap.size + 1 + 1) 26 (.map (some mb)) := by rw [← hW1]; have := Boxed.new ((S0.alloc (.cells #[.slice none 0 0] 27)).alloc (.cells #[.slice va nodes.length vc] 25)) 26 (.map (some mb)); rwa [World.size_alloc, World.size_alloc] at this
    have hB1 : Below S0.heap.size S0 W1 := by rw [← hW1]; exact (((Below.refl _ S0).alloc (Nat.le_refl _) _).alloc (by simp) _).alloc (by simp; omega) _
    have hsz : W1.heap.size = S0.heap.size + 3 := by rw [← hW1]; simp
    rw [hW1]
    clear hW1
    obtain ⟨i0, z0, hi0, hz0, hzs, h4, h40⟩ := parts37
    generalize hxs : topItems (kindAt ks) nodes = xs at *
    have hseq := all_stops (5 - 1) S0 W1 (kindAt ks) va vc mb nodes HF'.out (S0.heap.size + 1) (S0.heap.size + 1 + 1) hB1 bP.cell bM.cell
    rw [hxs] at hseq
    refine wpIn_rangeFunc_ownH (by rfl) (by omega) (gf := 19) (lb := #[.pointer (some ⟨S0.heap.size + 1, 0, none⟩), .pointer (some ⟨S0.heap.size + 1 + 1, 0, none⟩)]) rfl trivial (enters_of Yba.func19 (by kernel_rfl) rfl)
      hseq belowK_t (belowK_b (by omega)) (Below.refl _ _) (fun _ => rfl)
      (fun pre W => (∃ v, Boxed W S0.heap.size 27 v ∧ W.ownsRow S0.heap.size 37 4 v pre.length (encs pre) ∧ True) ∧ Below S0.heap.size S0 W)
      (fun _ _ _ => False)
      (OwnFrom.and (Own.from (holdsRow_own S0.heap.size S0.heap.size 27 37 4 (fun pre => pre.length) (fun pre => encs pre) (fun _ _ => True)) _) (ownFrom_below (Nat.le_refl _) (by omega)))
      (fun _ _ _ _ _ hs _ _ => hs)
      ⟨⟨_, bG, World.ownsRow_nil _ _ _ _, trivial⟩, hB1⟩
      (fun x a' W => ∃ Bx, ItemBox W Bx x ∧ a' = { tmps := #[.slice a ts.length c, .slice ka ks.length kc, undef, undef, .bool false, .slice va nodes.length vc, .map (some mb), .slice wa xs.length wc, .pointer (some ⟨S0.heap.size, 0, none⟩), .pointer (some ⟨Bx, 0, none⟩), .slice a ts.length c, .bool false, .tuple #[.slice va nodes.length vc, .map (some mb), .slice wa xs.length wc], .slice a ts.length c, .slice ka ks.length kc, .tuple #[.slice va nodes.length vc, .map (some mb), .slice wa xs.length wc], .slice va nodes.length vc, .map (some mb), .slice wa xs.length wc, .slice va nodes.length vc, .map (some mb), .func (.func 19) #[] #[.pointer (some ⟨S0.heap.size + 1, 0, none⟩), .pointer (some ⟨S0.heap.size + 1 + 1, 0, none⟩)], x.agg, undef, undef, undef, undef, undef, undef, undef], defers := [] })
      (fun x a' _ X Y row hs hg hr => by obtain ⟨Bx, h1, h2⟩ := hs; exact ⟨Bx, itemBox_own Bx x X Y row h1 hg (fun r e => (hr r e).2), h2⟩)
      ?assign ?body ?done ?stop
    case assign =>
      rintro l pre x W K ⟨⟨v, bV, rV, _⟩, hBV⟩ hK
      unfold Item.agg ptr
      gi_wp2
      refine hK _ _ ((KeepsOthers.alloc _ _).from _) ((Below.refl _ W).alloc hBV.size _) ⟨⟨v, bV.alloc _, rV.alloc _, trivial⟩, hBV.alloc hBV.size _⟩ ⟨W.heap.size, heap_alloc_new W _, rfl⟩
    case body =>
      rintro l pre x a' W hl ⟨rr, hr⟩ ⟨⟨v, bV, rV, _⟩, hBV⟩ ⟨Bx, bX, rfl⟩ hlt
      have hc := bV.cell
      have x0 := (bX.cell 0).trans (show _ = some (.string x.blk) from rfl)
      have x1 := (bX.cell 1).trans (show _ = some (.pointer (some ⟨x.p, 0, none⟩)) from rfl)
      have x2 := (bX.cell 2).trans (show _ = some (.int .i64 x.k) from rfl)
      have x3 := (bX.cell 3).trans (show _ = some (.pointer (some ⟨x.l, 0, none⟩)) from rfl)
      have hpl : pre.length ≤ 100000 := by omega
      gi_wp2_with (gi_at_builtin; refine wpListIn_append_own _ rfl _ _ 27 rfl S0.heap.size 37 i0 z0 4 40 Yba.underlying27 hi0 hz0 h4 h40 hzs (by decide) _ _ _ rfl (rV.alloc _) ⟨W.heap.size, 0, none⟩ 1 1 x.enc rfl rfl (item_cells W x) (enc_one x) (by unfold maxLen; omega) (by omega) (by have := hBV.size; simp; omega) ?_; intro v' w1 hown' hgrow _; obtain ⟨g', cap', rfl⟩ := ownsRow_succ hown'; obtain ⟨hv1, hv2, hr2, hk2, hb2⟩ := bV.appended (by decide) rV hBV.size (Nat.le_refl _) hown' hgrow; have hc1 := hv1.cell; have hf1 := hv1.frozen)
      refine ⟨hk2.from _, hb2, ⟨_, hv2, ?_, trivial⟩, hBV.trans hb2⟩
      rw [List.length_append, encs_append]
      simpa [encs] using hr2
    case done =>
      rintro D ys W hD rfl ⟨⟨v, bV, rV, _⟩, hBV⟩ hK
      have hc := bV.cell
      obtain ⟨va2, vc2, rfl, _, hrow2, _⟩ := Row.of_owns rV
      have HE := hide (equal_rows va2 wa vc2 wc ys W hrow2 (HW'.out.below hBV) (by omega))
      gi_wp2_with (refine ⟨trivial, ?_⟩; gi_at_call 10; refine (callsIn_wide.2 HE.out).mono ?_; rintro e W2 ⟨rfl, hb2⟩; have HB2 := hide hb2; clear hb2)
      have hK2 := (HB2.out.block D (lt_of_heap hK)).trans hK
      have hws : w.heap.size ≤ S0.heap.size := HU.out.size
      have hBw : Below w.heap.size w W2 := (HU.out.trans (hBV.mono hws)).trans (HB2.out.mono (Nat.le_trans hws hBV.size))
      refine ⟨by simp, .inl ⟨_, _, rfl, run_takeDeferred hK2, ?_⟩⟩
      exact ⟨_, results_tmp rfl _ _ _, rfl, hBw.trans (belowK_b (w := w) (Nat.le_refl _) W2 D _ _ (by omega) hK2 rfl rfl)⟩
    case stop =>
      rintro D c pre W _ _ h _
      exact h.elim
end Go.Proofs.Ybulkbayg
