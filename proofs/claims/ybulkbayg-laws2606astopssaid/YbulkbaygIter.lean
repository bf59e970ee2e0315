/-
  stringLists: the iterator's contracts.
-/
import Derived.Test.YbulkbaygWalk
import Derived.Test.YbulkbaygWalkC
import Derived.Test.YbulkbaygEqual
namespace Go.Proofs.Ybulkbayg
open Go.RowKit

/-- What the iterator reads. -/
structure Fed (S0 : World) (K : Nat → Int) (va : Option Addr) (mb : Nat) (ts : List TopN) : Prop where
  kinds : Kinds S0 mb 12 K
  few : ts.length ≤ 256
  row : ∀ k (h : k < ts.length), ∃ g, va = some ⟨g, 0, none⟩ ∧ g < S0.heap.size ∧ S0.cell? ⟨g, k, none⟩ = some (ptr ts[k].p)
  tops : ∀ t ∈ ts, TopIn S0 t

theorem Fed.of_built {K : Nat → Int} {w S0 : World} {vp vw : Value} {mb : Nat} {ts : List TopN} (h : Built K w vp mb vw ts S0) : ∃ va vc, vp = .slice va ts.length vc ∧ Fed S0 K va mb ts := by
  have h2 := h.props.2
  rcases h2 with ⟨e, e0⟩ | ⟨g, cap, cur, e, _, hh, _⟩
  · have : ts = [] := List.eq_nil_of_length_eq_zero e0
    subst this
    exact ⟨_, _, e, h.kinds, h.few, (fun k hk => by simp at hk), h.tops⟩
  · refine ⟨_, _, e, h.kinds, h.few, fun k hk => ⟨g, rfl, lt_of_heap hh, ?_⟩, h.tops⟩
    have := h.props.cells (g := g) (by rw [e]; rfl) k (ptr ts[k].p) (by simp [topPtrs, hk])
    rwa [show (⟨g, 0, none⟩ : Addr).add k = ⟨g, k, none⟩ by unfold Addr.add; split <;> simp_all] at this

set_option maxHeartbeats 1000000 in
/-- stringLists. -/
theorem lists_any (va : Option Addr) (n c mb : Nat) (w : World) : Calls Yba.prog 9 #[.slice va n c, .map (some mb)] w fun e w' =>
    e = .returned (.func (.func 19) #[] #[.pointer (some ⟨w.heap.size, 0, none⟩), .pointer (some ⟨w.heap.size + 1, 0, none⟩)]) ∧ w' = (w.alloc (.cells #[.slice va n c] 25)).alloc (.cells #[.map (some mb)] 26) := by
  go_enter Yba.func9, Yba.ntmps9
  go_wp2
  go_ret
  exact ⟨rfl, rfl⟩

set_option maxHeartbeats 1000000 in
/-- The iterator keeps its word. -/
theorem all_stops (n : Nat) (S0 w : World) (K : Nat → Int) (va : Option Addr) (vc mb : Nat) (ts : List TopN) (h : Fed S0 K va mb ts) (B1 B2 : Nat) (hb : Below S0.heap.size S0 w) (h1 : w.cell? ⟨B1, 0, none⟩ = some (.slice va ts.length vc)) (h2 : w.cell? ⟨B2, 0, none⟩ = some (.map (some mb))) :
    SeqStopsK Fence.wide n Yba.prog 19 #[.pointer (some ⟨B1, 0, none⟩), .pointer (some ⟨B2, 0, none⟩)] (fun x : Item => #[x.agg]) (Below S0.heap.size) (fun ys => ys = topItems K ts) (fun pre => pre <+: topItems K ts) (topItems K ts).length w := by
  intro l J Jx W hW hJ _ hY h0
  have hA : ∀ xs W n, J xs W → J xs (World.drewN W n) := fun xs W n hj => hJ xs W _ none hj ⟨rfl, rfl, rfl, Nat.le_refl _, fun _ _ _ => rfl⟩ (fun r e => by cases e)
  have c1 := (hW.cell (p := ⟨B1, 0, none⟩) (World.block_lt_of_cell? _ _ h1)).trans h1
  have c2 := (hW.cell (p := ⟨B2, 0, none⟩) (World.block_lt_of_cell? _ _ h2)).trans h2
  have HT := hide (top_walk l S0 mb K h.kinds (topItems K ts).length J Jx hA
    (fun pre x W1 hj hl => YieldAt.mono (yieldAt_any 0 (hY pre x W1 hj hl)) (fun e W' h => h.elim (fun ⟨he, hj, hk⟩ => ⟨true, he, And.intro (fun _ => ⟨hj, hk⟩) (fun h => nomatch h)⟩) (fun ⟨he, hx⟩ => ⟨false, he, And.intro (fun h => nomatch h) (fun _ => hx)⟩)))
    va vc ts h.few h.row h.tops [] W (hb.trans (hW.mono hb.size)) h0 (by simp))
  refine callsIn_wide.2 ?_
  clear h1 h2 hY hA hJ
  go_enter Yba.func19, Yba.ntmps19
  go_wp2_with fail
  refine HT.out.mono ?_
  rintro e W1 ⟨r, rfl, HR⟩
  have HR2 : Hid ((∃ xs, xs = topItems K ts ∧ J xs W1) ∨ (∃ pre, pre <+: topItems K ts ∧ Jx pre W1)) := by
    cases r
    · obtain ⟨q, hq, hx⟩ := HR.out.2 rfl
      exact .inr ⟨q, hq, hx⟩
    · exact .inl ⟨_, rfl, (HR.out.1 rfl).1⟩
  clear HR HT
  go_wp2
  go_end0
  exact ⟨⟨_, rfl⟩, HR2.out⟩
end Go.Proofs.Ybulkbayg
