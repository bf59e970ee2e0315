/-
  walkStringLists, at whatever yield.
-/
import Derived.Test.YbulkbaygLay
import Derived.RangeFuncNested
import Derived.RangeFuncBound
import Derived.RangeFuncCalls
import Derived.RangeFuncLeaves
import Derived.Shelf.Abstract
import Derived.Shelf.RegionOpen
import Derived.OwnWalkIn
import Derived.TacticsInMore
import Derived.LoopNIn
import Derived.LoopIn
import Derived.Deep.CutRange
namespace Go.Proofs.Ybulkbayg
open Go.RowKit

/-- A list of type stringList, as it is handed to yield. -/
def Item.agg (x : Item) : Value := .agg #[.string x.blk, ptr x.p, .int .i64 x.k, ptr x.l]

theorem room_of_none {F : Fence} (hd : F.depth = none) (k : Nat) : F.room k := fun d h => by rw [hd] at h; cases h
theorem roundIn_any {m m' : Nat} {P : Program} {l : Nat} {f : FuncId} {tmps : Array Value} {assign body : Code} {w : World} {R : Ending → World → Prop}
    (h : RoundIn Fence.wide m P l f tmps assign body w R) : RoundIn Fence.wide m' P l f tmps assign body w R := ⟨h.1, fun c cs _ => h.2 c cs (room_of_none rfl _)⟩
theorem yieldAt_any {m : Nat} (m' : Nat) {P : Program} {l : Nat} {args : Array Value} {W : World} {R : Ending → World → Prop} (h : YieldAt Fence.wide m P l args W R) : YieldAt Fence.wide m' P l args W R := by
  obtain ⟨fn, tmps, assign, body, hy, hR⟩ := h
  exact ⟨fn, tmps, assign, body, hy, roundIn_any hR⟩

theorem take_one {α : Type} (ss : List α) (k : Nat) (h : k < ss.length) : ss.take (k + 1) = ss.take k ++ [ss[k]] := List.take_succ_eq_append_getElem h
theorem subItems_take (K : Nat → Int) (b : Nat) (ss : List SubN) (k : Nat) (h : k < ss.length) : subItems K b (ss.take (k + 1)) = subItems K b (ss.take k) ++ subItem K b ss[k] := by
  rw [take_one ss k h, subItems_snoc]
theorem subItems_pre (K : Nat → Int) (b : Nat) (ss : List SubN) (k : Nat) : subItems K b (ss.take k) <+: subItems K b ss := by
  conv => rhs; rw [← List.take_append_drop k ss]
  unfold subItems
  rw [List.flatMap_append]
  exact List.prefix_append _ _
theorem ne_empty (b : Nat) : (nameOf b).toList.isEmpty = false := by
  unfold nameOf; split <;> decide +kernel
theorem listKind_5 {k : Int} (h : (k == 3) = false) : listKind k = (k == 5 || k == 6) := by unfold listKind; rw [h]; rfl
theorem SubVal.split {w : World} {v : Value} {l : Option (Nat × Bool)} (h : SubVal w v l) :
    (∃ lb all, l = some (lb, all) ∧ v = .iface 35 (.pointer (some ⟨lb, 0, none⟩)) ∧ ListIn w lb all) ∨ (l = none ∧ (v = .nilIface ∨ (∃ p, v = .iface 80 (.pointer p)) ∨ (∃ p, v = .iface 83 (.pointer p)) ∨ ∃ p, v = .iface 65 (.pointer p))) := by
  rcases l with _ | ⟨lb, all⟩
  · refine .inr ⟨rfl, ?_⟩
    rcases h with h | ⟨T, p, (rfl | rfl | rfl), h⟩
    · exact .inl h
    · exact .inr (.inl ⟨p, h⟩)
    · exact .inr (.inr (.inl ⟨p, h⟩))
    · exact .inr (.inr (.inr ⟨p, h⟩))
  · exact .inl ⟨lb, all, rfl, h.1, h.2⟩
theorem subItem_kind {K : Nat → Int} {b : Nat} {s : SubN} (h : listKind (K (3 + 3 * b + s.n)) = false) : subItem K b s = [] := by
  unfold subItem
  split
  · rw [h]; rfl
  · rfl
theorem subItem_none {K : Nat → Int} {b : Nat} {s : SubN} (h : s.l = none) : subItem K b s = [] := by
  unfold subItem; rw [h]
theorem subItem_other {K : Nat → Int} {b : Nat} {s : SubN} {lb : Nat} (h : s.l = some (lb, false)) : subItem K b s = [] := by
  unfold subItem; rw [h]
theorem subItem_list {K : Nat → Int} {b : Nat} {s : SubN} {lb : Nat} (h : s.l = some (lb, true)) (hk : listKind (K (3 + 3 * b + s.n)) = true) : subItem K b s = [⟨nameOf b, s.p, K (3 + 3 * b + s.n), lb⟩] := by
  unfold subItem; rw [h]; simp only [hk]; rfl
theorem below_drewN {n : Nat} {A B : World} (h : Below n A B) (k : Nat) : Below n A (B.drewN k) := ⟨h.os, h.tape, h.output, h.size, h.block⟩
theorem TopVal.split {w : World} {v : Value} {l : Option (Nat × Bool)} {m : Option (Nat × List SubN)} (h : TopVal w v l m) :
    (∃ lb all, l = some (lb, all) ∧ v = .iface 35 (.pointer (some ⟨lb, 0, none⟩)) ∧ ListIn w lb all) ∨ (l = none ∧ ((∃ sb ss mb, m = some (sb, ss) ∧ v = .iface 65 (.pointer (some ⟨mb, 0, none⟩)) ∧
      w.heap[mb]? = some (.cells #[.string ⟨#[]⟩, .int .i64 0, .int .i64 0, .slice (some ⟨sb, 0, none⟩) ss.length ss.length] 69 (0, 0)) ∧ RowIn w sb ss) ∨ (m = none ∧ (v = .nilIface ∨ (∃ p, v = .iface 80 (.pointer p)) ∨ (∃ p, v = .iface 83 (.pointer p)))))) := by
  rcases l with _ | ⟨lb, all⟩
  · refine .inr ⟨rfl, ?_⟩
    rcases m with _ | ⟨sb, ss⟩
    · refine .inr ⟨rfl, ?_⟩
      rcases h with h | ⟨T, p, (rfl | rfl), h⟩
      · exact .inl h
      · exact .inr (.inl ⟨p, h⟩)
      · exact .inr (.inr ⟨p, h⟩)
    · obtain ⟨mb, h1, h2, h3⟩ := h
      exact .inl ⟨sb, ss, mb, rfl, h1, h2, h3⟩
  · exact .inl ⟨lb, all, rfl, h.1, h.2⟩
section
variable {K : Nat → Int} {t : TopN}
theorem topI_kind (h : listKind (K t.n) = false) (h7 : K t.n ≠ 7) : topItem K t = [] := by
  unfold topItem; rw [h]; simp [h7]
theorem topI_none (h : listKind (K t.n) = true) (hl : t.l = none) : topItem K t = [] := by
  unfold topItem; rw [h, hl]; rfl
theorem topI_other {lb : Nat} (h : listKind (K t.n) = true) (hl : t.l = some (lb, false)) : topItem K t = [] := by
  unfold topItem; rw [h, hl]; rfl
theorem topI_list {lb : Nat} (h : listKind (K t.n) = true) (hl : t.l = some (lb, true)) : topItem K t = [⟨⟨#[]⟩, t.p, K t.n, lb⟩] := by
  unfold topItem; rw [h, hl]; rfl
theorem topI_blk {sb : Nat} {ss : List SubN} (h7 : K t.n = 7) (hm : t.m = some (sb, ss)) : topItem K t = subItems K t.n ss := by
  have h : listKind 7 = false := rfl
  unfold topItem; rw [hm, h7, h]; rfl
theorem topI_free (h7 : K t.n = 7) (hm : t.m = none) : topItem K t = [] := by
  have h : listKind 7 = false := rfl
  unfold topItem; rw [hm, h7, h]; rfl
end
theorem topItems_take (K : Nat → Int) (ts : List TopN) (k : Nat) (h : k < ts.length) : topItems K (ts.take (k + 1)) = topItems K (ts.take k) ++ topItem K ts[k] := by
  rw [take_one ts k h, topItems_snoc]
theorem topItems_pre (K : Nat → Int) (ts : List TopN) (k : Nat) : topItems K (ts.take k) <+: topItems K ts := by
  conv => rhs; rw [← List.take_append_drop k ts]
  unfold topItems
  rw [List.flatMap_append]
  exact List.prefix_append _ _

end Go.Proofs.Ybulkbayg
