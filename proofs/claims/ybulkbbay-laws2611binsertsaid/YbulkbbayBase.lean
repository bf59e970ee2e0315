/-
  Rows in memory; sorted lists of strings.
-/
import Derived.Test.YbulkbbayRows
import Derived.WalkKit
import Derived.WalkSpells
import Derived.WalkLawsBesides
import Derived.Deep.LoopGhost
import Derived.Deep.OwnRows
import Derived.Deep.Upon
import Derived.Laws.IdiomCopy
import Derived.Laws.MakeOwn
import Derived.ArgAppend
import Derived.Below
import Derived.Sort.OwnSorted
import Derived.Sort.Walk0
import Derived.Lib.SlicesCompact
import Derived.Lib.RowBridge
namespace Go.Proofs.Ybulkbbay
open Go.RowKit

theorem hide {p : Prop} (h : p) : Hid p := h
theorem ret_bool {a b : Bool} (h : a = b) : Ending.returned (.bool a) = .returned (.bool b) := by rw [h]
theorem lt_of_heap {w : World} {b : Nat} {o : Obj} (h : w.heap[b]? = some o) : b < w.heap.size := (Array.getElem?_eq_some_iff.1 h).1
theorem below_drewN {n : Nat} {A B : World} (h : Below n A B) (k : Nat) : Below n A (B.drewN k) := ⟨h.os, h.tape, h.output, h.size, h.block⟩

/-- Block g is a row of cap cells of type t; its first hold vs. -/
structure Row (W : World) (g cap : Nat) (t : TypeId) (vs : List Value) : Prop where
  blk : ∃ cur : Array Value, W.heap[g]? = some (.cells cur t (0, 0)) ∧ cur.size = cap
  le : vs.length ≤ cap
  at_ : ∀ j v, vs[j]? = some v → W.cell? ⟨g, j, none⟩ = some v

theorem cell_of_heap {w : World} {b : Nat} {cs : Array Value} {t : TypeId} (h : w.heap[b]? = some (.cells cs t (0, 0))) (j : Nat) : w.cell? ⟨b, j, none⟩ = cs[j]? := by simp [World.cell?, h]

section
variable {W : World} {g cap : Nat} {t : TypeId} {vs : List Value}
theorem Row.lt (h : Row W g cap t vs) : g < W.heap.size := by obtain ⟨cur, hh, _⟩ := h.blk; exact lt_of_heap hh
theorem Row.some_ (h : Row W g cap t vs) (j : Nat) (hj : j < cap) : (W.cell? ⟨g, j, none⟩).isSome = true := by
  obtain ⟨cur, hh, hs⟩ := h.blk
  rw [cell_of_heap hh j, Array.getElem?_eq_getElem (by omega)]; rfl
theorem Row.frozen (h : Row W g cap t vs) (j : Nat) : W.frozen? ⟨g, j, none⟩ = false := by
  obtain ⟨cur, hh, _⟩ := h.blk
  simp [World.frozen?, hh]
theorem Row.shape (h : Row W g cap t vs) : W.shape? g = some (t, cap) := by
  obtain ⟨cur, hh, hs⟩ := h.blk
  simp [World.shape?, hh, hs]
theorem Row.of_take {cur : Array Value} (hb : W.heap[g]? = some (.cells cur t (0, 0))) (hs : cur.size = cap) (hl : vs.length ≤ cap) (ht : cur.toList.take vs.length = vs) : Row W g cap t vs := by
  refine ⟨⟨cur, hb, hs⟩, hl, fun j v hv => ?_⟩
  rw [cell_of_heap hb j, ← hv]
  have hj : j < vs.length := (List.getElem?_eq_some_iff.1 hv).1
  have := List.getElem?_take_of_lt (l := cur.toList) hj
  rw [ht] at this
  rw [this, Array.getElem?_toList]
theorem Row.same {W' : World} (h : Row W g cap t vs) (e : W'.heap[g]? = W.heap[g]?) : Row W' g cap t vs := by
  obtain ⟨⟨cur, hh, hs⟩, hl, ha⟩ := h
  refine ⟨⟨cur, e.trans hh, hs⟩, hl, fun j v hv => ?_⟩
  rw [cell_of_heap (e.trans hh) j, ← cell_of_heap hh j]
  exact ha j v hv
theorem Row.below {W' : World} {B : Nat} (h : Row W g cap t vs) (hb : Below B W W') (hg : g < B) : Row W' g cap t vs := h.same (hb.block g hg)
theorem Row.grown {W' : World} {r : Option Nat} (h : Row W g cap t vs) (hb : W.grownBy W' r) (hg : some g ≠ r) : Row W' g cap t vs := h.same (hb.block g h.lt hg)
theorem Row.to (h : Row W g cap t vs) (us : List Value) (hl : us.length ≤ vs.length) (hu : ∀ j, j < us.length → us[j]? = vs[j]?) : Row W g cap t us :=
  ⟨h.blk, Nat.le_trans hl h.le, fun j v hv => h.at_ j v (by rw [← hu j (List.getElem?_eq_some_iff.1 hv).1]; exact hv)⟩
theorem Row.cell (h : Row W g cap t vs) (j : Nat) (hj : j < vs.length) : W.cell? ⟨g, j, none⟩ = some vs[j] := h.at_ j _ (List.getElem?_eq_getElem hj)
end

theorem heap_setCell {W : World} {g : Nat} {cur : Array Value} {t : TypeId} (h : W.heap[g]? = some (.cells cur t (0, 0))) (j : Nat) (v : Value) : (W.setCell ⟨g, j, none⟩ v).heap[g]? = some (.cells (cur.setIfInBounds j v) t (0, 0)) := by
  simp [World.setCell, Array.getElem?_modify, h]
theorem heap_setCells {g : Nat} {t : TypeId} : ∀ (us : List Value) (o : Nat) (W : World) (cur : Array Value), W.heap[g]? = some (.cells cur t (0, 0)) → ∃ cur' : Array Value, (W.setCells g o us).heap[g]? = some (.cells cur' t (0, 0)) ∧ cur'.size = cur.size
  | [], _, _, cur, h => ⟨cur, h, rfl⟩
  | u :: us, o, W, cur, h => by
    obtain ⟨cur', h1, h2⟩ := heap_setCells us (o + 1) (W.setCell ⟨g, o, none⟩ u) _ (heap_setCell h o u)
    exact ⟨cur', h1, by rw [h2]; simp⟩

/-- A row behind a run of stores into it. -/
theorem Row.stored {W : World} {g cap : Nat} {t : TypeId} {vs : List Value} (h : Row W g cap t vs) (o : Nat) (us : List Value) (ho : o + us.length ≤ cap) (ws : List Value) (hw : ws.length ≤ cap)
    (hin : ∀ j, j < us.length → ws[o + j]? = us[j]?) (hout : ∀ j, j < ws.length → (j < o ∨ o + us.length ≤ j) → ws[j]? = vs[j]?) : Row (W.setCells g o us) g cap t ws := by
  obtain ⟨cur, hh, hs⟩ := h.blk
  obtain ⟨cur', h1, h2⟩ := heap_setCells us o W cur hh
  refine ⟨⟨cur', h1, by omega⟩, hw, fun j v hv => ?_⟩
  have hj : j < ws.length := (List.getElem?_eq_some_iff.1 hv).1
  by_cases hr : o ≤ j ∧ j < o + us.length
  · obtain ⟨k, rfl⟩ : ∃ k, j = o + k := ⟨j - o, by omega⟩
    have hk : k < us.length := by omega
    rw [World.cell?_setCells_in g us o W (fun i hi => h.some_ _ (by omega)) k hk, ← hv, hin k hk, List.getElem?_eq_getElem hk]
  · rw [World.cell?_setCells_out g us o W ⟨g, j, none⟩ (fun _ _ => by show j < o ∨ o + us.length ≤ j; omega)]
    exact h.at_ j v (by rw [← hout j hj (by omega)]; exact hv)

theorem grown_setCells (W : World) (g o : Nat) (us : List Value) : W.grownBy (W.setCells g o us) (some g) := by
  induction us generalizing W o with
  | nil => exact ⟨rfl, rfl, rfl, Nat.le_refl _, fun _ _ _ => rfl⟩
  | cons u us ih =>
    have h := ih (W.setCell ⟨g, o, none⟩ u) (o + 1)
    have hs : (W.setCell ⟨g, o, none⟩ u).heap.size = W.heap.size := by simp [World.setCell]
    refine ⟨h.os, h.tape, h.output, by have := h.size; rw [hs] at this; exact this, fun k hk hne => ?_⟩
    rw [show W.setCells g o (u :: us) = (W.setCell ⟨g, o, none⟩ u).setCells g (o + 1) us from rfl, h.block k (by rw [hs]; exact hk) hne]
    have : g ≠ k := fun e => hne (by rw [e])
    simp [World.setCell, Array.getElem?_modify, this]

/-! ### Sorted lists of strings -/
abbrev Str := List UInt8
theorem le_trans' {a b c : Str} (h1 : a ≤ b) (h2 : b ≤ c) : a ≤ c := List.le_trans h1 h2
theorem sorted_ms (ss : List Str) : (ss.mergeSort fun x y => decide (x ≤ y)).Pairwise (fun x y => decide (x ≤ y) = true) := by
  have tr : ∀ a b c : Str, decide (a ≤ b) = true → decide (b ≤ c) = true → decide (a ≤ c) = true := fun a b c h1 h2 => by simp only [decide_eq_true_eq] at *; exact List.le_trans h1 h2
  have to : ∀ a b : Str, (decide (a ≤ b) || decide (b ≤ a)) = true := fun a b => by simp only [Bool.or_eq_true, decide_eq_true_eq]; exact List.le_total a b
  exact List.pairwise_mergeSort tr to ss

/-- Compact of an ascending list ascends strictly. -/
theorem compact_lt (zs : List Str) (hs : zs.Pairwise (fun x y => decide (x ≤ y) = true)) : (Lib.compact zs).Pairwise (fun x y => x < y) := by
  unfold Lib.compact Lib.compactUpTo
  rw [List.pairwise_map]
  have hr : (List.range zs.length).Pairwise (fun a b => a < b ∧ b < zs.length) := by
    refine List.Pairwise.imp_of_mem ?_ List.pairwise_lt_range
    intro a b _ hb hab
    exact ⟨hab, List.mem_range.1 hb⟩
  refine (List.Pairwise.filter _ hr).imp_of_mem ?_
  intro a b _ hb ⟨hab, hbl⟩
  have hk : Lib.keeps zs.toArray b = true := (List.mem_filter.1 hb).2
  have hg : ∀ i j (hi : i < zs.length) (hj : j < zs.length), i < j → zs[i] ≤ zs[j] := fun i j hi hj hij => of_decide_eq_true (List.pairwise_iff_getElem.1 hs i j hi hj hij)
  have e : ∀ i (hi : i < zs.length), zs.toArray[i]! = zs[i] := fun i hi => by simp [hi]
  simp only [Lib.keeps] at hk
  rw [e a (by omega), e b hbl]
  have hne : zs[b] ≠ zs[b - 1] := by
    rcases Nat.eq_zero_or_pos b with h0 | h0
    · omega
    · simp [e b hbl, e (b - 1) (by omega)] at hk
      rcases hk with hk | hk
      · omega
      · exact hk
  have h1 : zs[b - 1] ≤ zs[b] := hg (b - 1) b (by omega) hbl (by omega)
  have h2 : zs[a] ≤ zs[b - 1] := by
    rcases Nat.lt_or_ge a (b - 1) with h | h
    · exact hg a (b - 1) (by omega) (by omega) h
    · have : a = b - 1 := by omega
      subst this
      exact List.le_refl _
  have h3 : zs[b - 1] < zs[b] := by
    rcases List.le_iff_lt_or_eq.1 h1 with h | h
    · exact h
    · exact absurd h.symm hne
  exact List.lt_of_le_of_lt h2 h3

/-- How many of L lie below x. -/
def place (L : List Str) (x : Str) : Nat := (L.filter (fun y => decide (y < x))).length
theorem place_spec {L : List Str} (hs : L.Pairwise (fun x y => x < y)) (x : Str) : place L x ≤ L.length ∧ (∀ t (h : t < L.length), t < place L x → L[t] < x) ∧ (∀ t (h : t < L.length), place L x ≤ t → ¬ L[t] < x) := by
  induction L with
  | nil => simp [place]
  | cons y L ih =>
    obtain ⟨hy, hL⟩ := List.pairwise_cons.1 hs
    obtain ⟨i1, i2, i3⟩ := ih hL
    by_cases h : y < x
    · have e : place (y :: L) x = place L x + 1 := by simp [place, h]
      rw [e]
      refine ⟨by simp; omega, fun t ht hlt => ?_, fun t ht hle => ?_⟩
      · cases t with
        | zero => exact h
        | succ t => exact i2 t (by simpa using ht) (by omega)
      · cases t with
        | zero => omega
        | succ t => exact i3 t (by simpa using ht) (by omega)
    · have hall : ∀ z ∈ L, ¬ z < x := fun z hz hzx => h (List.lt_trans (hy z hz) hzx)
      have e : place (y :: L) x = 0 := by
        simp only [place, List.length_eq_zero_iff, List.filter_eq_nil_iff, decide_eq_true_eq]
        intro z hz
        rcases List.mem_cons.1 hz with rfl | hz
        · exact h
        · exact hall z hz
      rw [e]
      refine ⟨Nat.zero_le _, fun t _ hlt => by omega, fun t ht _ => ?_⟩
      cases t with
      | zero => exact h
      | succ t => exact hall _ (List.getElem_mem _)
end Go.Proofs.Ybulkbbay
