/-
  The library's functions at rows.
-/
import Derived.Test.YbulkbbayClock
namespace Go.Proofs.Ybulkbbay
open Go.RowKit Go.Sort

def bts (s : Str) : ByteArray := ⟨s.toArray⟩

theorem holds_of_row {w : World} {h cap : Nat} {t : TypeId} {L : List Str} (hr : Row w h cap t (L.map str)) : Holds encStr w h 0 L.toArray := by
  intro j hj
  have hj' : j < L.length := by simpa using hj
  refine ⟨?_, hr.frozen _⟩
  rw [Nat.zero_add]
  refine hr.at_ j _ ?_
  simp [hj']
  rfl

theorem row_put {w : World} {h cap n : Nat} {os : Array Obj} {vs : List Value} (hr : Row w h cap 9 vs) (ts : List Str) (hl : ts.length ≤ cap) :
    Row (grow (putRow encStr (Sort.ahead w n) h 0 ts.toArray) os) h cap 9 (ts.map str) := by
  obtain ⟨cur, hh, hs⟩ := hr.blk
  refine Row.of_take (heap_sorted (n := n) (os := os) ts.toArray hh) (by simp [putCells, hs]) (by simpa using hl) ?_
  rw [List.length_map]
  exact take_putCells cur ts (by omega)

theorem sort_row (h cap : Nat) (L : List Str) (w : World) (hl : L.length ≤ 1024) (hr : Row w h cap 9 (L.map str)) :
    Calls Yba.prog 4 #[.slice (some ⟨h, 0, none⟩) L.length cap] w fun e w' => e = .returned (.tuple #[]) ∧ Row w' h cap 9 ((L.mergeSort fun x y => decide (x ≤ y)).map str) ∧ w.grownBy w' (some h) := by
  have hle : L.length ≤ cap := by simpa using hr.le
  refine (Yba.slices_Sort_string h 0 cap L w (holds_of_row hr) hr.lt (by omega)).mono ?_
  rintro e w' ⟨rfl, n, os, rfl⟩
  exact ⟨rfl, row_put hr _ (by simpa using hle), grownBy_sorted _⟩

theorem compact_row (h cap : Nat) (L : List Str) (w : World) (hl : L.length ≤ 1024) (hr : Row w h cap 9 (L.map str)) :
    Calls Yba.prog 5 #[.slice (some ⟨h, 0, none⟩) L.length cap] w fun e w' => e = .returned (.slice (some ⟨h, 0, none⟩) (Lib.compact L).length cap) ∧ Row w' h cap 9 ((Lib.compact L).map str) ∧ w.grownBy w' (some h) := by
  have hle : L.length ≤ cap := by simpa using hr.le
  have hcl := Lib.compact_length_le L
  refine (Yba.slices_Compact_string h 0 cap L w (holds_of_row hr) (by omega) hle).mono ?_
  rintro e w' ⟨rfl, q, rfl⟩
  have h1 := row_put (n := q) (os := #[]) hr (Lib.compact L ++ List.replicate (L.length - (Lib.compact L).length) []) (by simp; omega)
  have h2 := grownBy_sorted (w := w) (g := h) (n := q) (os := #[]) (Lib.compact L ++ List.replicate (L.length - (Lib.compact L).length) []).toArray
  rw [grow_empty] at h1 h2
  refine ⟨rfl, h1.to _ (by simp) (fun j hj => ?_), h2⟩
  rw [List.map_append, List.getElem?_append_left hj]

theorem own_row {w : World} {base e n : Nat} {v : Value} {vs : List Value} (h : w.ownsRow base e 1 v n vs) (hne : v ≠ .slice none 0 0) : ∃ g c, v = .slice (some ⟨g, 0, none⟩) n c ∧ base ≤ g ∧ Row w g c e vs := by
  have hlen := h.1
  rcases h.2 with ⟨rfl, _⟩ | ⟨g, cap, cur, rfl, hb, hh, hnc, hcm, hcs, htake⟩
  · exact absurd rfl hne
  · refine ⟨g, cap, rfl, hb, Row.of_take hh (by omega) (by omega) ?_⟩
    rw [hlen]
    exact htake

theorem cloneS (h cap : Nat) (L : List Str) (w : World) (hl : L.length ≤ 1024) (hr : Row w h cap 9 (L.map str)) :
    Calls Yba.prog 6 #[.slice (some ⟨h, 0, none⟩) L.length cap] w fun e w' => ∃ g c, e = .returned (.slice (some ⟨g, 0, none⟩) L.length c) ∧ w.heap.size ≤ g ∧ Row w' g c 9 (L.map str) ∧ Below w.heap.size w w' := by
  refine (Yba.slices_Clone_string h 0 L.length cap (L.map bts) w (by simp) (by omega) (fun j hj => ?_)).mono ?_
  · have hj' : j < L.length := by simpa using hj
    rw [Nat.zero_add]
    refine hr.at_ j _ ?_
    simp [List.getD, hj']
    rfl
  · rintro e w' ⟨v', rfl, ho, hne, hb⟩
    obtain ⟨g, c, rfl, hg, hrow⟩ := own_row ho hne
    refine ⟨g, c, rfl, hg, ?_, hb⟩
    have e : ((L.map bts).take L.length).map Value.string = L.map str := by
      rw [List.take_of_length_le (by simp), List.map_map]
      rfl
    rw [e] at hrow
    exact hrow

theorem cloneU (b cap : Nat) (cs : List Value) (w : World) (hl : cs.length ≤ 1024) (h1 : ∀ v ∈ cs, v.oneCell' = true) (hr : Row w b cap 24 cs) :
    Calls Yba.prog 7 #[.slice (some ⟨b, 0, none⟩) cs.length cap] w fun e w' => ∃ g c, e = .returned (.slice (some ⟨g, 0, none⟩) cs.length c) ∧ w.heap.size ≤ g ∧ Row w' g c 24 cs ∧ Below w.heap.size w w' := by
  obtain ⟨i0, hi0, hz0, hzs, hzb⟩ := info_parts info24
  refine (Yba.slices_Clone_f7 i0 _ 1 8 hi0 hz0 hzs hzb rfl (by decide) (fun w => by kernel_rfl) b 0 cs.length cap cs w (by omega) (by unfold maxLen; omega) (by omega) (fun j u hu => by rw [Nat.zero_add]; exact hr.at_ j u hu) h1).mono ?_
  rintro e w' ⟨v', rfl, ho, hne, hb⟩
  obtain ⟨g, c, rfl, hg, hrow⟩ := own_row ho hne
  exact ⟨g, c, rfl, hg, hrow, hb⟩

theorem equalS (h g c1 c2 : Nat) (L : List Str) (w : World) (hl : L.length ≤ 1024) (hr : Row w h c1 9 (L.map str)) (hg : Row w g c2 9 (L.map str)) :
    Calls Yba.prog 10 #[.slice (some ⟨h, 0, none⟩) L.length c1, .slice (some ⟨g, 0, none⟩) L.length c2] w fun e w' => e = .returned (.bool true) ∧ ∃ q, w' = w.drewN q := by
  have hc : ∀ {b cap : Nat}, Row w b cap 9 (L.map str) → ∀ j, j < (L.map bts).length → w.cell? ⟨b, 0 + j, none⟩ = some (.string ((L.map bts).getD j ByteArray.empty)) := fun hr j hj => by
    have hj' : j < L.length := by simpa using hj
    rw [Nat.zero_add]
    refine hr.at_ j _ ?_
    simp [List.getD, hj']
    rfl
  refine (Yba.slices_Equal_string h 0 L.length c1 g 0 L.length c2 (L.map bts) (L.map bts) w (by simp) (by simp) (by omega) (by omega) (hc hr) (hc hg)).mono ?_
  rintro e w' ⟨rfl, hq⟩
  exact ⟨by simp, hq⟩

/-- A slice of strings that came in. -/
def Strs (w : World) (v : Value) (L : List Str) : Prop :=
  (v = .slice none 0 0 ∧ L = []) ∨ ∃ (a : Addr) (c : Nat), v = .slice (some a) L.length c ∧ ∀ j u, (L.map str)[j]? = some u → w.cell? (a.add j) = some u
theorem Strs.shape {w : World} {v : Value} {L : List Str} (h : Strs w v L) : ∃ a c, v = .slice a L.length c := by
  rcases h with ⟨rfl, rfl⟩ | ⟨a, c, rfl, _⟩
  · exact ⟨_, _, rfl⟩
  · exact ⟨_, _, rfl⟩

/-- 'append(make([]string, 0, len(hosts)+4), hosts...)'. -/
theorem append_hosts (w : World) (v : Value) (L : List Str) (M : Array Value) (hv : Strs w v L) (hl : L.length ≤ 1024) (hM : M.size = L.length + 4) :
    ∃ W2, (∀ ty, (Builtin.append_ #[22, 22] ty #[.slice (some ⟨w.heap.size, 0, none⟩) 0 (L.length + 4), v]).run Yba.prog (w.alloc (.cells M 9)) = .ok (.slice (some ⟨w.heap.size, 0, none⟩) L.length (L.length + 4)) W2) ∧ Row W2 w.heap.size (L.length + 4) 9 (L.map str) ∧ Below w.heap.size w W2 := by
  obtain ⟨i0, hi0, hz0, hzs, hzb⟩ := info_parts info9
  have hR0 : Row (w.alloc (.cells M 9)) w.heap.size (L.length + 4) 9 [] := by
    rw [← hM]
    exact Row.new w M 9 [] (by simp) (by simp)
  have hB1 : Below w.heap.size w (w.alloc (.cells M 9)) := (Below.refl _ w).alloc (Nat.le_refl _) _
  rcases hv with ⟨rfl, rfl⟩ | ⟨a, c, rfl, hc⟩
  · refine ⟨_, fun ty => run_append_owned_none (P := Yba.prog) (w := w.alloc (.cells M 9)) 0 22 ty 9 i0 1 Yba.underlying22 hi0 (.slice (some ⟨w.heap.size, 0, none⟩) 0 4) 0 [] ⟨rfl, .inr ⟨w.heap.size, 4, M, rfl, Nat.zero_le _, heap_alloc_new w _, by omega, by unfold maxLen; omega, by simpa using hM, by simp⟩⟩, hR0, hB1⟩
  · refine ⟨(w.alloc (.cells M 9)).setCells w.heap.size 0 (L.map str), fun ty => ?_, ?_, ?_⟩
    · have hold : ∀ j u, (L.map str)[j]? = some u → (w.alloc (.cells M 9)).cell? (a.add j) = some u := fun j u hu => by
        have h1 := hc j u hu
        exact (hB1.cell (World.block_lt_of_cell? _ _ h1)).trans h1
      have h := run_append_room_cells (P := Yba.prog) (w.alloc (.cells M 9)) 22 ty 9 i0 Yba.underlying22 hi0 w.heap.size 0 0 (L.length + 4) a L.length c (L.map str) (by rw [hzs]; simp) hold (strs_one L) (by omega) (fun j hj => by simp only [Nat.zero_mul, Nat.zero_add]; exact hR0.some_ j (by simp at hj; omega)) (fun j hj => by simp only [Nat.zero_mul, Nat.zero_add]; exact hR0.frozen j)
      simpa using h
    · exact hR0.stored 0 (L.map str) (by simp) (L.map str) (by simp) (fun j _ => by rw [Nat.zero_add]) (fun j hj ho => by omega)
    · exact hB1.grown (grown_setCells _ _ _ _) (Nat.le_of_lt hR0.lt) (fun k e => by cases e; exact Nat.le_refl _)
end Go.Proofs.Ybulkbbay
