/-
  extended[T] at a nil slice: a slice of the asked length comes back, in new memory; nothing that was there has turned. One contract an instance.
-/
import Derived.Test.YbulkbawqRows
import Derived.WalkKit
import Derived.WalkSpells
import Derived.WalkLawsBesides
namespace Go.Proofs.Ybulkbawq
open Go.RowKit

/-- The length in a slice's slot. -/
def lenIn : Value → Nat | .slice _ n _ => n | _ => 0

theorem owns_shape {w : World} {B : Nat} {e : TypeId} {s n : Nat} {v : Value} {xs : List Value} (h : w.ownsRow B e s v n xs) : ∃ a c, v = .slice a n c := by
  rcases h.2 with ⟨rfl, rfl⟩ | ⟨g, cap, cur, rfl, _⟩
  · exact ⟨_, _, rfl⟩
  · exact ⟨_, _, rfl⟩

theorem cells_new (w : World) (cs : Array Value) (t : TypeId) (j : Nat) (u : Value) (h : cs.toList[j]? = some u) : (w.alloc (.cells cs t)).cell? ((⟨w.heap.size, 0, none⟩ : Addr).add j) = some u := by
  have h' : cs[j]? = some u := by simpa using h
  have e : (⟨w.heap.size, 0, none⟩ : Addr).add j = ⟨w.heap.size, j, none⟩ := by unfold Addr.add; split <;> simp_all
  rw [e, World.cell?_alloc_new]
  exact h'

theorem below_grown {B : Nat} {a w w' : World} {e : TypeId} {s n : Nat} {v : Value} {xs : List Value} (h : Below B a w) (hown : w.ownsRow B e s v n xs) (hg : w.grownBy w' v.ownBlock) (hB : B ≤ w.heap.size) : Below B a w' := by
  refine h.grown hg hB ?_
  intro k hk
  rcases hown.2 with ⟨rfl, rfl⟩ | ⟨g, cap, cur, rfl, hb, _⟩
  · simp [Value.ownBlock] at hk
  · simp [Value.ownBlock] at hk; omega

theorem fold_fill_list (l : List Value) : ∀ (A : Array Value) (k : Nat), k + l.length ≤ A.size →
    ((l.zipIdx k).foldl (fun (a : Array Value) x => a.setIfInBounds x.2 x.1) A).toList = A.toList.take k ++ l ++ A.toList.drop (k + l.length) := by
  induction l with
  | nil => intro A k h; simp
  | cons v l ih =>
    intro A k h
    simp only [List.length_cons] at h
    rw [List.zipIdx_cons, List.foldl_cons, ih _ _ (by simp; omega)]
    have hk : k < A.toList.length := by simp; omega
    rw [Array.toList_setIfInBounds, List.take_set, List.drop_set_of_lt (by omega)]
    rw [List.take_succ_eq_append_getElem hk, List.length_cons]
    rw [List.set_append_right _ _ (by simp; omega)]
    simp [Nat.min_eq_left (Nat.le_of_lt (show k < A.size by simpa using hk)), Nat.add_comm]
    omega
theorem fold_fill (cs A : Array Value) (n : Nat) (h : cs.size = n) (hA : A.size = n) :
    Array.foldl (fun (a : Array Value) (x : Value × Nat) => a.setIfInBounds x.snd x.fst) A cs.zipIdx 0 n = cs := by
  have e : Array.foldl (fun (a : Array Value) (x : Value × Nat) => a.setIfInBounds x.snd x.fst) A cs.zipIdx 0 n = Array.foldl (fun (a : Array Value) (x : Value × Nat) => a.setIfInBounds x.snd x.fst) A cs.zipIdx := by
    congr 1; simp [h]
  rw [e, ← Array.foldl_toList]
  apply Array.toList_inj.1
  rw [Array.toList_zipIdx, fold_fill_list cs.toList A 0 (by simp; omega)]
  simp; omega

/-- What the law on append asks of an element type. -/
theorem info_of {P : Program} {e : TypeId} {z : Value} {size bytes : Nat} (h : (P.info? e).map (fun i => (i.zero, i.size, i.bytes)) = some (some z, size, bytes)) (hz : z.cells.size = size) :
    ∃ (i : TypeInfo) (z : Value), P.info? e = some i ∧ i.zero = some z ∧ i.size = size ∧ i.bytes = bytes ∧ z.cells.size = size := by
  obtain ⟨i0, hi, hz0, hz1, hz2⟩ := info_parts h
  exact ⟨i0, z, hi, hz0, hz1, hz2, hz⟩

theorem info102 : (Yba.prog.info? 102).map (fun i => (i.zero, i.size, i.bytes)) = some (some (.agg #[.int .u32 0, .bool false, .map none, .slice none 0 0, .slice none 0 0, .slice none 0 0, .pointer none, .int .u32 0, .map none, .bool false, .int .u32 0, .slice none 0 0, .int .u64 0]), 13, 152) := by kernel_rfl
set_option maxHeartbeats 1000000 in
set_option maxRecDepth 100000 in
theorem ext15 (n : Nat) (hn : n ≤ 2048) (cs : Array Value) (hcs : cs.size = 13) (hone : cs.toList.all (·.oneCell') = true) (w : World) :
    Calls Yba.prog 15 #[.slice none 0 0, .int .i64 n, .agg cs] w fun e w' => (∃ a c, e = .returned (.slice a n c)) ∧ Below w.heap.size w w' := by
  obtain ⟨i0, z, hi, hz0, hz1, hz2, hzs⟩ := info_of info102 rfl
  have hinf : (Yba.prog.info? 102).map (·.size) = some cs.size := by rw [hi, hcs]; simp [hz1]
  have HC : Hid (cs.size = 13) := hcs
  have HU : Hid (cs.toList.all (·.oneCell') = true) := hone
  have hfill := fold_fill cs #[.int .u32 0, .bool false, .map none, .slice none 0 0, .slice none 0 0, .slice none 0 0, .pointer none, .int .u32 0, .map none, .bool false, .int .u32 0, .slice none 0 0, .int .u64 0] 13 hcs rfl
  clear hone
  go_enter Yba.func15, Yba.ntmps15
  go_wp2
  go_loopw [0] (fun vs wr => ∃ (k : Nat) (a : Option Addr) (c : Nat) (xs : List Value), vs = .slice a k c ∧ k ≤ n ∧ wr.ownsRow (w.heap.size + 1) 102 13 (.slice a k c) k xs ∧ Below (w.heap.size + 1) (w.alloc (.cells cs 102)) wr)
    (fun vs _ => n - lenIn vs)
  case atStart => exact ⟨0, none, 0, [], rfl, Nat.zero_le _, World.ownsRow_nil _ _ _ _, Below.refl _ _⟩
  case round =>
    obtain ⟨k, a, c, xs, rfl, hk, hown, hbel⟩ := hrel
    have hsz := hbel.size
    try simp at hsz
    have hheap : wr.heap[w.heap.size]? = some (.cells cs 102 (0, 0)) := (hbel.block _ (Nat.lt_succ_self _)).trans (heap_alloc_new w _)
    by_cases hlt : k < n
    · have hlt' : (k : Int) < n := by omega
      have HB : Hid (Below (w.heap.size + 1) (w.alloc (.cells cs 102)) wr) := hbel
      have HO : Hid (wr.ownsRow (w.heap.size + 1) 102 13 (.slice a k c) k xs) := hown
      clear hbel hown
      go_wp2_with (first | (refine wpList_load_row rfl 102 _ rfl w.heap.size rfl 102 cs (0, 0) _ hheap Yba.underlying102 rfl hinf ?_) | (at_builtin; refine wpList_append_own _ rfl _ _ 35 rfl (w.heap.size + 1) 102 i0 z 13 152 Yba.underlying35 hi hz0 hz1 hz2 hzs (by decide) _ _ _ rfl (HO.out.alloc _) ⟨wr.heap.size, 0, none⟩ 1 1 cs.toList rfl ?c0 ?c1 ?c2 ?c3 ?c4 ?c5 ?_))
      case c0 => exact (by rw [Array.length_toList, HC.out])
      case c1 => exact fun j u hj => cells_new _ cs _ j u hj
      case c2 => exact List.all_eq_true.1 HU.out
      case c3 => unfold maxLen; omega
      case c4 => omega
      case c5 => simp; try omega
      · intro v' w1 hown' hgrow _
        obtain ⟨a', c', rfl⟩ := owns_shape hown'
        have hb1 := below_grown (HB.out.alloc (by omega) _) (HO.out.alloc _) hgrow (by simp; try omega)
        clear hgrow
        go_wp2
        go_roundw
        case rel => exact ⟨k + 1, a', c', _, rfl, by omega, hown', hb1⟩
        case measure => simp [lenIn]; omega
    · obtain rfl : k = n := by omega
      clear hlt
      go_wp2
      go_ret
      exact ⟨⟨a, c, rfl⟩, ((Below.refl _ w).alloc (Nat.le_refl _) _).trans (hbel.mono (by omega))⟩

theorem info107 : (Yba.prog.info? 107).map (fun i => (i.zero, i.size, i.bytes)) = some (some (.agg #[.int .i64 0, .int .i64 0, .bool false, .int .i64 0, .int .i64 0, .bool false, .bool false, .int .i64 0, .int .u64 0, .slice none 0 0, .int .i64 0, .bool false, .int .i64 0, .bool false, .bool false, .int .i64 0, .int .u64 0, .int .u64 0, .int .u64 0, .int .u64 0, .int .u64 0]), 21, 176) := by kernel_rfl
set_option maxHeartbeats 1000000 in
set_option maxRecDepth 100000 in
theorem ext16 (n : Nat) (hn : n ≤ 2048) (cs : Array Value) (hcs : cs.size = 21) (hone : cs.toList.all (·.oneCell') = true) (w : World) :
    Calls Yba.prog 16 #[.slice none 0 0, .int .i64 n, .agg cs] w fun e w' => (∃ a c, e = .returned (.slice a n c)) ∧ Below w.heap.size w w' := by
  obtain ⟨i0, z, hi, hz0, hz1, hz2, hzs⟩ := info_of info107 rfl
  have hinf : (Yba.prog.info? 107).map (·.size) = some cs.size := by rw [hi, hcs]; simp [hz1]
  have HC : Hid (cs.size = 21) := hcs
  have HU : Hid (cs.toList.all (·.oneCell') = true) := hone
  have hfill := fold_fill cs #[.int .i64 0, .int .i64 0, .bool false, .int .i64 0, .int .i64 0, .bool false, .bool false, .int .i64 0, .int .u64 0, .slice none 0 0, .int .i64 0, .bool false, .int .i64 0, .bool false, .bool false, .int .i64 0, .int .u64 0, .int .u64 0, .int .u64 0, .int .u64 0, .int .u64 0] 21 hcs rfl
  clear hone
  go_enter Yba.func16, Yba.ntmps16
  go_wp2
  go_loopw [0] (fun vs wr => ∃ (k : Nat) (a : Option Addr) (c : Nat) (xs : List Value), vs = .slice a k c ∧ k ≤ n ∧ wr.ownsRow (w.heap.size + 1) 107 21 (.slice a k c) k xs ∧ Below (w.heap.size + 1) (w.alloc (.cells cs 107)) wr)
    (fun vs _ => n - lenIn vs)
  case atStart => exact ⟨0, none, 0, [], rfl, Nat.zero_le _, World.ownsRow_nil _ _ _ _, Below.refl _ _⟩
  case round =>
    obtain ⟨k, a, c, xs, rfl, hk, hown, hbel⟩ := hrel
    have hsz := hbel.size
    try simp at hsz
    have hheap : wr.heap[w.heap.size]? = some (.cells cs 107 (0, 0)) := (hbel.block _ (Nat.lt_succ_self _)).trans (heap_alloc_new w _)
    by_cases hlt : k < n
    · have hlt' : (k : Int) < n := by omega
      have HB : Hid (Below (w.heap.size + 1) (w.alloc (.cells cs 107)) wr) := hbel
      have HO : Hid (wr.ownsRow (w.heap.size + 1) 107 21 (.slice a k c) k xs) := hown
      clear hbel hown
      go_wp2_with (first | (refine wpList_load_row rfl 107 _ rfl w.heap.size rfl 107 cs (0, 0) _ hheap Yba.underlying107 rfl hinf ?_) | (at_builtin; refine wpList_append_own _ rfl _ _ 56 rfl (w.heap.size + 1) 107 i0 z 21 176 Yba.underlying56 hi hz0 hz1 hz2 hzs (by decide) _ _ _ rfl (HO.out.alloc _) ⟨wr.heap.size, 0, none⟩ 1 1 cs.toList rfl ?c0 ?c1 ?c2 ?c3 ?c4 ?c5 ?_))
      case c0 => exact (by rw [Array.length_toList, HC.out])
      case c1 => exact fun j u hj => cells_new _ cs _ j u hj
      case c2 => exact List.all_eq_true.1 HU.out
      case c3 => unfold maxLen; omega
      case c4 => omega
      case c5 => simp; try omega
      · intro v' w1 hown' hgrow _
        obtain ⟨a', c', rfl⟩ := owns_shape hown'
        have hb1 := below_grown (HB.out.alloc (by omega) _) (HO.out.alloc _) hgrow (by simp; try omega)
        clear hgrow
        go_wp2
        go_roundw
        case rel => exact ⟨k + 1, a', c', _, rfl, by omega, hown', hb1⟩
        case measure => simp [lenIn]; omega
    · obtain rfl : k = n := by omega
      clear hlt
      go_wp2
      go_ret
      exact ⟨⟨a, c, rfl⟩, ((Below.refl _ w).alloc (Nat.le_refl _) _).trans (hbel.mono (by omega))⟩

theorem info115 : (Yba.prog.info? 115).map (fun i => (i.zero, i.size, i.bytes)) = some (some (.agg #[.slice none 0 0, .int .u32 0, .int .u64 0, .int .u64 0, .int .i64 0, .int .i64 0, .bool false]), 7, 72) := by kernel_rfl
set_option maxHeartbeats 1000000 in
set_option maxRecDepth 100000 in
theorem ext17 (n : Nat) (hn : n ≤ 2048) (cs : Array Value) (hcs : cs.size = 7) (hone : cs.toList.all (·.oneCell') = true) (w : World) :
    Calls Yba.prog 17 #[.slice none 0 0, .int .i64 n, .agg cs] w fun e w' => (∃ a c, e = .returned (.slice a n c)) ∧ Below w.heap.size w w' := by
  obtain ⟨i0, z, hi, hz0, hz1, hz2, hzs⟩ := info_of info115 rfl
  have hinf : (Yba.prog.info? 115).map (·.size) = some cs.size := by rw [hi, hcs]; simp [hz1]
  have HC : Hid (cs.size = 7) := hcs
  have HU : Hid (cs.toList.all (·.oneCell') = true) := hone
  have hfill := fold_fill cs #[.slice none 0 0, .int .u32 0, .int .u64 0, .int .u64 0, .int .i64 0, .int .i64 0, .bool false] 7 hcs rfl
  clear hone
  go_enter Yba.func17, Yba.ntmps17
  go_wp2
  go_loopw [0] (fun vs wr => ∃ (k : Nat) (a : Option Addr) (c : Nat) (xs : List Value), vs = .slice a k c ∧ k ≤ n ∧ wr.ownsRow (w.heap.size + 1) 115 7 (.slice a k c) k xs ∧ Below (w.heap.size + 1) (w.alloc (.cells cs 115)) wr)
    (fun vs _ => n - lenIn vs)
  case atStart => exact ⟨0, none, 0, [], rfl, Nat.zero_le _, World.ownsRow_nil _ _ _ _, Below.refl _ _⟩
  case round =>
    obtain ⟨k, a, c, xs, rfl, hk, hown, hbel⟩ := hrel
    have hsz := hbel.size
    try simp at hsz
    have hheap : wr.heap[w.heap.size]? = some (.cells cs 115 (0, 0)) := (hbel.block _ (Nat.lt_succ_self _)).trans (heap_alloc_new w _)
    by_cases hlt : k < n
    · have hlt' : (k : Int) < n := by omega
      have HB : Hid (Below (w.heap.size + 1) (w.alloc (.cells cs 115)) wr) := hbel
      have HO : Hid (wr.ownsRow (w.heap.size + 1) 115 7 (.slice a k c) k xs) := hown
      clear hbel hown
      go_wp2_with (first | (refine wpList_load_row rfl 115 _ rfl w.heap.size rfl 115 cs (0, 0) _ hheap Yba.underlying115 rfl hinf ?_) | (at_builtin; refine wpList_append_own _ rfl _ _ 58 rfl (w.heap.size + 1) 115 i0 z 7 72 Yba.underlying58 hi hz0 hz1 hz2 hzs (by decide) _ _ _ rfl (HO.out.alloc _) ⟨wr.heap.size, 0, none⟩ 1 1 cs.toList rfl ?c0 ?c1 ?c2 ?c3 ?c4 ?c5 ?_))
      case c0 => exact (by rw [Array.length_toList, HC.out])
      case c1 => exact fun j u hj => cells_new _ cs _ j u hj
      case c2 => exact List.all_eq_true.1 HU.out
      case c3 => unfold maxLen; omega
      case c4 => omega
      case c5 => simp; try omega
      · intro v' w1 hown' hgrow _
        obtain ⟨a', c', rfl⟩ := owns_shape hown'
        have hb1 := below_grown (HB.out.alloc (by omega) _) (HO.out.alloc _) hgrow (by simp; try omega)
        clear hgrow
        go_wp2
        go_roundw
        case rel => exact ⟨k + 1, a', c', _, rfl, by omega, hown', hb1⟩
        case measure => simp [lenIn]; omega
    · obtain rfl : k = n := by omega
      clear hlt
      go_wp2
      go_ret
      exact ⟨⟨a, c, rfl⟩, ((Below.refl _ w).alloc (Nat.le_refl _) _).trans (hbel.mono (by omega))⟩

theorem info60 : (Yba.prog.info? 60).map (fun i => (i.zero, i.size, i.bytes)) = some (some (.agg #[.int .u64 0, .int .u64 0]), 2, 16) := by kernel_rfl
set_option maxHeartbeats 1000000 in
set_option maxRecDepth 100000 in
theorem ext18 (n : Nat) (hn : n ≤ 2048) (cs : Array Value) (hcs : cs.size = 2) (hone : cs.toList.all (·.oneCell') = true) (w : World) :
    Calls Yba.prog 18 #[.slice none 0 0, .int .i64 n, .agg cs] w fun e w' => (∃ a c, e = .returned (.slice a n c)) ∧ Below w.heap.size w w' := by
  obtain ⟨i0, z, hi, hz0, hz1, hz2, hzs⟩ := info_of info60 rfl
  have hinf : (Yba.prog.info? 60).map (·.size) = some cs.size := by rw [hi, hcs]; simp [hz1]
  have HC : Hid (cs.size = 2) := hcs
  have HU : Hid (cs.toList.all (·.oneCell') = true) := hone
  have hfill := fold_fill cs #[.int .u64 0, .int .u64 0] 2 hcs rfl
  clear hone
  go_enter Yba.func18, Yba.ntmps18
  go_wp2
  go_loopw [0] (fun vs wr => ∃ (k : Nat) (a : Option Addr) (c : Nat) (xs : List Value), vs = .slice a k c ∧ k ≤ n ∧ wr.ownsRow (w.heap.size + 1) 60 2 (.slice a k c) k xs ∧ Below (w.heap.size + 1) (w.alloc (.cells cs 60)) wr)
    (fun vs _ => n - lenIn vs)
  case atStart => exact ⟨0, none, 0, [], rfl, Nat.zero_le _, World.ownsRow_nil _ _ _ _, Below.refl _ _⟩
  case round =>
    obtain ⟨k, a, c, xs, rfl, hk, hown, hbel⟩ := hrel
    have hsz := hbel.size
    try simp at hsz
    have hheap : wr.heap[w.heap.size]? = some (.cells cs 60 (0, 0)) := (hbel.block _ (Nat.lt_succ_self _)).trans (heap_alloc_new w _)
    by_cases hlt : k < n
    · have hlt' : (k : Int) < n := by omega
      have HB : Hid (Below (w.heap.size + 1) (w.alloc (.cells cs 60)) wr) := hbel
      have HO : Hid (wr.ownsRow (w.heap.size + 1) 60 2 (.slice a k c) k xs) := hown
      clear hbel hown
      go_wp2_with (first | (refine wpList_load_row rfl 60 _ rfl w.heap.size rfl 60 cs (0, 0) _ hheap Yba.underlying60 rfl hinf ?_) | (at_builtin; refine wpList_append_own _ rfl _ _ 61 rfl (w.heap.size + 1) 60 i0 z 2 16 Yba.underlying61 hi hz0 hz1 hz2 hzs (by decide) _ _ _ rfl (HO.out.alloc _) ⟨wr.heap.size, 0, none⟩ 1 1 cs.toList rfl ?c0 ?c1 ?c2 ?c3 ?c4 ?c5 ?_))
      case c0 => exact (by rw [Array.length_toList, HC.out])
      case c1 => exact fun j u hj => cells_new _ cs _ j u hj
      case c2 => exact List.all_eq_true.1 HU.out
      case c3 => unfold maxLen; omega
      case c4 => omega
      case c5 => simp; try omega
      · intro v' w1 hown' hgrow _
        obtain ⟨a', c', rfl⟩ := owns_shape hown'
        have hb1 := below_grown (HB.out.alloc (by omega) _) (HO.out.alloc _) hgrow (by simp; try omega)
        clear hgrow
        go_wp2
        go_roundw
        case rel => exact ⟨k + 1, a', c', _, rfl, by omega, hown', hb1⟩
        case measure => simp [lenIn]; omega
    · obtain rfl : k = n := by omega
      clear hlt
      go_wp2
      go_ret
      exact ⟨⟨a, c, rfl⟩, ((Below.refl _ w).alloc (Nat.le_refl _) _).trans (hbel.mono (by omega))⟩

theorem info4 : (Yba.prog.info? 4).map (fun i => (i.zero, i.size, i.bytes)) = some (some (.bool false), 1, 1) := by kernel_rfl
set_option maxHeartbeats 1000000 in
set_option maxRecDepth 100000 in
theorem ext19 (n : Nat) (hn : n ≤ 2048) (w : World) :
    Calls Yba.prog 19 #[.slice none 0 0, .int .i64 n, .bool false] w fun e w' => (∃ a c, e = .returned (.slice a n c)) ∧ Below w.heap.size w w' := by
  obtain ⟨i0, z, hi, hz0, hz1, hz2, hzs⟩ := info_of info4 rfl
  go_enter Yba.func19, Yba.ntmps19
  go_wp2
  go_loopw [0] (fun vs wr => ∃ (k : Nat) (a : Option Addr) (c : Nat) (xs : List Value), vs = .slice a k c ∧ k ≤ n ∧ wr.ownsRow (w.heap.size) 4 1 (.slice a k c) k xs ∧ Below (w.heap.size) w wr)
    (fun vs _ => n - lenIn vs)
  case atStart => exact ⟨0, none, 0, [], rfl, Nat.zero_le _, World.ownsRow_nil _ _ _ _, Below.refl _ _⟩
  case round =>
    obtain ⟨k, a, c, xs, rfl, hk, hown, hbel⟩ := hrel
    have hsz := hbel.size
    try simp at hsz
    by_cases hlt : k < n
    · have hlt' : (k : Int) < n := by omega
      have HB : Hid (Below (w.heap.size) w wr) := hbel
      have HO : Hid (wr.ownsRow (w.heap.size) 4 1 (.slice a k c) k xs) := hown
      clear hbel hown
      go_wp2_with (first | (at_builtin; refine wpList_append_own _ rfl _ _ 62 rfl (w.heap.size) 4 i0 z 1 1 Yba.underlying62 hi hz0 hz1 hz2 hzs (by decide) _ _ _ rfl (HO.out.alloc _) ⟨wr.heap.size, 0, none⟩ 1 1 [.bool false] rfl ?c0 ?c1 ?c2 ?c3 ?c4 ?c5 ?_))
      case c0 => exact rfl
      case c1 => exact fun j u hj => cells_new _ #[.bool false] _ j u hj
      case c2 => exact List.all_eq_true.1 rfl
      case c3 => unfold maxLen; omega
      case c4 => omega
      case c5 => simp; try omega
      · intro v' w1 hown' hgrow _
        obtain ⟨a', c', rfl⟩ := owns_shape hown'
        have hb1 := below_grown (HB.out.alloc (by omega) _) (HO.out.alloc _) hgrow (by simp; try omega)
        clear hgrow
        go_wp2
        go_roundw
        case rel => exact ⟨k + 1, a', c', _, rfl, by omega, hown', hb1⟩
        case measure => simp [lenIn]; omega
    · obtain rfl : k = n := by omega
      clear hlt
      go_wp2
      go_ret
      exact ⟨⟨a, c, rfl⟩, hbel⟩

theorem info99 : (Yba.prog.info? 99).map (fun i => (i.zero, i.size, i.bytes)) = some (some (.pointer none), 1, 8) := by kernel_rfl
set_option maxHeartbeats 1000000 in
set_option maxRecDepth 100000 in
theorem ext20 (n : Nat) (hn : n ≤ 2048) (w : World) :
    Calls Yba.prog 20 #[.slice none 0 0, .int .i64 n, .pointer none] w fun e w' => (∃ a c, e = .returned (.slice a n c)) ∧ Below w.heap.size w w' := by
  obtain ⟨i0, z, hi, hz0, hz1, hz2, hzs⟩ := info_of info99 rfl
  go_enter Yba.func20, Yba.ntmps20
  go_wp2
  go_loopw [0] (fun vs wr => ∃ (k : Nat) (a : Option Addr) (c : Nat) (xs : List Value), vs = .slice a k c ∧ k ≤ n ∧ wr.ownsRow (w.heap.size) 99 1 (.slice a k c) k xs ∧ Below (w.heap.size) w wr)
    (fun vs _ => n - lenIn vs)
  case atStart => exact ⟨0, none, 0, [], rfl, Nat.zero_le _, World.ownsRow_nil _ _ _ _, Below.refl _ _⟩
  case round =>
    obtain ⟨k, a, c, xs, rfl, hk, hown, hbel⟩ := hrel
    have hsz := hbel.size
    try simp at hsz
    by_cases hlt : k < n
    · have hlt' : (k : Int) < n := by omega
      have HB : Hid (Below (w.heap.size) w wr) := hbel
      have HO : Hid (wr.ownsRow (w.heap.size) 99 1 (.slice a k c) k xs) := hown
      clear hbel hown
      go_wp2_with (first | (at_builtin; refine wpList_append_own _ rfl _ _ 63 rfl (w.heap.size) 99 i0 z 1 8 Yba.underlying63 hi hz0 hz1 hz2 hzs (by decide) _ _ _ rfl (HO.out.alloc _) ⟨wr.heap.size, 0, none⟩ 1 1 [.pointer none] rfl ?c0 ?c1 ?c2 ?c3 ?c4 ?c5 ?_))
      case c0 => exact rfl
      case c1 => exact fun j u hj => cells_new _ #[.pointer none] _ j u hj
      case c2 => exact List.all_eq_true.1 rfl
      case c3 => unfold maxLen; omega
      case c4 => omega
      case c5 => simp; try omega
      · intro v' w1 hown' hgrow _
        obtain ⟨a', c', rfl⟩ := owns_shape hown'
        have hb1 := below_grown (HB.out.alloc (by omega) _) (HO.out.alloc _) hgrow (by simp; try omega)
        clear hgrow
        go_wp2
        go_roundw
        case rel => exact ⟨k + 1, a', c', _, rfl, by omega, hown', hb1⟩
        case measure => simp [lenIn]; omega
    · obtain rfl : k = n := by omega
      clear hlt
      go_wp2
      go_ret
      exact ⟨⟨a, c, rfl⟩, hbel⟩

theorem info120 : (Yba.prog.info? 120).map (fun i => (i.zero, i.size, i.bytes)) = some (some (.pointer none), 1, 8) := by kernel_rfl
set_option maxHeartbeats 1000000 in
set_option maxRecDepth 100000 in
theorem ext21 (n : Nat) (hn : n ≤ 2048) (w : World) :
    Calls Yba.prog 21 #[.slice none 0 0, .int .i64 n, .pointer none] w fun e w' => (∃ a c, e = .returned (.slice a n c)) ∧ Below w.heap.size w w' := by
  obtain ⟨i0, z, hi, hz0, hz1, hz2, hzs⟩ := info_of info120 rfl
  go_enter Yba.func21, Yba.ntmps21
  go_wp2
  go_loopw [0] (fun vs wr => ∃ (k : Nat) (a : Option Addr) (c : Nat) (xs : List Value), vs = .slice a k c ∧ k ≤ n ∧ wr.ownsRow (w.heap.size) 120 1 (.slice a k c) k xs ∧ Below (w.heap.size) w wr)
    (fun vs _ => n - lenIn vs)
  case atStart => exact ⟨0, none, 0, [], rfl, Nat.zero_le _, World.ownsRow_nil _ _ _ _, Below.refl _ _⟩
  case round =>
    obtain ⟨k, a, c, xs, rfl, hk, hown, hbel⟩ := hrel
    have hsz := hbel.size
    try simp at hsz
    by_cases hlt : k < n
    · have hlt' : (k : Int) < n := by omega
      have HB : Hid (Below (w.heap.size) w wr) := hbel
      have HO : Hid (wr.ownsRow (w.heap.size) 120 1 (.slice a k c) k xs) := hown
      clear hbel hown
      go_wp2_with (first | (at_builtin; refine wpList_append_own _ rfl _ _ 66 rfl (w.heap.size) 120 i0 z 1 8 Yba.underlying66 hi hz0 hz1 hz2 hzs (by decide) _ _ _ rfl (HO.out.alloc _) ⟨wr.heap.size, 0, none⟩ 1 1 [.pointer none] rfl ?c0 ?c1 ?c2 ?c3 ?c4 ?c5 ?_))
      case c0 => exact rfl
      case c1 => exact fun j u hj => cells_new _ #[.pointer none] _ j u hj
      case c2 => exact List.all_eq_true.1 rfl
      case c3 => unfold maxLen; omega
      case c4 => omega
      case c5 => simp; try omega
      · intro v' w1 hown' hgrow _
        obtain ⟨a', c', rfl⟩ := owns_shape hown'
        have hb1 := below_grown (HB.out.alloc (by omega) _) (HO.out.alloc _) hgrow (by simp; try omega)
        clear hgrow
        go_wp2
        go_roundw
        case rel => exact ⟨k + 1, a', c', _, rfl, by omega, hown', hb1⟩
        case measure => simp [lenIn]; omega
    · obtain rfl : k = n := by omega
      clear hlt
      go_wp2
      go_ret
      exact ⟨⟨a, c, rfl⟩, hbel⟩

theorem info57 : (Yba.prog.info? 57).map (fun i => (i.zero, i.size, i.bytes)) = some (some (.int .u64 0), 1, 8) := by kernel_rfl
set_option maxHeartbeats 1000000 in
set_option maxRecDepth 100000 in
theorem ext22 (n : Nat) (hn : n ≤ 2048) (q : Int) (w : World) :
    Calls Yba.prog 22 #[.slice none 0 0, .int .i64 n, .int .u64 q] w fun e w' => (∃ a c, e = .returned (.slice a n c)) ∧ Below w.heap.size w w' := by
  obtain ⟨i0, z, hi, hz0, hz1, hz2, hzs⟩ := info_of info57 rfl
  go_enter Yba.func22, Yba.ntmps22
  go_wp2
  go_loopw [0] (fun vs wr => ∃ (k : Nat) (a : Option Addr) (c : Nat) (xs : List Value), vs = .slice a k c ∧ k ≤ n ∧ wr.ownsRow (w.heap.size) 57 1 (.slice a k c) k xs ∧ Below (w.heap.size) w wr)
    (fun vs _ => n - lenIn vs)
  case atStart => exact ⟨0, none, 0, [], rfl, Nat.zero_le _, World.ownsRow_nil _ _ _ _, Below.refl _ _⟩
  case round =>
    obtain ⟨k, a, c, xs, rfl, hk, hown, hbel⟩ := hrel
    have hsz := hbel.size
    try simp at hsz
    by_cases hlt : k < n
    · have hlt' : (k : Int) < n := by omega
      have HB : Hid (Below (w.heap.size) w wr) := hbel
      have HO : Hid (wr.ownsRow (w.heap.size) 57 1 (.slice a k c) k xs) := hown
      clear hbel hown
      go_wp2_with (first | (at_builtin; refine wpList_append_own _ rfl _ _ 67 rfl (w.heap.size) 57 i0 z 1 8 Yba.underlying67 hi hz0 hz1 hz2 hzs (by decide) _ _ _ rfl (HO.out.alloc _) ⟨wr.heap.size, 0, none⟩ 1 1 [.int .u64 q] rfl ?c0 ?c1 ?c2 ?c3 ?c4 ?c5 ?_))
      case c0 => exact rfl
      case c1 => exact fun j u hj => cells_new _ #[.int .u64 q] _ j u hj
      case c2 => exact List.all_eq_true.1 rfl
      case c3 => unfold maxLen; omega
      case c4 => omega
      case c5 => simp; try omega
      · intro v' w1 hown' hgrow _
        obtain ⟨a', c', rfl⟩ := owns_shape hown'
        have hb1 := below_grown (HB.out.alloc (by omega) _) (HO.out.alloc _) hgrow (by simp; try omega)
        clear hgrow
        go_wp2
        go_roundw
        case rel => exact ⟨k + 1, a', c', _, rfl, by omega, hown', hb1⟩
        case measure => simp [lenIn]; omega
    · obtain rfl : k = n := by omega
      clear hlt
      go_wp2
      go_ret
      exact ⟨⟨a, c, rfl⟩, hbel⟩

end Go.Proofs.Ybulkbawq
