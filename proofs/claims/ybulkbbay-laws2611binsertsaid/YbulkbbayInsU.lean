/-
  slices.Insert at []uint64, one value, a slice without room.
-/
import Derived.Test.YbulkbbayBase
import Derived.Shelf.Spec.SlicesInsert
import Derived.Lib.AppendZerosOnto
import Derived.Laws.NewBlocks
import Derived.Deep.RegionLaw
import Derived.Deep.QuietTactic
namespace Go.Proofs.Ybulkbbay
open Go.RowKit

theorem info24 : (Yba.prog.info? 24).map (fun i => (i.zero, i.size, i.bytes)) = some (some (.int .u64 0), 1, 8) := by kernel_rfl

/-- What stood ahead of i, x, what stood from i on. -/
def ins {α : Type} (i : Nat) (x : α) (cs : List α) : List α := cs.take i ++ x :: cs.drop i
theorem ins_length {α : Type} (i : Nat) (x : α) (cs : List α) : (ins i x cs).length = cs.length + 1 := by
  simp [ins]; omega
theorem ins_lo {α : Type} {i : Nat} {x : α} {cs : List α} {j : Nat} (hj : j < i) (hi : i ≤ cs.length) : (ins i x cs)[j]? = cs[j]? := by
  unfold ins
  rw [List.getElem?_append_left (by simp; omega), List.getElem?_take_of_lt hj]
theorem ins_at {α : Type} {i : Nat} {x : α} {cs : List α} (hi : i ≤ cs.length) : (ins i x cs)[i]? = some x := by
  unfold ins
  rw [List.getElem?_append_right (by simp; omega), show i - (cs.take i).length = 0 by simp; omega]
  rfl
theorem ins_hi {α : Type} {i : Nat} {x : α} {cs : List α} {j : Nat} (hj : i ≤ j) (hi : i ≤ cs.length) : (ins i x cs)[j + 1]? = cs[j]? := by
  unfold ins
  rw [List.getElem?_append_right (by simp; omega), show j + 1 - (cs.take i).length = (j - i) + 1 by simp; omega, List.getElem?_cons_succ, List.getElem?_drop, show i + (j - i) = j by omega]

theorem heap_alloc_new (w : World) (o : Obj) : (w.alloc o).heap[w.heap.size]? = some o := by
  show (w.heap.push o)[w.heap.size]? = some o
  rw [Array.getElem?_push_size]
theorem Row.new (X : World) (cur : Array Value) (t : TypeId) (vs : List Value) (hl : vs.length ≤ cur.size) (h : cur.toList.take vs.length = vs) : Row (X.alloc (.cells cur t)) X.heap.size cur.size t vs :=
  Row.of_take (heap_alloc_new X _) rfl hl h

set_option maxHeartbeats 2000000 in
/-- At the end. -/
theorem insU_end (b vb : Nat) (cs : List Value) (x : Value) (w : World) (hn : cs.length ≤ 1024) (hcs : Row w b cs.length 24 cs) (hx : Row w vb 1 24 [x]) :
    Calls Yba.prog 16 #[.slice (some ⟨b, 0, none⟩) cs.length cs.length, .int .i64 cs.length, .slice (some ⟨vb, 0, none⟩) 1 1] w fun e w' =>
      ∃ g c, e = .returned (.slice (some ⟨g, 0, none⟩) (cs.length + 1) c) ∧ w.heap.size ≤ g ∧ Below w.heap.size w w' ∧ Row w' g c 24 (ins cs.length x cs) := by
  obtain ⟨i0, hi0, hz0, hzs, hzb⟩ := info_parts info24
  have hins : ins cs.length x cs = cs ++ [x] := by simp [ins]
  obtain ⟨G, hG⟩ : ∃ G, G = grownCap w (cs.length + 1) cs.length 24 := ⟨_, rfl⟩
  have hGn : cs.length + 1 ≤ G := by rw [hG]; exact grownCap_ge w _ _ _
  obtain ⟨ROW, hROW⟩ : ∃ ROW : Array Value, ROW = cs.toArray ++ #[x] ++ Builtin.zeroCells (Value.int .u64 0).cells (G - (cs.length + 1)) := ⟨_, rfl⟩
  have hRs : ROW.size = G := by
    rw [hROW]
    simp [Builtin.zeroCells, Value.cells]
    omega
  obtain ⟨W1, hW1⟩ : ∃ W1, W1 = w.drew.alloc (.cells ROW 24) := ⟨_, rfl⟩
  have hrun' : ∀ ty, (Builtin.append_ #[23, 23] ty #[.slice (some ⟨b, 0, none⟩) cs.length cs.length, .slice (some ⟨vb, 0, none⟩) 1 1]).run Yba.prog w = .ok (.slice (some ⟨w.heap.size, 0, none⟩) (cs.length + 1) G) W1 := fun ty => by
    have := run_append_grow (P := Yba.prog) w 23 ty 24 i0 _ Yba.underlying23 hi0 hz0 ⟨b, 0, none⟩ cs.length cs.length cs (by rw [hzs]; omega) (fun j v hv => by rw [Addr.add_lit]; simpa using hcs.at_ j v hv) ⟨vb, 0, none⟩ 1 1 [x] (by rw [hzs]; rfl) (fun j v hv => by rw [Addr.add_lit]; simpa using hx.at_ j v hv) (by omega) (by omega) (growslice_fits (by omega) (by rw [hzb]; omega))
    rw [← hG, ← hROW, ← hW1] at this
    exact this
  have HR2 : Hid (Row W1 w.heap.size G 24 (ins cs.length x cs)) := by
    show Row _ _ _ _ _
    rw [hW1, ← hRs]
    refine Row.new w.drew ROW 24 _ (by rw [hins, hRs]; simpa using hGn) ?_
    have e : ROW.toList = (cs ++ [x]) ++ (Builtin.zeroCells (Value.int .u64 0).cells (G - (cs.length + 1))).toList := by rw [hROW]; simp
    rw [hins, e, List.take_left]
  have HB : Hid (Below w.heap.size w W1) := by
    show Below _ _ _
    rw [hW1]
    exact (Below.refl _ w).drew.alloc (Nat.le_refl _) _
  clear hROW hRs hG hW1 hcs hx
  go_enter Yba.func16, Yba.ntmps16
  go_wp2_with (at_builtin; refine Lib.wpList_append_run _ rfl _ _ _ _ rfl _ _ rfl rfl _ _ (hrun' _) ?_)
  go_ret
  exact ⟨_, _, rfl, Nat.le_refl _, HB.out, HR2.out⟩

set_option maxHeartbeats 4000000 in
set_option maxRecDepth 100000 in
/-- In the midst. -/
theorem insU_mid (b vb i : Nat) (cs : List Value) (x : Value) (w : World) (hi : i < cs.length) (hn : cs.length ≤ 1024) (hcs : Row w b cs.length 24 cs) (hx : Row w vb 1 24 [x]) (h1c : ∀ v ∈ cs, v.oneCell' = true) (h1x : x.oneCell' = true) :
    Calls Yba.prog 16 #[.slice (some ⟨b, 0, none⟩) cs.length cs.length, .int .i64 i, .slice (some ⟨vb, 0, none⟩) 1 1] w fun e w' =>
      ∃ g c, e = .returned (.slice (some ⟨g, 0, none⟩) (cs.length + 1) c) ∧ w.heap.size ≤ g ∧ Below w.heap.size w w' ∧ Row w' g c 24 (ins i x cs) := by
  obtain ⟨i0, hi0, hz0, hzs, hzb⟩ := info_parts info24
  have hsz : (Yba.prog.info? 24).map (·.size) = some 1 := by rw [hi0]; simp [hzs]
  have hkk : (cs.length : Int) + 1 - (i : Int) = ((cs.length + 1 - i : Nat) : Int) := by omega
  have hik : i + (cs.length + 1 - i) = cs.length + 1 := by omega
  have hold : (Builtin.firstCells i0.size i (.slice (some ⟨b, 0, none⟩) i cs.length)).run Yba.prog w.drew = .ok (cs.take i).toArray w.drew := by
    rw [hzs]
    exact run_firstCells_some w.drew 1 i ⟨b, 0, none⟩ i cs.length (cs.take i) (by rw [List.length_take]; omega) (fun j v hj => by
      rw [Addr.add_lit]
      rw [List.getElem?_take] at hj
      split at hj
      · simpa using hcs.at_ j v hj
      · cases hj)
  obtain ⟨G, hG⟩ : ∃ G, G = grownCap w (cs.length + 1) cs.length 24 := ⟨_, rfl⟩
  have hGn : cs.length + 1 ≤ G := by rw [hG]; exact grownCap_ge w _ _ _
  have hG63 : G ≤ 9223372036854775807 := by
    have := grownCap_le_maxLen w (cs.length + 1) cs.length 24 (by unfold maxLen; omega)
    rw [← hG] at this
    unfold maxLen at this
    omega
  obtain ⟨ROW, hROW⟩ : ∃ ROW : Array Value, ROW = (cs.take i).toArray ++ Builtin.zeroCells (Value.int .u64 0).cells (cs.length + 1 - i) ++ Builtin.zeroCells (Value.int .u64 0).cells (G - (cs.length + 1)) := ⟨_, rfl⟩
  have hRs : ROW.size = G := by
    rw [hROW]
    simp [Builtin.zeroCells, Value.cells]
    omega
  have hrz : ∀ ty, (Builtin.append_ #[23, 3] ty #[.slice (some ⟨b, 0, none⟩) i cs.length, .int .i64 ((cs.length : Int) + 1 - (i : Int))]).run Yba.prog w = .ok (.slice (some ⟨w.heap.size, 0, none⟩) (cs.length + 1) G) (w.drew.alloc (.cells ROW 24)) := fun ty => by
    have h := Lib.run_append_grow_zeros w 23 3 ty 24 i0 _ .i64 .i64 Yba.underlying23 Yba.underlying3 hi0 hz0 (some ⟨b, 0, none⟩) i cs.length (cs.take i) hold (cs.length + 1 - i) (by omega) (by omega) (by omega) (by omega) (by rw [hzb]; omega) (by rw [hzb, hik]; exact growslice_fits (by omega) (by omega))
    rw [hik, ← hG, ← hROW] at h
    rw [hkk]
    exact h
  have hbw := hcs.lt
  have hvw := hx.lt
  obtain ⟨W1, hW1⟩ : ∃ W1, W1 = w.drew.alloc (.cells ROW 24) := ⟨_, rfl⟩
  rw [← hW1] at hrz
  have hRow1 : Row W1 w.heap.size G 24 (cs.take i) := by
    rw [hW1, ← hRs]
    refine Row.new w.drew ROW 24 _ (by rw [hRs]; simp; omega) ?_
    rw [hROW]
    simp
  have hB1 : Below w.heap.size w W1 := by rw [hW1]; exact (Below.refl _ w).drew.alloc (Nat.le_refl _) _
  have hcs1 := hcs.below hB1 hbw
  have hx1 := hx.below hB1 hvw
  have hcpA : ∀ ty dc, (Builtin.copy_ #[23, 23] ty #[.slice (some ⟨w.heap.size, i, none⟩) (cs.length + 1 - i) dc, .slice (some ⟨vb, 0, none⟩) 1 1]).run Yba.prog W1 = .ok (goInt 1) (W1.setCells w.heap.size i [x]) := fun ty dc =>
    run_copy_cells W1 _ _ ty 24 w.heap.size i (cs.length + 1 - i) dc ⟨vb, 0, none⟩ 1 1 [x] Yba.underlying23 hsz (by simp only [Nat.min_def, List.length_singleton]; split <;> omega)
      (fun j v hj => by rw [Addr.add_lit]; simpa using hx1.at_ j v hj)
      (fun j hj => hRow1.some_ _ (by simp at hj; omega)) (fun j hj => hRow1.frozen _) (fun v hv => by rw [List.mem_singleton.1 hv]; exact h1x)
  obtain ⟨W2, hW2⟩ : ∃ W2, W2 = W1.setCells w.heap.size i [x] := ⟨_, rfl⟩
  have hRow2 : Row W2 w.heap.size G 24 (cs.take i ++ [x]) := by
    rw [hW2]
    refine hRow1.stored i [x] (by simp; omega) _ (by simp; omega) (fun j hj => ?_) (fun j hj ho => ?_)
    · have : j = 0 := by simpa using hj
      subst this
      rw [List.getElem?_append_right (by simp; omega)]
      simp
      rw [show i - min i cs.length = 0 by omega]
      rfl
    · simp at hj ho
      rw [List.getElem?_append_left (by simp; omega)]
  have hB2 : Below w.heap.size w W2 := by
    rw [hW2]
    exact hB1.grown (grown_setCells _ _ _ _) (Nat.le_of_lt hRow1.lt) (fun k e => by cases e; exact Nat.le_refl _)
  have hcs2 := hcs.below hB2 hbw
  rw [← hW2] at hcpA
  have hdl : (cs.drop i).length = cs.length - i := by simp
  have hcpB : ∀ ty dc sc, (Builtin.copy_ #[23, 23] ty #[.slice (some ⟨w.heap.size, i + 1, none⟩) (cs.length + 1 - (i + 1)) dc, .slice (some ⟨b, i, none⟩) (cs.length - i) sc]).run Yba.prog W2.drew = .ok (goInt (cs.drop i).length) (W2.drew.setCells w.heap.size (i + 1) (cs.drop i)) := fun ty dc sc =>
    run_copy_cells W2.drew _ _ ty 24 w.heap.size (i + 1) (cs.length + 1 - (i + 1)) dc ⟨b, i, none⟩ (cs.length - i) sc (cs.drop i) Yba.underlying23 hsz (by rw [hdl]; simp only [Nat.min_def]; split <;> omega)
      (fun j v hj => by rw [Addr.add_lit]; exact hcs2.at_ (i + j) v (by rwa [List.getElem?_drop] at hj))
      (fun j hj => hRow2.some_ _ (by rw [hdl] at hj; omega)) (fun j hj => hRow2.frozen _) (fun v hv => h1c v (List.mem_of_mem_drop hv))
  have HEND : Hid (Below w.heap.size w (W2.drew.setCells w.heap.size (i + 1) (cs.drop i)) ∧ Row (W2.drew.setCells w.heap.size (i + 1) (cs.drop i)) w.heap.size G 24 (ins i x cs)) := by
    refine ⟨hB2.drew.grown (grown_setCells _ _ _ _) (Nat.le_of_lt hRow2.lt) (fun k e => by cases e; exact Nat.le_refl _), ?_⟩
    refine (hRow2.same (W' := W2.drew) rfl).stored (i + 1) (cs.drop i) (by rw [hdl]; omega) _ (by rw [ins_length]; omega) (fun j hj => ?_) (fun j hj ho => ?_)
    · rw [show i + 1 + j = (i + j) + 1 by omega, ins_hi (by omega) (by omega), List.getElem?_drop]
    · rw [ins_length] at hj
      rw [hdl] at ho
      rcases Nat.lt_or_ge j i with h | h
      · rw [ins_lo h (by omega), List.getElem?_append_left (by simp; omega), List.getElem?_take_of_lt h]
      · have : j = i := by omega
        subst this
        rw [ins_at (by omega), List.getElem?_append_right (by simp; omega)]
        simp
        rw [show j - min j cs.length = 0 by omega]
        rfl
  have hz2 : ¬ ((i : Int) = (cs.length : Int)) := by omega
  have hz3 : (cs.length : Int) < (cs.length : Int) + 1 := by omega
  have hGi : ¬ (G = i) := by omega
  have hGim : ¬ (G = i + 1) := by omega
  have hci : ¬ (cs.length = i) := by omega
  have hin : i ≤ cs.length := by omega
  have hb3 : (i : Int) ≤ (cs.length : Int) := by omega
  have hin1 : (i : Int) + 1 ≤ (cs.length : Int) + 1 := by omega
  have hw1 : IntKind.i64.wrap ((i : Int) + 1) = (i : Int) + 1 := by rw [IntKind.wrap_i64]; omega
  have hb1 : (0 : Int) ≤ (i : Int) + 1 := by omega
  have htn : ((i : Int) + 1).toNat = i + 1 := by omega
  clear hkk hik hold hROW hG hRs hcs hx hcs1 hx1 hcs2 hRow1 hRow2 hB1 hB2 hW1 hW2 hdl h1c
  generalize hL : cs.length = n at *
  go_enter Yba.func16, Yba.ntmps16
  go_wp2_with (first
    | (at_builtin; refine Lib.wpList_append_run _ rfl _ _ _ _ rfl _ _ rfl rfl _ _ (hrz _) ?_)
    | (at_builtin; refine wpList_copy_runI _ rfl _ _ 23 23 rfl _ _ rfl rfl (hcpA _ _) ?_))
  go_region_law (refine step_copy_runI rfl _ _ 23 23 rfl (.slice (some ⟨w.heap.size, i + 1, none⟩) (n + 1 - (i + 1)) (G - (i + 1))) (.slice (some ⟨b, i, none⟩) (n - i) (n - i)) (by simp [Act.eval, Act.put]) (by simp [Act.eval, Act.put]) (hcpB 3 (G - (i + 1)) (n - i)) ?_)
  all_goals
    go_wp2
    go_ret
    exact ⟨_, _, rfl, Nat.le_refl _, HEND.out.1, HEND.out.2⟩
end Go.Proofs.Ybulkbbay
