/-
  (*Clock).find, ownHosts, insert.
-/
import Derived.Test.YbulkbbayInsU
import Derived.Test.YbulkbbayShelf
import Derived.BigQuiet
import Derived.Deep.RegionHeld3
namespace Go.Proofs.Ybulkbbay
open Go.RowKit

theorem info9 : (Yba.prog.info? 9).map (fun i => (i.zero, i.size, i.bytes)) = some (some (.string ⟨#[]⟩), 1, 16) := by kernel_rfl

def str (s : Str) : Value := .string ⟨s.toArray⟩
theorem encStr_str : Go.Proofs.encStr = str := rfl
theorem str_toList (s : Str) : (⟨s.toArray⟩ : ByteArray).toList = s := by rw [ByteArray.toList_eq]
theorem strs_one (L : List Str) : ∀ v ∈ L.map str, v.oneCell' = true := by
  intro v hv
  obtain ⟨s, _, rfl⟩ := List.mem_map.1 hv
  rfl

/-- The clock's box. -/
def Box (W : World) (cb : Nat) (hv cv : Value) (own : Bool) : Prop := W.heap[cb]? = some (.cells #[hv, cv, .bool own] 29 (0, 0))
theorem Box.c0 {W : World} {cb : Nat} {hv cv : Value} {own : Bool} (h : Box W cb hv cv own) : W.cell? ⟨cb, 0, none⟩ = some hv := (cell_of_heap h 0).trans rfl
theorem Box.c1 {W : World} {cb : Nat} {hv cv : Value} {own : Bool} (h : Box W cb hv cv own) : W.cell? ⟨cb, 1, none⟩ = some cv := (cell_of_heap h 1).trans rfl
theorem Box.c2 {W : World} {cb : Nat} {hv cv : Value} {own : Bool} (h : Box W cb hv cv own) : W.cell? ⟨cb, 2, none⟩ = some (.bool own) := (cell_of_heap h 2).trans rfl
theorem Box.fr {W : World} {cb : Nat} {hv cv : Value} {own : Bool} (h : Box W cb hv cv own) (j : Nat) : W.frozen? ⟨cb, j, none⟩ = false := by simp [World.frozen?, show W.heap[cb]? = _ from h]
theorem Box.lt {W : World} {cb : Nat} {hv cv : Value} {own : Bool} (h : Box W cb hv cv own) : cb < W.heap.size := lt_of_heap h

set_option maxHeartbeats 1000000 in
/-- find at a list that ascends strictly. -/
theorem find_any (cb g cap : Nat) (L : List Str) (hL : L.Pairwise (fun x y => x < y)) (hl : L.length ≤ 1024) (x : ByteArray) (cv : Value) (own : Bool) (w : World) (hb : Box w cb (.slice (some ⟨g, 0, none⟩) L.length cap) cv own) (hr : Row w g cap 9 (L.map str)) :
    Calls Yba.prog 8 #[.pointer (some ⟨cb, 0, none⟩), .string x] w fun e w' => e = .returned (.tuple #[.int .i64 (place L x.toList : Nat), .bool (decide (x.toList ∈ L))]) ∧ ∃ q, w' = w.drewN q := by
  obtain ⟨p1, p2, p3⟩ := place_spec hL x.toList
  obtain ⟨Sx, hSx⟩ : ∃ Sx : Nat → ByteArray, Sx = fun t => if h : t < L.length then ⟨L[t].toArray⟩ else x := ⟨_, rfl⟩
  have hless : ∀ t, Op.bytesLess (Sx t).toList x.toList = if h : t < L.length then decide (L[t] < x.toList) else false := by
    intro t
    rw [bytesLess_eq, hSx]
    by_cases h : t < L.length
    · simp only [h, dif_pos]; rw [str_toList]
    · simp only [h]
      simp [List.lt_irrefl]
  have hgo : Lib.bsGo (fun t => Op.bytesLess (Sx t).toList x.toList) L.length 0 L.length = place L x.toList := by
    refine Lib.bsGo_spec _ (place L x.toList) (fun t ht => ?_) (fun t ht => ?_) L.length 0 L.length (by omega) (by omega) p1
    · have h : t < L.length := by omega
      rw [hless, dif_pos h]
      simpa using p2 t h ht
    · rw [hless]
      by_cases h : t < L.length
      · rw [dif_pos h]
        simpa using p3 t h ht
      · rw [dif_neg h]
  have hfd : decide (place L x.toList < L.length ∧ Sx (place L x.toList) = x) = decide (x.toList ∈ L) := by
    refine decide_eq_decide.2 ⟨fun ⟨h1, h2⟩ => ?_, fun h => ?_⟩
    · rw [hSx] at h2
      simp only [h1, dif_pos] at h2
      rw [← h2, str_toList]
      exact List.getElem_mem _
    · obtain ⟨t, ht, e⟩ := List.getElem_of_mem h
      have h1 : place L x.toList ≤ t := Nat.le_of_not_lt fun hlt => by
        have := p2 t ht hlt
        rw [e] at this
        exact List.lt_irrefl _ this
      have h2 : t = place L x.toList := by
        rcases Nat.lt_or_ge (place L x.toList) t with hlt | hge
        · have h3 := p3 (place L x.toList) (by omega) (Nat.le_refl _)
          have h4 := List.pairwise_iff_getElem.1 hL (place L x.toList) t (by omega) ht hlt
          rw [e] at h4
          exact absurd h4 h3
        · omega
      subst h2
      refine ⟨ht, ?_⟩
      rw [hSx]
      simp only [ht, dif_pos, e]
      rw [ByteArray.toList_eq]
  have hbs := Yba.slices_BinarySearch_string g 0 L.length cap Sx x w (by omega) (fun j hj => by
    rw [Nat.zero_add, hr.at_ j (.string (Sx j)) ?_]
    rw [hSx]
    simp [hj, str])
  rw [hgo, hfd] at hbs
  have HBS := hide hbs
  have c0 := hb.c0
  clear hbs hgo hfd hless hSx hr hb
  go_enter Yba.func8, Yba.ntmps8
  go_wp2_with fail
  refine HBS.out.mono ?_
  rintro e w' ⟨rfl, q, rfl⟩
  go_wp2
  go_ret2
  exact ⟨rfl, q, rfl⟩

set_option maxHeartbeats 400000 in
theorem own_yes (cb : Nat) (hv cv : Value) (w : World) (hb : Box w cb hv cv true) :
    Calls Yba.prog 14 #[.pointer (some ⟨cb, 0, none⟩), .int .i64 1] w fun e w' => (∃ v, e = .returned v) ∧ w' = w := by
  have c2 := hb.c2
  go_enter Yba.func14, Yba.ntmps14
  go_wp2
  go_end0
  exact ⟨⟨_, rfl⟩, rfl⟩

theorem box_set {W : World} {cb : Nat} {hv cv : Value} {own : Bool} (h : Box W cb hv cv own) (v : Value) : Box (W.setCell ⟨cb, 0, none⟩ v) cb v cv own := (heap_setCell h 0 v).trans (by simp)
theorem box_set1 {W : World} {cb : Nat} {hv cv : Value} {own : Bool} (h : Box W cb hv cv own) (v : Value) : Box (W.setCell ⟨cb, 1, none⟩ v) cb hv v own := (heap_setCell h 1 v).trans (by simp)
theorem box_set2 {W : World} {cb : Nat} {hv cv : Value} {own : Bool} (h : Box W cb hv cv own) : Box (W.setCell ⟨cb, 2, none⟩ (.bool true)) cb hv cv true := (heap_setCell h 2 _).trans (by simp)
theorem grown_setCell (W : World) (g o : Nat) (u : Value) : W.grownBy (W.setCell ⟨g, o, none⟩ u) (some g) := grown_setCells W g o [u]
theorem grown_trans {A B C : World} {r : Option Nat} (h : A.grownBy B r) (k : B.grownBy C r) : A.grownBy C r :=
  ⟨k.os.trans h.os, k.tape.trans h.tape, k.output.trans h.output, Nat.le_trans h.size k.size, fun i hi hne => (k.block i (Nat.lt_of_lt_of_le hi h.size) hne).trans (h.block i hi hne)⟩
theorem grown_drew {A B : World} {r : Option Nat} (h : A.grownBy B r) : A.grownBy B.drew r := ⟨h.os, h.tape, h.output, h.size, h.block⟩
theorem grown_of_below {A B : World} (h : Below A.heap.size A B) (r : Option Nat) : A.grownBy B r := ⟨h.os, h.tape, h.output, h.size, fun i hi _ => h.block i hi⟩

theorem step_append_eq {P : Program} {ops : Array Oper} {o : Oper} {a : Act} {w : World} {K : Act → World → Prop} {Q : Exit → Act → World → Prop} {E : Prop}
    (hg : o.guard = none) (d x : Operand) (dT sT : TypeId) (hop : o.op = Op.call { callee := Callee.builtin Builtin.append, args := #[d, x], argTypes := #[dT, sT] })
    (v u : Value) (hd : a.eval d = v) (hx : a.eval x = u) {v' : Value} {w' : World} (hr : (Builtin.append_ #[dT, sT] o.type #[v, u]).run P w = .ok v' w') (hK : K (a.put o.dst v') w') :
    if Region.wanted o (yielded ops a.tmps) = true then Oper.wp P o a w K Q else E := by
  have hw : Region.wanted o (yielded ops a.tmps) = true := by simp [Region.wanted, hg]
  rw [if_pos hw]
  unfold Oper.wp execOp
  simp only [hop, resolve, invoke, builtin, Sem.run_bind, Sem.run_pure, Result.andThen_ok, List.map_toArray, List.map_cons, List.map_nil, hd, hx, hr]
  exact hK

set_option maxHeartbeats 2000000 in
set_option maxRecDepth 100000 in
theorem own_no (cb g cap : Nat) (L : List Value) (hL1 : ∀ v ∈ L, v.oneCell' = true) (hl : L.length ≤ 1024) (cv : Value) (w : World) (hb : Box w cb (.slice (some ⟨g, 0, none⟩) L.length cap) cv false) (hr : Row w g cap 9 L) :
    Calls Yba.prog 14 #[.pointer (some ⟨cb, 0, none⟩), .int .i64 1] w fun e w' => (∃ v, e = .returned v) ∧
      Box w' cb (.slice (some ⟨w.heap.size, 0, none⟩) L.length (L.length + 1)) cv true ∧ Row w' w.heap.size (L.length + 1) 9 L ∧ w.grownBy w' (some cb) := by
  obtain ⟨i0, hi0, hz0, hzs, hzb⟩ := info_parts info9
  obtain ⟨M, hM⟩ : ∃ M : Array Value, M = madeCells (Value.string ⟨#[]⟩).cells ((L.length + 1) * 1) := ⟨_, rfl⟩
  have hMs : M.size = L.length + 1 := by rw [hM]; simp [madeCells]
  have hmk : ∀ W : World, (Instr.makeSlice 22 (.int .i64 0) (.int .i64 ((L.length : Int) + 1))).run Yba.prog W = .ok (.slice (some ⟨W.heap.size, 0, none⟩) 0 (L.length + 1)) (W.alloc (.cells M 9)) := fun W => by
    have h := run_make (P := Yba.prog) W 22 9 i0 _ Yba.underlying22 hi0 hz0 .i64 .i64 0 ((L.length : Int) + 1) (Int.le_refl _) (by omega) (by rw [hzb]; omega) (by omega)
    rw [hzs, show ((L.length : Int) + 1).toNat = L.length + 1 by omega, ← hM] at h
    exact h
  have hcb := hb.lt
  have hne : cb ≠ g := by
    obtain ⟨cur, h1, _⟩ := hr.blk
    rintro rfl
    rw [show w.heap[cb]? = _ from hb] at h1
    cases h1
  have hB1 : Below w.heap.size w (w.drew.alloc (.cells M 9)) := (Below.refl _ w).drew.alloc (Nat.le_refl _) _
  have hR0 : Row (w.drew.alloc (.cells M 9)) w.heap.size (L.length + 1) 9 [] := by
    rw [← hMs]
    exact Row.new w.drew M 9 [] (by simp) (by simp)
  have hr1 := hr.below hB1 hr.lt
  have hrun : ∀ ty, (Builtin.append_ #[22, 22] ty #[.slice (some ⟨w.heap.size, 0, none⟩) 0 (L.length + 1), .slice (some ⟨g, 0, none⟩) L.length cap]).run Yba.prog (w.drew.alloc (.cells M 9)) = .ok (.slice (some ⟨w.heap.size, 0, none⟩) L.length (L.length + 1)) ((w.drew.alloc (.cells M 9)).setCells w.heap.size 0 L) := fun ty => by
    have h := run_append_room_cells (P := Yba.prog) (w.drew.alloc (.cells M 9)) 22 ty 9 i0 Yba.underlying22 hi0 w.heap.size 0 0 (L.length + 1) ⟨g, 0, none⟩ L.length cap L (by rw [hzs]; omega) (fun j u hu => by rw [Addr.add_lit]; simpa using hr1.at_ j u hu) hL1 (by omega) (fun j hj => by simp only [Nat.zero_mul, Nat.zero_add]; exact hR0.some_ j (by omega)) (fun j hj => by simp only [Nat.zero_mul, Nat.zero_add]; exact hR0.frozen j)
    simpa using h
  obtain ⟨W2, hW2⟩ : ∃ W2, W2 = (w.drew.alloc (.cells M 9)).setCells w.heap.size 0 L := ⟨_, rfl⟩
  have hR2 : Row W2 w.heap.size (L.length + 1) 9 L := by
    rw [hW2]
    exact hR0.stored 0 L (by omega) L (by omega) (fun j _ => by rw [Nat.zero_add]) (fun j hj ho => by omega)
  have hB2 : Below w.heap.size w W2 := by
    rw [hW2]
    exact hB1.grown (grown_setCells _ _ _ _) (Nat.le_of_lt hR0.lt) (fun k e => by cases e; exact Nat.le_refl _)
  rw [← hW2] at hrun
  have hb2 : Box W2 cb (.slice (some ⟨g, 0, none⟩) L.length cap) cv false := (hB2.block cb hcb).trans hb
  have hb3 := box_set hb2 (.slice (some ⟨w.heap.size, 0, none⟩) L.length (L.length + 1))
  have hb4 := box_set2 hb3
  have hne2 : w.heap.size ≠ cb := by omega
  have HEND : Hid (Box ((W2.setCell ⟨cb, 0, none⟩ (.slice (some ⟨w.heap.size, 0, none⟩) L.length (L.length + 1))).setCell ⟨cb, 2, none⟩ (.bool true)) cb (.slice (some ⟨w.heap.size, 0, none⟩) L.length (L.length + 1)) cv true ∧
      Row ((W2.setCell ⟨cb, 0, none⟩ (.slice (some ⟨w.heap.size, 0, none⟩) L.length (L.length + 1))).setCell ⟨cb, 2, none⟩ (.bool true)) w.heap.size (L.length + 1) 9 L ∧
      w.grownBy ((W2.setCell ⟨cb, 0, none⟩ (.slice (some ⟨w.heap.size, 0, none⟩) L.length (L.length + 1))).setCell ⟨cb, 2, none⟩ (.bool true)) (some cb)) := by
    have k1 := grown_setCell W2 cb 0 (.slice (some ⟨w.heap.size, 0, none⟩) L.length (L.length + 1))
    have k2 := grown_setCell (W2.setCell ⟨cb, 0, none⟩ (.slice (some ⟨w.heap.size, 0, none⟩) L.length (L.length + 1))) cb 2 (.bool true)
    exact ⟨hb4, (hR2.grown k1 (by simpa using hne2)).grown k2 (by simpa using hne2), grown_trans (grown_trans (grown_of_below hB2 _) k1) k2⟩
  have c0 := hb.c0
  have c2 := hb.c2
  have d0 := hb2.c0
  have f0 := hb2.fr 0
  have d2 := hb3.c2
  have f2 := hb3.fr 2
  have e0 : (w.drew.alloc (.cells M 9)).cell? ⟨cb, 0, none⟩ = some (.slice (some ⟨g, 0, none⟩) L.length cap) := (hB1.cell (p := ⟨cb, 0, none⟩) hcb).trans c0
  clear hb hr hR0 hR2 hB1 hB2 hr1 hb2 hb3 hb4 hM hW2 hMs hL1
  have hwr : IntKind.i64.wrap ((L.length : Int) + 1) = (L.length : Int) + 1 := by rw [IntKind.wrap_i64]; omega
  generalize L.length = n at *
  go_enter Yba.func14, Yba.ntmps14
  go_upto_region 1 with fail
  go_region_law (refine step_append_eq rfl _ _ 22 22 rfl (.slice (some ⟨w.heap.size, 0, none⟩) 0 (n + 1)) (.slice (some ⟨g, 0, none⟩) n cap) (by simp [Act.eval]) (by simp [Act.eval]) (hrun 22) ?_)
  all_goals
    go_wp2
    go_end0
    exact ⟨⟨_, rfl⟩, HEND.out⟩

/-- slices.Insert at []string, with room. -/
theorem insS (h cap vb i : Nat) (L : List Value) (x : Value) (w : World) (hi : i ≤ L.length) (hn : L.length + 1 ≤ cap) (hc63 : cap ≤ 9223372036854775807) (hL : Row w h cap 9 L) (hx : Row w vb 1 9 [x]) (hne : vb ≠ h) (h1L : ∀ v ∈ L, v.oneCell' = true) (h1x : x.oneCell' = true) :
    Calls Yba.prog 15 #[.slice (some ⟨h, 0, none⟩) L.length cap, .int .i64 i, .slice (some ⟨vb, 0, none⟩) 1 1] w fun e w' =>
      e = .returned (.slice (some ⟨h, 0, none⟩) (L.length + 1) cap) ∧ Row w' h cap 9 (ins i x L) ∧ w.grownBy w' (some h) := by
  have hv1 : ∀ v ∈ [x], v.oneCell' = true := fun v hv => by rw [List.mem_singleton.1 hv]; exact h1x
  by_cases he : i = L.length
  · subst he
    refine (Yba.slices_Insert_string_end_room h 0 L.length cap vb 0 1 1 [x] w (by omega) hn hc63 rfl (fun j hj => hL.some_ _ (by omega)) (fun j hj => hL.frozen _) (fun j v hv => by rw [Nat.zero_add]; exact hx.at_ j v hv) hv1).mono ?_
    rintro e w' ⟨rfl, rfl⟩
    refine ⟨rfl, ?_, grown_setCells _ _ _ _⟩
    rw [Nat.zero_add]
    refine hL.stored L.length [x] (by simpa using hn) _ (by rw [ins_length]; exact hn) (fun j hj => ?_) (fun j hj ho => ?_)
    · have : j = 0 := by simpa using hj
      subst this
      rw [Nat.add_zero, ins_at (Nat.le_refl _)]; rfl
    · rw [ins_length] at hj
      simp at ho
      rw [ins_lo (by omega) (Nat.le_refl _)]
  · have hlt : i < L.length := by omega
    refine (Yba.slices_Insert_string_shift h 0 L.length cap i vb 0 1 1 L [x] w hlt (by omega) hn hc63 hne rfl rfl (fun j v hv => by rw [Nat.zero_add]; exact hL.at_ j v hv) (fun j hj => hL.some_ _ (by omega)) (fun j hj => hL.frozen _) (fun j v hv => by rw [Nat.zero_add]; exact hx.at_ j v hv) h1L hv1 9 9 1 cap hx.shape hL.shape (by omega) (hx.frozen _) (hx.frozen _)).mono ?_
    rintro e w' ⟨rfl, rfl⟩
    refine ⟨rfl, ?_, grown_trans (grown_trans (show w.grownBy w.drew (some h) from ⟨rfl, rfl, rfl, Nat.le_refl _, fun _ _ _ => rfl⟩) (grown_setCells w.drew _ _ _)) (grown_setCells _ _ _ _)⟩
    rw [Nat.zero_add, Nat.zero_add]
    have hdl : (L.drop i).length = L.length - i := by simp
    -- behind the first run of stores: cell i still holds what it held
    have hr : Row (w.drew.setCells h (i + 1) (L.drop i)) h cap 9 (ins i L[i] L) := by
      refine (hL.same (W' := w.drew) rfl).stored (i + 1) (L.drop i) (by rw [hdl]; omega) _ (by rw [ins_length]; exact hn) (fun j hj => ?_) (fun j hj ho => ?_)
      · rw [show i + 1 + j = (i + j) + 1 by omega, ins_hi (by omega) hi, List.getElem?_drop]
      · rw [ins_length] at hj
        rw [hdl] at ho
        rcases Nat.lt_or_ge j i with hji | hji
        · rw [ins_lo hji hi]
        · have : j = i := by omega
          subst this
          rw [ins_at hi, List.getElem?_eq_getElem hlt]
    refine hr.stored i [x] (by simp; omega) _ (by rw [ins_length]; exact hn) (fun j hj => ?_) (fun j hj ho => ?_)
    · have : j = 0 := by simpa using hj
      subst this
      rw [Nat.add_zero, ins_at hi]; rfl
    · rw [ins_length] at hj
      simp at ho
      rcases Nat.lt_or_ge j i with hji | hji
      · rw [ins_lo hji hi, ins_lo hji hi]
      · obtain ⟨k, rfl⟩ : ∃ k, j = k + 1 := ⟨j - 1, by omega⟩
        rw [ins_hi (by omega) hi, ins_hi (by omega) hi]

theorem insU (b vb i : Nat) (cs : List Value) (x : Value) (w : World) (hi : i ≤ cs.length) (hn : cs.length ≤ 1024) (hcs : Row w b cs.length 24 cs) (hx : Row w vb 1 24 [x]) (h1c : ∀ v ∈ cs, v.oneCell' = true) (h1x : x.oneCell' = true) :
    Calls Yba.prog 16 #[.slice (some ⟨b, 0, none⟩) cs.length cs.length, .int .i64 i, .slice (some ⟨vb, 0, none⟩) 1 1] w fun e w' =>
      ∃ g c, e = .returned (.slice (some ⟨g, 0, none⟩) (cs.length + 1) c) ∧ w.heap.size ≤ g ∧ Below w.heap.size w w' ∧ Row w' g c 24 (ins i x cs) := by
  by_cases he : i = cs.length
  · subst he; exact insU_end b vb cs x w hn hcs hx
  · exact insU_mid b vb i cs x w (by omega) hn hcs hx h1c h1x

theorem own_any (cb g cap : Nat) (own : Bool) (L : List Value) (hL1 : ∀ v ∈ L, v.oneCell' = true) (hl : L.length ≤ 1024) (hcap : L.length + 1 ≤ cap) (hc63 : cap ≤ 9223372036854775807) (cv : Value) (w : World) (hb : Box w cb (.slice (some ⟨g, 0, none⟩) L.length cap) cv own) (hr : Row w g cap 9 L) :
    Calls Yba.prog 14 #[.pointer (some ⟨cb, 0, none⟩), .int .i64 1] w fun e w' => (∃ v, e = .returned v) ∧ ∃ h2 cap2, Box w' cb (.slice (some ⟨h2, 0, none⟩) L.length cap2) cv true ∧ Row w' h2 cap2 9 L ∧ L.length + 1 ≤ cap2 ∧ cap2 ≤ 9223372036854775807 ∧ w.grownBy w' (some cb) ∧ (own = false → w.heap.size ≤ h2) ∧ (own = true → h2 = g) := by
  cases own
  · refine (own_no cb g cap L hL1 hl cv w hb hr).mono ?_
    rintro e w' ⟨he, h1, h2, h3⟩
    exact ⟨he, _, _, h1, h2, Nat.le_refl _, by omega, h3, fun _ => Nat.le_refl _, fun h => nomatch h⟩
  · refine (own_yes cb _ cv w hb).mono ?_
    rintro e w' ⟨he, rfl⟩
    exact ⟨he, g, cap, hb, hr, hcap, hc63, ⟨rfl, rfl, rfl, Nat.le_refl _, fun _ _ _ => rfl⟩, And.intro (fun h => nomatch h) (fun _ => rfl)⟩

/-- All but what bad names lies as it lay. -/
structure Kept (w w' : World) (bad : Nat → Prop) : Prop where
  os : w'.os = w.os
  tape : w'.tape = w.tape
  output : w'.output = w.output
  size : w.heap.size ≤ w'.heap.size
  block : ∀ k, k < w.heap.size → ¬ bad k → w'.heap[k]? = w.heap[k]?
theorem Kept.of_grown {w w' : World} {r : Nat} {bad : Nat → Prop} (h : w.grownBy w' (some r)) (hb : bad r) : Kept w w' bad :=
  ⟨h.os, h.tape, h.output, h.size, fun k hk hn => h.block k hk (fun e => hn (by cases e; exact hb))⟩
theorem Kept.of_below {w w' : World} {bad : Nat → Prop} (h : Below w.heap.size w w') : Kept w w' bad := ⟨h.os, h.tape, h.output, h.size, fun k hk _ => h.block k hk⟩
/-- A step that turns one block: bad, or laid since w. -/
theorem Kept.step {w w1 w2 : World} {bad : Nat → Prop} {r : Nat} (h : Kept w w1 bad) (k : w1.grownBy w2 (some r)) (hr : bad r ∨ w.heap.size ≤ r) : Kept w w2 bad :=
  ⟨k.os.trans h.os, k.tape.trans h.tape, k.output.trans h.output, Nat.le_trans h.size k.size, fun i hi hn => (k.block i (Nat.lt_of_lt_of_le hi h.size) (fun e => by cases e; rcases hr with hr | hr; exact hn hr; omega)).trans (h.block i hi hn)⟩
theorem Kept.past {w w1 w2 : World} {bad : Nat → Prop} (h : Kept w w1 bad) (k : Below w1.heap.size w1 w2) : Kept w w2 bad :=
  ⟨k.os.trans h.os, k.tape.trans h.tape, k.output.trans h.output, Nat.le_trans h.size k.size, fun i hi hn => (k.block i (Nat.lt_of_lt_of_le hi h.size)).trans (h.block i hi hn)⟩

theorem box_of_row_ne {w : World} {cb g cap : Nat} {t : TypeId} {vs : List Value} {hv cv : Value} {own : Bool} (hb : Box w cb hv cv own) (hr : Row w g cap t vs) (ht : t ≠ 29) : g ≠ cb := by
  rintro rfl
  obtain ⟨cur, h1, _⟩ := hr.blk
  rw [show w.heap[g]? = _ from hb] at h1
  cases h1
  exact ht rfl
theorem rows_ne {w : World} {g g2 cap cap2 : Nat} {t t2 : TypeId} {vs vs2 : List Value} (hr : Row w g cap t vs) (hr2 : Row w g2 cap2 t2 vs2) (ht : t ≠ t2) : g ≠ g2 := by
  rintro rfl
  obtain ⟨cur, h1, _⟩ := hr.blk
  obtain ⟨cur2, h2, _⟩ := hr2.blk
  rw [h1] at h2
  cases h2
  exact ht rfl

/-- What insert leaves. -/
structure Inserted (w w' : World) (cb g : Nat) (own : Bool) (i : Nat) (L cs : List Value) (x y : Value) : Prop where
  ex : ∃ h2 cap2 g2 c2, Box w' cb (.slice (some ⟨h2, 0, none⟩) (L.length + 1) cap2) (.slice (some ⟨g2, 0, none⟩) (cs.length + 1) c2) true ∧ Row w' h2 cap2 9 (ins i x L) ∧ Row w' g2 c2 24 (ins i y cs)
  kept : Kept w w' (fun k => k = cb ∨ (own = true ∧ k = g))

set_option maxHeartbeats 2000000 in
set_option maxRecDepth 100000 in
theorem insert_any (cb g cap b : Nat) (own : Bool) (L cs : List Value) (hL1 : ∀ v ∈ L, v.oneCell' = true) (hc1 : ∀ v ∈ cs, v.oneCell' = true) (hl : L.length ≤ 1024) (hlc : cs.length = L.length) (hcap : L.length + 1 ≤ cap) (hc63 : cap ≤ 9223372036854775807) (i : Nat) (hi : i ≤ L.length) (x : ByteArray) (y : Int)
    (w : World) (hb : Box w cb (.slice (some ⟨g, 0, none⟩) L.length cap) (.slice (some ⟨b, 0, none⟩) cs.length cs.length) own) (hr : Row w g cap 9 L) (hc : Row w b cs.length 24 cs) :
    Calls Yba.prog 9 #[.pointer (some ⟨cb, 0, none⟩), .int .i64 i, .string x, .int .u64 y] w fun e w' => (∃ v, e = .returned v) ∧ Inserted w w' cb g own i L cs (.string x) (.int .u64 y) := by
  have HO := hide (own_any cb g cap own L hL1 hl hcap hc63 _ w hb hr)
  have hbcb := box_of_row_ne hb hc (by decide)
  have HLC := hide hlc
  clear hlc
  go_enter Yba.func9, Yba.ntmps9
  go_wp2_with fail
  refine HO.out.mono ?_
  rintro e W1 ⟨⟨v, rfl⟩, h2, cap2, b1, r1, hc2, hc263, gr1, ho1, ho2⟩
  have hc0 : Row W1 b cs.length 24 cs := hc.grown gr1 (by simpa using hbcb)
  have hcb1 := b1.lt
  have d0 := b1.c0
  have hx : Row (W1.alloc (.cells #[.string x] 9)) W1.heap.size 1 9 [.string x] := Row.new W1 #[.string x] 9 [.string x] (by simp) rfl
  have hB2 : Below W1.heap.size W1 (W1.alloc (.cells #[.string x] 9)) := (Below.refl _ _).alloc (Nat.le_refl _) _
  have HI := hide (insS h2 cap2 W1.heap.size i L (.string x) (W1.alloc (.cells #[.string x] 9)) hi hc2 hc263 (r1.below hB2 r1.lt) hx (by have := r1.lt; omega) hL1 rfl)
  have hbad : h2 ≠ cb := box_of_row_ne b1 r1 (by decide)
  have hbh : b ≠ h2 := fun e => rows_ne hc0 r1 (by decide) e
  have HK1 : Hid (Kept w W1 (fun k => k = cb ∨ (own = true ∧ k = g))) := Kept.of_grown gr1 (.inl rfl)
  clear HO
  go_wp2_with fail
  refine HI.out.mono ?_
  clear HI
  rintro e W3 ⟨rfl, r3, gr3⟩
  have b3 : Box W3 cb (.slice (some ⟨h2, 0, none⟩) L.length cap2) (.slice (some ⟨b, 0, none⟩) cs.length cs.length) true := (gr3.block cb (by simp; omega) (by simpa using hbad.symm)).trans ((hB2.block cb hcb1).trans b1)
  have hc3 : Row W3 b cs.length 24 cs := (hc0.below hB2 hc0.lt).grown gr3 (by simpa using hbh)
  have b4 := box_set b3 (.slice (some ⟨h2, 0, none⟩) (L.length + 1) cap2)
  have f3 := b3.fr 0
  have e3 := b3.c0
  have e4 := b4.c1
  go_upto_region 2 with fail
  have hW4 := grown_setCell W3 cb 0 (.slice (some ⟨h2, 0, none⟩) (L.length + 1) cap2)
  have hc4 : Row (W3.setCell ⟨cb, 0, none⟩ (.slice (some ⟨h2, 0, none⟩) (L.length + 1) cap2)) b cs.length 24 cs := hc3.grown hW4 (by simpa using hbcb)
  have r4 := r3.grown hW4 (by simpa using hbad)
  have hs1 : W1.heap.size ≤ (W1.alloc (.cells #[.string x] 9)).heap.size := hB2.size
  have hbad2 : (fun k => k = cb ∨ (own = true ∧ k = g)) h2 ∨ w.heap.size ≤ h2 := by
    cases own
    · exact .inr (ho1 rfl)
    · exact .inl (.inr ⟨rfl, ho2 rfl⟩)
  have HK4 : Hid (Kept w (W3.setCell ⟨cb, 0, none⟩ (.slice (some ⟨h2, 0, none⟩) (L.length + 1) cap2)) (fun k => k = cb ∨ (own = true ∧ k = g))) := ((HK1.out.past hB2).step gr3 hbad2).step hW4 (.inl (.inl rfl))
  obtain ⟨W4, hW4e⟩ : ∃ W4, W4 = W3.setCell ⟨cb, 0, none⟩ (.slice (some ⟨h2, 0, none⟩) (L.length + 1) cap2) := ⟨_, rfl⟩
  rw [← hW4e] at b4 hc4 r4 HK4 e4 ⊢
  clear hW4e
  have hy : Row (W4.alloc (.cells #[.int .u64 y] 24)) W4.heap.size 1 24 [.int .u64 y] := Row.new W4 #[.int .u64 y] 24 [.int .u64 y] (by simp) rfl
  have hB5 : Below W4.heap.size W4 (W4.alloc (.cells #[.int .u64 y] 24)) := (Below.refl _ _).alloc (Nat.le_refl _) _
  have HU := hide (insU b W4.heap.size i cs (.int .u64 y) (W4.alloc (.cells #[.int .u64 y] 24)) (by have := HLC.out; omega) (by have := HLC.out; omega) (hc4.below hB5 hc4.lt) hy hc1 rfl)
  clear hc hb hr b1 r1 gr1 hc0 d0 hx r3 gr3 hc3 hy HK1 hB2 hW4
  go_wp2_with fail
  refine HU.out.mono ?_
  clear HU
  rintro e W6 ⟨g2, c2, rfl, hg2, hb6, r6⟩
  have HB6 := hide (hB5.trans (hb6.mono hB5.size))
  have hcb4 := b4.lt
  have b6 : Box W6 cb (.slice (some ⟨h2, 0, none⟩) (L.length + 1) cap2) (.slice (some ⟨b, 0, none⟩) cs.length cs.length) true := (HB6.out.block cb hcb4).trans b4
  have r46 := r4.below HB6.out r4.lt
  have b7 := box_set1 b6 (.slice (some ⟨g2, 0, none⟩) (cs.length + 1) c2)
  have f6 := b6.fr 1
  have e6 := b6.c1
  have hW7 := grown_setCell W6 cb 1 (.slice (some ⟨g2, 0, none⟩) (cs.length + 1) c2)
  have hg2c : g2 ≠ cb := box_of_row_ne b6 r6 (by decide)
  have HEND : Hid (Inserted w (W6.setCell ⟨cb, 1, none⟩ (.slice (some ⟨g2, 0, none⟩) (cs.length + 1) c2)) cb g own i L cs (.string x) (.int .u64 y)) :=
    ⟨⟨h2, cap2, g2, c2, b7, r46.grown hW7 (by simpa using hbad), r6.grown hW7 (by simpa using hg2c)⟩, (HK4.out.past HB6.out).step hW7 (.inl (.inl rfl))⟩
  clear hb6 r6 b6 r46 b7 hW7 b4 r4 hc4 hB5
  go_wp2
  go_end0
  exact ⟨⟨_, rfl⟩, HEND.out⟩
end Go.Proofs.Ybulkbbay
