/-
  What the law does ahead of the call: a copy of group, the list of names, the member's block.
-/
import Derived.Test.YbulkbawqTake
import Derived.Laws.IdiomCopy
import Derived.Deep.OwnRows
import Derived.Lib.EndianMore
import Derived.LaidEqlPtr
namespace Go.Proofs.Ybulkbawq
open Go.RowKit

theorem wpList_append_gen {P : Program} {w : World} {ops : Array Oper} {rest : List Oper} {o : Oper} {a : Act} {Q : Exit → Act → World → Prop} (hgd : o.guard = none) (s x : Operand) (t : TypeId)
    (ho : o.op = .call { callee := .builtin .append, args := #[s, x], argTypes := #[t, t] }) (v1 v2 : Value) (hs : a.eval s = v1) (hx : a.eval x = v2) (R : Value → World → Prop)
    (hr : ∀ ty, ∃ v' w', (Builtin.append_ #[t, t] ty #[v1, v2]).run P w = .ok v' w' ∧ R v' w')
    (h : ∀ v' w', R v' w' → wpList P ops Q rest (a.put o.dst v') w') : wpList P ops Q (o :: rest) a w := by
  refine wpList_plain hgd fun _ hK => ?_
  obtain ⟨v', w', hrun, hR⟩ := hr o.type
  unfold Oper.wp execOp
  simp only [ho, resolve, invoke, builtin, Sem.run_bind, Sem.run_pure, Result.andThen_ok, List.map_toArray, List.map_cons, List.map_nil, hs, hx, hrun]
  exact hK _ _ (h v' w' hR)

theorem wpList_copy_gen {P : Program} {w : World} {ops : Array Oper} {rest : List Oper} {o : Oper} {a : Act} {Q : Exit → Act → World → Prop} (hgd : o.guard = none) (s x : Operand) (t : TypeId)
    (ho : o.op = .call { callee := .builtin .copy, args := #[s, x], argTypes := #[t, t] }) (v1 v2 : Value) (hs : a.eval s = v1) (hx : a.eval x = v2) (R : Value → World → Prop)
    (hr : ∀ ty, ∃ v' w', (Builtin.copy_ #[t, t] ty #[v1, v2]).run P w = .ok v' w' ∧ R v' w')
    (h : ∀ v' w', R v' w' → wpList P ops Q rest (a.put o.dst v') w') : wpList P ops Q (o :: rest) a w := by
  refine wpList_plain hgd fun _ hK => ?_
  obtain ⟨v', w', hrun, hR⟩ := hr o.type
  unfold Oper.wp execOp
  simp only [ho, resolve, invoke, builtin, Sem.run_bind, Sem.run_pure, Result.andThen_ok, List.map_toArray, List.map_cons, List.map_nil, hs, hx, hrun]
  exact hK _ _ (h v' w' hR)

/-- A slice of strings that came in. -/
def ArgStrs (w : World) (v : Value) (ss : List ByteArray) : Prop :=
  (v = .slice none 0 0 ∧ ss = []) ∨
  ∃ (ad : Addr) (c : Nat), v = .slice (some ad) ss.length c ∧ ss.length ≤ c ∧ ∀ j, j < ss.length → w.cell? (ad.add j) = some (.string (ss.getD j ByteArray.empty))

theorem ArgStrs.reads {w : World} {v : Value} {ss : List ByteArray} (h : ArgStrs w v ss) : ReadsB w w.heap.size v ss := by
  rcases h with ⟨rfl, rfl⟩ | ⟨⟨b, off, spot⟩, c, rfl, hc, g⟩
  · exact ⟨none, 0, rfl, Nat.le_refl _, .inl rfl⟩
  · refine ⟨_, c, rfl, hc, ?_⟩
    cases ss with
    | nil => exact .inl rfl
    | cons x xs =>
      have h0 := g 0 (by simp)
      have hspot : spot = none := by simpa [Addr.add] using World.cell?_spot h0
      subst hspot
      refine .inr ⟨b, off, by simpa [Addr.add] using World.block_lt_of_cell? _ _ h0, rfl, fun j hj => ?_⟩
      rw [← Go.WideShapes.add_plain]
      exact g j hj

theorem ArgStrs.mem {w : World} {v : Value} {ss : List ByteArray} (h : ArgStrs w v ss) : ∃ a c, v = .slice a ss.length c := by
  rcases h with ⟨rfl, rfl⟩ | ⟨ad, c, rfl, _⟩
  · exact ⟨_, _, rfl⟩
  · exact ⟨_, _, rfl⟩

theorem ArgStrs.below {w w' : World} {v : Value} {ss : List ByteArray} (h : ArgStrs w v ss) (hb : Below w.heap.size w w') : ArgStrs w' v ss := by
  rcases h with ⟨rfl, rfl⟩ | ⟨ad, c, rfl, hc, g⟩
  · exact .inl ⟨rfl, rfl⟩
  · refine .inr ⟨ad, c, rfl, hc, fun j hj => ?_⟩
    have := g j hj
    exact (hb.cell (World.block_lt_of_cell? _ _ this)).trans this

theorem info9 : (Yba.prog.info? 9).map (fun i => (i.zero, i.size, i.bytes)) = some (some (.string ByteArray.empty), 1, 16) := by kernel_rfl

theorem append_strs (w : World) (B : Nat) (v1 v2 : Value) (S1 S2 : List ByteArray) (hown : w.ownsRow B 9 1 v1 S1.length (S1.map Value.string)) (h2 : ArgStrs w v2 S2) (hB : B ≤ w.heap.size) (hl : S1.length + S2.length ≤ 4096) (ty : TypeId) :
    ∃ v' w', (Builtin.append_ #[22, 22] ty #[v1, v2]).run Yba.prog w = .ok v' w' ∧ w'.ownsRow B 9 1 v' (S1 ++ S2).length ((S1 ++ S2).map Value.string) ∧ Below B w w' := by
  obtain ⟨i0, hi, hz0, hz1, hz2⟩ := info_parts info9
  rcases h2 with ⟨rfl, rfl⟩ | ⟨ad, c, rfl, hc, g⟩
  · exact ⟨v1, w, run_append_owned_none w B 22 ty 9 i0 1 Yba.underlying22 hi v1 S1.length _ hown, by simpa using hown, Below.refl _ _⟩
  · obtain ⟨v', w', hr, ho, hg, _⟩ := run_append_own (P := Yba.prog) w B 22 ty 9 i0 _ 1 16 Yba.underlying22 hi hz0 hz1 hz2 rfl (by decide) v1 S1.length _ hown ad S2.length c (S2.map Value.string) (by simp)
      (fun j u hj => by
        rw [List.getElem?_map] at hj
        obtain ⟨s, hs, rfl⟩ := Option.map_eq_some_iff.1 hj
        have hlt := (List.getElem?_eq_some_iff.1 hs).1
        rw [g j hlt]
        simp [List.getD, hs])
      (fun u hu => by obtain ⟨s, _, rfl⟩ := List.mem_map.1 hu; rfl) (by unfold maxLen; omega) (by omega) hB
    refine ⟨v', w', hr, ?_, below_grown (Below.refl _ _) hown hg hB⟩
    simpa using ho

/-- copy(g, group), g just made. -/
theorem copy_strs (w : World) (v2 : Value) (G : List ByteArray) (h2 : ArgStrs w v2 G) (ty : TypeId) :
    ∃ v' w', (Builtin.copy_ #[22, 22] ty #[.slice (some ⟨w.heap.size, 0, none⟩) G.length G.length, v2]).run Yba.prog (w.alloc (.cells (madeCells #[.string ByteArray.empty] G.length) 9)) = .ok v' w' ∧
      Holds w' w.heap.size (.slice (some ⟨w.heap.size, 0, none⟩) G.length G.length) G ∧ Below w.heap.size w w' ∧ w'.heap.size = w.heap.size + 1 := by
  have h1 : (Yba.prog.info? 9).map (·.size) = some 1 := by kernel_rfl
  have hb0 : Below w.heap.size w (w.alloc (.cells (madeCells #[.string ByteArray.empty] G.length) 9)) := (Below.refl _ w).alloc (Nat.le_refl _) _
  rcases h2.below hb0 with ⟨rfl, rfl⟩ | ⟨ad, c, rfl, hc, g⟩
  · exact ⟨_, _, run_copy_none _ 22 22 ty 9 _ _ _ _ _ _ Yba.underlying22 h1 (by simp), ⟨_, 0, rfl, Nat.le_refl _, .inl rfl⟩, hb0, by simp⟩
  · have hcells : ∀ j, j < (G.map Value.string).length → ((w.alloc (.cells (madeCells #[.string ByteArray.empty] G.length) 9)).cell? ⟨w.heap.size, 0 + j, none⟩).isSome = true := by
      intro j hj
      have hj' : j < G.length := by simpa using hj
      rw [Nat.zero_add, World.cell?_alloc_new]
      have : (madeCells #[.string ByteArray.empty] G.length).toList[j]? = some (.string ByteArray.empty) := by rw [toList_madeCells_one]; simp [hj']
      rw [Array.getElem?_toList] at this
      rw [this]; rfl
    have hr := run_copy_cells (P := Yba.prog) (w.alloc (.cells (madeCells #[.string ByteArray.empty] G.length) 9)) 22 22 ty 9 w.heap.size 0 G.length G.length ad G.length c (G.map Value.string) Yba.underlying22 h1 (by simp)
      (fun j u hj => by
        rw [List.getElem?_map] at hj
        obtain ⟨s, hs, rfl⟩ := Option.map_eq_some_iff.1 hj
        have hlt := (List.getElem?_eq_some_iff.1 hs).1
        rw [g j hlt]
        simp [List.getD, hs])
      hcells (fun j _ => by rw [Nat.zero_add]; exact World.frozen?_alloc_at _ _ _ _ rfl) (fun u hu => by obtain ⟨s, _, rfl⟩ := List.mem_map.1 hu; rfl)
    have hsz : ∀ (vs : List Value) (o : Nat) (wx : World), (wx.setCells w.heap.size o vs).heap.size = wx.heap.size := by
      intro vs
      induction vs with
      | nil => intro o wx; rfl
      | cons v vs ih => intro o wx; simp only [World.setCells]; rw [ih]; simp
    refine ⟨_, _, hr, ⟨_, _, rfl, Nat.le_refl _, .inr ⟨w.heap.size, Nat.le_refl _, by rw [hsz]; simp, rfl, fun j hj => ?_⟩⟩, hb0.trans (Lib.below_setCells_w (Nat.le_refl _) _ _ _), by rw [hsz]; simp⟩
    have := World.cell?_setCells_in w.heap.size (G.map Value.string) 0 _ hcells j (by simpa using hj)
    rw [Nat.zero_add] at this
    rw [this]
    simp [List.getD, hj]

/-! ### The member's block -/

def memList (g s n : Value) : List Value := [g, s, n, .slice none 0 0, .int .i64 0, .int .i64 0, .nilFunc, .pointer none, .int .u32 0, .slice none 0 0, .bool false, .pointer none, .int .i32 0, .int .u32 0, .nilIface, .nilIface, .int .i64 0, .bool false, .pointer none, .slice none 0 0, .map none, .bool false, .bool false, .chan none, .map none, .slice none 0 0, .map none, .slice none 0 0, .int .u32 0, .slice none 0 0, .int .u64 0, .slice none 0 0, .bool false, .int .u64 0, .int .u64 0, .slice none 0 0, .slice none 0 0, .chan none, .bool false, .slice none 0 0, .slice none 0 0, .int .u64 0, .slice none 0 0, .pointer none, .bool false, .slice none 0 0, .slice none 0 0, .bool false, .slice none 0 0, .int .u64 0, .int .u64 0, .int .u64 0, .nilFunc, .slice none 0 0, .nilIface, .int .i64 0, .int .i64 0, .slice none 0 0, .slice none 0 0, .slice none 0 0, .slice none 0 0, .nilFunc, .map none, .map none, .slice none 0 0, .slice none 0 0, .slice none 0 0, .bool false, .nilFunc]
def memCells (g s n : Value) : Array Value := (memList g s n).toArray
/-- Cell i of the fresh member. -/
def memAt (g s n : Value) : Nat → Value := fun i => (memList g s n).getD i undef

theorem build_member (a : Option Addr) (n c : Nat) (s : Int) (nm : ByteArray) (w : World) :
    (Instr.build 80 #[(0, .slice a n c), (1, .int .i64 s), (2, .string nm)]).run Yba.prog w = .ok (.agg (memCells (.slice a n c) (.int .i64 s) (.string nm))) w := by kernel_rfl

theorem mem_new (w : World) (g s n : Value) : Mem (w.alloc (.cells (memCells g s n) 80)) w.heap.size (memAt g s n) := by
  refine ⟨fun i hi => ?_, fun i => World.frozen?_alloc_at _ _ _ _ rfl, by simp⟩
  rw [World.cell?_alloc_new]
  have hl : i < (memList g s n).length := hi
  simp [memCells, memAt, List.getD, hl]

theorem fresh_new (g s n : Value) : Fresh (memAt g s n) := by
  refine ⟨rfl, rfl, rfl, rfl, ?_⟩
  intro i hi
  simp only [List.mem_cons, List.not_mem_nil, or_false] at hi
  rcases hi with rfl | rfl | rfl | rfl | rfl | rfl | rfl | rfl | rfl | rfl | rfl | rfl <;> rfl

theorem wpList_build_gen {P : Program} {w : World} {ops : Array Oper} {rest : List Oper} {o : Oper} {a : Act} {Q : Exit → Act → World → Prop} (hgd : o.guard = none) (t : TypeId) (x y z : Operand)
    (ho : o.op = .build t #[(0, x), (1, y), (2, z)]) (vx vy vz : Value) (hx : a.eval x = vx) (hy : a.eval y = vy) (hz : a.eval z = vz) (v : Value)
    (hr : (Instr.build t #[(0, vx), (1, vy), (2, vz)]).run P w = .ok v w) (h : wpList P ops Q rest (a.put o.dst v) w) : wpList P ops Q (o :: rest) a w := by
  refine wpList_plain hgd fun _ hK => ?_
  unfold Oper.wp execOp
  simp only [ho, Sem.run_bind, Sem.run_pure, Result.andThen_ok, List.map_toArray, List.map_cons, List.map_nil, hx, hy, hz, hr]
  exact hK _ _ h

theorem wpList_append_eq {P : Program} {w : World} {ops : Array Oper} {rest : List Oper} {o : Oper} {a : Act} {Q : Exit → Act → World → Prop} (hgd : o.guard = none) (s x : Operand) (t ty : TypeId)
    (ho : o.op = .call { callee := .builtin .append, args := #[s, x], argTypes := #[t, t] }) (hty : o.type = ty) (v1 v2 : Value) (hs : a.eval s = v1) (hx : a.eval x = v2) (v' : Value) (w' : World)
    (hrun : (Builtin.append_ #[t, t] ty #[v1, v2]).run P w = .ok v' w')
    (h : wpList P ops Q rest (a.put o.dst v') w') : wpList P ops Q (o :: rest) a w := by
  refine wpList_plain hgd fun _ hK => ?_
  subst hty
  unfold Oper.wp execOp
  simp only [ho, resolve, invoke, builtin, Sem.run_bind, Sem.run_pure, Result.andThen_ok, List.map_toArray, List.map_cons, List.map_nil, hs, hx, hrun]
  exact hK _ _ h

theorem wpList_move_gen {P : Program} {w : World} {ops : Array Oper} {rest : List Oper} {o : Oper} {a : Act} {Q : Exit → Act → World → Prop} (hgd : o.guard = none) (x : Operand)
    (ho : o.op = .move x) (v : Value) (hx : a.eval x = v) (h : wpList P ops Q rest (a.put o.dst v) w) : wpList P ops Q (o :: rest) a w := by
  refine wpList_plain hgd fun _ hK => ?_
  unfold Oper.wp execOp
  simp only [ho, hx, Sem.run_pure]
  exact hK _ _ h

theorem wp_build_gen {P : Program} {w : World} {o : Oper} {a : Act} {K : Act → World → Prop} {Q : Exit → Act → World → Prop} (t : TypeId) (x y z : Operand)
    (ho : o.op = .build t #[(0, x), (1, y), (2, z)]) (vx vy vz : Value) (hx : a.eval x = vx) (hy : a.eval y = vy) (hz : a.eval z = vz) (v : Value)
    (hr : (Instr.build t #[(0, vx), (1, vy), (2, vz)]).run P w = .ok v w) (h : K (a.put o.dst v) w) : o.wp P a w K Q := by
  unfold Oper.wp execOp
  simp only [ho, Sem.run_bind, Sem.run_pure, Result.andThen_ok, List.map_toArray, List.map_cons, List.map_nil, hx, hy, hz, hr]
  exact h

theorem Holds.readsB {w : World} {B : Nat} {v : Value} {ss : List ByteArray} (h : Holds w B v ss) : ReadsB w w.heap.size v ss := by
  obtain ⟨a, c, rfl, hc, r⟩ := h
  refine ⟨a, c, rfl, hc, ?_⟩
  rcases r with rfl | ⟨b, _, hlt, rfl, g⟩
  · exact .inl rfl
  · exact .inr ⟨b, 0, hlt, rfl, fun j hj => by rw [Nat.zero_add]; exact g j hj⟩

theorem ReadsB.more {w : World} {B B' : Nat} {v : Value} {ss : List ByteArray} (h : ReadsB w B v ss) (hB : B ≤ B') : ReadsB w B' v ss := by
  obtain ⟨a, c, rfl, hc, r⟩ := h
  refine ⟨a, c, rfl, hc, ?_⟩
  rcases r with rfl | ⟨b, off, hlt, rfl, g⟩
  · exact .inl rfl
  · exact .inr ⟨b, off, by omega, rfl, g⟩

/-- The list of names ahead of extra. -/
def pfx (pre : Bool) (G : List ByteArray) : List ByteArray := if pre then G else []
theorem pfx_le (pre : Bool) (G : List ByteArray) : (pfx pre G).length ≤ G.length := by cases pre <;> simp [pfx]
/-- The index that the law lays in the member. -/
def selfOf (r : Int) : Int := if 0 ≤ r then r else -1

/-- The state behind the member's making: the member's block mb, what it holds, the two lists, the group that came in. -/
structure Ready (w wm : World) (mb : Nat) (f : Nat → Value) (ga gg na : Option Addr) (gc nc : Nat) (G NS : List ByteArray) (sf : Int) (nm : ByteArray) : Prop where
  mem : Mem wm mb f
  fresh : Fresh f
  f0 : f 0 = .slice gg G.length G.length
  f1 : f 1 = .int .i64 sf
  f2 : f 2 = .string nm
  own : ReadsB wm mb (.slice gg G.length G.length) G
  names : ReadsB wm mb (.slice na NS.length nc) NS
  group : ReadsB wm w.heap.size (.slice ga G.length gc) G
  below : Below w.heap.size w wm
  ge : w.heap.size ≤ mb
  /-- The names lie in a block of the call's own. -/
  far : Seat wm 0 (.slice na NS.length nc) NS

theorem Ready.drewN {w wm : World} {mb : Nat} {f : Nat → Value} {ga gg na : Option Addr} {gc nc : Nat} {G NS : List ByteArray} {sf : Int} {nm : ByteArray} (h : Ready w wm mb f ga gg na gc nc G NS sf nm) (q : Nat) :
    Ready w (wm.drewN q) mb f ga gg na gc nc G NS sf nm := by
  have hq : ∀ B, Below B wm (wm.drewN q) := fun B => below_drewN (Below.refl _ _) q
  exact ⟨h.mem.below (hq _), h.fresh, h.f0, h.f1, h.f2, h.own.below (hq _), h.names.below (hq _), h.group.below (hq _), h.below.trans (hq _), h.ge, h.far⟩

theorem ready_of {w w1 w3 : World} {ga na : Option Addr} {gc nc : Nat} {G NS : List ByteArray} {sf : Int} {nm : ByteArray}
    (hG : ArgStrs w (.slice ga G.length gc) G) (hH1 : Holds w1 w.heap.size (.slice (some ⟨w.heap.size, 0, none⟩) G.length G.length) G) (hs1 : w1.heap.size = w.heap.size + 1)
    (hb3 : Below w.heap.size w w3) (hc3 : Below (w.heap.size + 1) w1 w3) (ho3 : w3.ownsRow (w.heap.size + 1) 9 1 (.slice na NS.length nc) NS.length (NS.map Value.string)) :
    Ready w (w3.alloc (.cells (memCells (.slice (some ⟨w.heap.size, 0, none⟩) G.length G.length) (.int .i64 sf) (.string nm)) 80)) w3.heap.size
      (memAt (.slice (some ⟨w.heap.size, 0, none⟩) G.length G.length) (.int .i64 sf) (.string nm)) ga (some ⟨w.heap.size, 0, none⟩) na gc nc G NS sf nm := by
  have hal : Below w3.heap.size w3 (w3.alloc (.cells (memCells (.slice (some ⟨w.heap.size, 0, none⟩) G.length G.length) (.int .i64 sf) (.string nm)) 80)) := (Below.refl _ _).alloc (Nat.le_refl _) _
  have hsz := hc3.size
  have hHo := (holds_of_owns ho3).1
  refine ⟨mem_new _ _ _ _, fresh_new _ _ _, rfl, rfl, rfl, ?_, hHo.readsB.below hal, ?_, hb3.trans (hal.mono (by omega)), by omega, ?_⟩
  · have h1 : ReadsB w1 (w.heap.size + 1) (.slice (some ⟨w.heap.size, 0, none⟩) G.length G.length) G := by rw [← hs1]; exact hH1.readsB
    exact ((h1.below hc3).more (by omega)).below hal
  · exact (hG.reads.below hb3).below (hal.mono (by omega))
  · rcases seat_of_owns ho3 with h | ⟨b, c, cur, e, _, hg⟩
    · exact .inl h
    · exact .inr ⟨b, c, cur, e, Nat.zero_le _, (hal.block b (Array.getElem?_eq_some_iff.1 hg).1).trans hg⟩

/-- The member's new list and the names begin in two rows. -/
theorem sep_of {w wm w2 : World} {mb : Nat} {f : Nat → Value} {ga gg na a0 : Option Addr} {gc nc c0 : Nat} {G NS : List ByteArray} {sf : Int} {nm : ByteArray} (hR : Ready w wm mb f ga gg na gc nc G NS sf nm) (hB : But mb wm w2)
    (hS : Seat w2 wm.heap.size (.slice a0 NS.length c0) NS) :
    NS = [] ∨ ∃ b b' cur cur', na = some ⟨b, 0, none⟩ ∧ a0 = some ⟨b', 0, none⟩ ∧ b ≠ b' ∧ w2.heap[b]? = some (.cells cur 9 (0, 0)) ∧ w2.heap[b']? = some (.cells cur' 9 (0, 0)) := by
  rcases hR.far with h | ⟨b, c, cur, e, _, hg⟩
  · exact .inl h
  · cases e
    rcases hS with h | ⟨b', c', cur', e', hge, hg'⟩
    · exact .inl h
    · cases e'
      obtain ⟨a, c2, e2, _, r⟩ := hR.names
      cases e2
      rcases r with h | ⟨b2, off, hlt, e3, _⟩
      · exact .inl h
      · cases e3
        have hbl : b < wm.heap.size := (Array.getElem?_eq_some_iff.1 hg).1
        exact .inr ⟨b, b', cur, cur', rfl, rfl, by omega, (hB.block b hbl (by omega)).trans hg, hg'⟩

/-- '==' between the addresses of two rows' first cells. -/
theorem eql_far (w : World) (b b' : Nat) (cur cur' : Array Value) (hne : b ≠ b') (h : w.heap[b]? = some (.cells cur 9 (0, 0))) (h' : w.heap[b']? = some (.cells cur' 9 (0, 0))) (q : Nat) :
    (binOp .eql 83 (.pointer (some ⟨b', 0, none⟩)) (.pointer (some ⟨b, 0, none⟩))).run Yba.prog (w.drewN q) = .ok (.bool false) (w.drewN q) := by
  obtain ⟨i0, hi, _, hz1, _⟩ := info_parts info9
  exact run_eql_ptr_other (w.drewN q) Yba.underlying83 hi (by omega) (by intro e; cases e; exact hne rfl) h' h

end Go.Proofs.Ybulkbawq
