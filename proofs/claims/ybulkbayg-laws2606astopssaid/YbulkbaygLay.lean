/-
  zzs2606abuild: what its loops have laid.
-/
import Derived.Test.YbulkbaygNodes
import Derived.Deep.DeepCutAuto
import Derived.Deep.RegionWith
import Derived.Deep.QuietTactic
import Derived.BigQuiet
import Derived.Deep.CutBlock
import Derived.Deep.RegionHeld3
import Derived.Laws.OwnMore
namespace Go.Proofs.Ybulkbayg
open Go.RowKit

theorem keyAt_lo (i : Nat) (h : i < 3) : nameOf (i % 3) = keyAt i := by unfold keyAt; rw [if_pos h, Nat.mod_eq_of_lt h]
theorem keyAt_hi (i : Nat) (h : ¬ i < 3) (h12 : i < 12) : nameOf (((i - 3) / 3) % 3) ++ ⟨#[46]⟩ ++ nameOf (((i - 3) % 3) % 3) = keyAt i := by
  unfold keyAt; rw [if_neg h, Nat.mod_eq_of_lt (show (i - 3) / 3 < 3 by omega), Nat.mod_eq_of_lt (show (i - 3) % 3 < 3 by omega)]

theorem name_int (q : Int) (n : Nat) (h : q = n) (hn : n ≤ 1000) (w : World) :
    Calls Yba.prog 13 #[.int .i64 q] w fun e w' => e = .returned (.string (nameOf (n % 3))) ∧ w' = w := by subst h; exact name_any n hn w

theorem Kinds.stay {w : World} {mb i : Nat} {ks : List Int} (h : Kinds w mb i (fun j => if j < i then kindAt ks j else 0)) (h0 : kindAt ks i = 0) : Kinds w mb (i + 1) (fun j => if j < i + 1 then kindAt ks j else 0) := by
  refine (h.cong fun j _ => ?_).mono (Nat.le_succ _)
  by_cases e : j = i
  · subst e; simp [h0]
  · by_cases e2 : j < i
    · rw [if_pos e2, if_pos (by omega)]
    · rw [if_neg e2, if_neg (by omega)]
theorem Kinds.step {w : World} {mb i : Nat} {ks : List Int} {x : Int} (h : Kinds w mb (i + 1) (fun j => if j = i then x else if j < i then kindAt ks j else 0)) (h0 : kindAt ks i = x) : Kinds w mb (i + 1) (fun j => if j < i + 1 then kindAt ks j else 0) := by
  refine h.cong fun j _ => ?_
  by_cases e : j = i
  · subst e; simp [h0]
  · by_cases e2 : j < i
    · rw [if_neg e, if_pos e2, if_pos (by omega)]
    · rw [if_neg e, if_neg e2, if_neg (by omega)]

theorem wrap_quo3 (i : Nat) (h : 3 ≤ i) (h2 : i ≤ 12) : IntKind.i64.wrap ((IntKind.i64.wrap ((i : Int) - 3)).tdiv 3) = (((i - 3) / 3 : Nat) : Int) := by
  rw [Go.IntWalk.i64_in ((i : Int) - 3) (by omega), Go.IntWalk.i64_quo _ _ (by omega)]; omega
theorem wrap_rem3 (i : Nat) (h : 3 ≤ i) (h2 : i ≤ 12) : (IntKind.i64.wrap ((i : Int) - 3)).tmod 3 = (((i - 3) % 3 : Nat) : Int) := by
  rw [Go.IntWalk.i64_in ((i : Int) - 3) (by omega), Int.tmod_eq_emod_of_nonneg (by omega)]; omega
theorem wrap_tmod8 (x : Int) (h0 : 0 ≤ x) (_h1 : x ≤ 255) : IntKind.i64.wrap (x.tmod 8) = x % 8 := by
  rw [Int.tmod_eq_emod_of_nonneg h0, Go.IntWalk.i64_in _ (by omega)]


theorem info33 : (Yba.prog.info? 33).map (fun i => (i.zero, i.size, i.bytes)) = some (some (.pointer none), 1, 8) := by kernel_rfl

/-- What the loop over tops has laid when nodes are done and xs listed. -/
structure Lay (W1 : World) (vp vw : Value) (nodes : List TopN) (xs : List Item) (wr : World) : Prop where
  below : Below W1.heap.size W1 wr
  props : wr.ownsRow W1.heap.size 33 1 vp nodes.length (topPtrs nodes)
  want : wr.ownsRow W1.heap.size 37 4 vw xs.length (encs xs)
  tops : ∀ t ∈ nodes, TopIn wr t
  apart : ∀ t ∈ nodes, ∀ sb ss, t.m = some (sb, ss) → some sb ≠ vp.ownBlock

theorem Lay.start (W : World) : Lay W (.slice none 0 0) (.slice none 0 0) [] [] W :=
  ⟨Below.refl _ _, World.ownsRow_nil _ _ _ _, World.ownsRow_nil _ _ _ _, (fun _ h => nomatch h), (fun _ h => nomatch h)⟩

theorem rows_apart {w : World} {b1 b2 e1 e2 s1 s2 n1 n2 : Nat} {v1 v2 : Value} {xs1 xs2 : List Value} (h1 : w.ownsRow b1 e1 s1 v1 n1 xs1) (h2 : w.ownsRow b2 e2 s2 v2 n2 xs2) (he : e1 ≠ e2) : v1.ownBlock = none ∨ v1.ownBlock ≠ v2.ownBlock := by
  rcases h1.2 with ⟨rfl, _⟩ | ⟨g, cap, cur, rfl, _, hh, _⟩
  · exact .inl rfl
  · refine .inr fun e => ?_
    rcases h2.2 with ⟨rfl, _⟩ | ⟨g2, cap2, cur2, rfl, _, hh2, _⟩
    · simp [Value.ownBlock] at e
    · simp [Value.ownBlock] at e
      subst e
      rw [hh] at hh2
      cases hh2
      exact he rfl

theorem TopIn.row_tag {w : World} {t : TopN} (h : TopIn w t) {sb : Nat} {ss : List SubN} (e : t.m = some (sb, ss)) : ∃ cs, w.heap[sb]? = some (.cells cs 33 (0, 0)) := by
  obtain ⟨_, h0, v, _, h3⟩ := h
  cases hl : t.l with
  | some x => rw [h0 x hl] at e; cases e
  | none =>
    rw [hl, e] at h3
    obtain ⟨mb, _, _, c⟩ := h3
    exact ⟨_, c.row⟩

section
variable {W1 : World} {vp vw : Value} {nodes : List TopN} {xs : List Item} {wr : World}
theorem Lay.grow (h : Lay W1 vp vw nodes xs wr) {wr' : World} (hb : Below wr.heap.size wr wr') : Lay W1 vp vw nodes xs wr' := by
  have hg : wr.grownBy wr' none := ⟨hb.os, hb.tape, hb.output, hb.size, fun k hk _ => hb.block k hk⟩
  exact ⟨h.below.trans (hb.mono h.below.size), h.props.kept hg (by cases hv : vp.ownBlock <;> simp), h.want.kept hg (by cases hv : vw.ownBlock <;> simp), fun t ht => (h.tops t ht).below hb, h.apart⟩

theorem Lay.push (h : Lay W1 vp vw nodes xs wr) {T : TopN} (hT : TopIn wr T) (hTa : ∀ sb ss, T.m = some (sb, ss) → some sb ≠ vp.ownBlock) {w1 : World} {vp' : Value}
    (hg : wr.grownBy w1 vp.ownBlock) (ho : w1.ownsRow W1.heap.size 33 1 vp' (nodes.length + 1) (topPtrs nodes ++ [ptr T.p])) (hm : Moved wr vp vp') : Lay W1 vp' vw (nodes ++ [T]) xs w1 := by
  have ht := Turns.of_grown hg
  have hlo := Loose.of_owns h.props (.inl rfl)
  have hall : ∀ t ∈ nodes ++ [T], TopIn wr t ∧ ∀ sb ss, t.m = some (sb, ss) → some sb ≠ vp.ownBlock := by
    intro t ht
    rcases List.mem_append.1 ht with h' | h'
    · exact ⟨h.tops t h', h.apart t h'⟩
    · rw [List.mem_singleton.1 h']; exact ⟨hT, hTa⟩
  refine ⟨h.below.grown hg h.below.size (fun g e => (h.props.lt g e).1), ?_, h.want.kept hg (rows_apart h.want h.props (by decide)), fun t ht' => TopIn.turns ht hlo (hall t ht').1 (hall t ht').2, fun t ht' sb ss e => ?_⟩
  · rw [List.length_append, List.length_singleton]
    simpa [topPtrs] using ho
  · have h1 := (hall t ht').2 sb ss e
    have h2 := (hall t ht').1.row_lt e
    rcases hm with hm | hm
    · rw [hm]; exact h1
    · intro e'
      have := hm sb e'.symm
      omega

theorem Lay.more (h : Lay W1 vp vw nodes xs wr) {w1 : World} {vw' : Value} {ys : List Item} (hg : wr.grownBy w1 vw.ownBlock) (ho : w1.ownsRow W1.heap.size 37 4 vw' (xs.length + ys.length) (encs xs ++ encs ys)) :
    Lay W1 vp vw' nodes (xs ++ ys) w1 := by
  have ht := Turns.of_grown hg
  have hlo := Loose.of_owns h.want (.inr rfl)
  refine ⟨h.below.grown hg h.below.size (fun g e => (h.want.lt g e).1), h.props.kept hg (rows_apart h.props h.want (by decide)), ?_, fun t ht' => TopIn.turns ht hlo (h.tops t ht') fun sb ss e e' => ?_, h.apart⟩
  · rw [List.length_append, encs_append]; exact ho
  · obtain ⟨cs, hcs⟩ := (h.tops t ht').row_tag e
    rcases h.want.2 with ⟨rfl, _⟩ | ⟨g, cap, cur, rfl, _, hh, _⟩
    · simp [Value.ownBlock] at e'
    · simp [Value.ownBlock] at e'
      subst e'
      rw [hh] at hcs; cases hcs
end

/-- What zzs2606abuild leaves. -/
structure Built (K : Nat → Int) (w : World) (vp : Value) (mb : Nat) (vw : Value) (nodes : List TopN) (w' : World) : Prop where
  below : Below w.heap.size w w'
  kinds : Kinds w' mb 12 K
  props : w'.ownsRow 0 33 1 vp nodes.length (topPtrs nodes)
  want : w'.ownsRow 0 37 4 vw (topItems K nodes).length (encs (topItems K nodes))
  tops : ∀ t ∈ nodes, TopIn w' t
  few : nodes.length ≤ 256
  items : (topItems K nodes).length ≤ 256 * nodes.length

/-- What the loop over a top's subs has laid when ss are done, since the round began in W0. -/
structure InLay (W0 : World) (tcells : Array Value) (tb sb len : Nat) (vs : Value) (ss : List SubN) (xs : List Item) (wr : World) : Prop where
  below : Below W0.heap.size W0 wr
  tbox : wr.heap[tb]? = some (.cells tcells 57 (0, 0))
  row : ∃ cs, wr.heap[sb]? = some (.cells cs 33 (0, 0)) ∧ cs.size = len ∧ cs.toList.take ss.length = subPtrs ss
  want : wr.ownsRow W0.heap.size 37 4 vs xs.length (encs xs)
  subs : ∀ s ∈ ss, SubIn wr s
  sbn : W0.heap.size ≤ sb

theorem InLay.start (W0 : World) (tcells cs : Array Value) (len : Nat) (hlen : cs.size = len) : InLay W0 tcells W0.heap.size (W0.heap.size + 1) len (.slice none 0 0) [] [] ((W0.alloc (.cells tcells 57)).alloc (.cells cs 33)) := by
  have e : (W0.alloc (.cells tcells 57)).heap.size = W0.heap.size + 1 := by simp
  refine ⟨((Below.refl _ W0).alloc (Nat.le_refl _) _).alloc (by simp) _, (heap_alloc_old _ _ (by simp)).trans (heap_alloc_new W0 _), ⟨cs, ?_, hlen, by simp [subPtrs]⟩, World.ownsRow_nil _ _ _ _, (fun _ h => nomatch h), by omega⟩
  rw [← e]; exact heap_alloc_new _ _

section
variable {W0 : World} {tcells : Array Value} {tb sb len : Nat} {vs : Value} {ss : List SubN} {xs : List Item} {wr : World}
theorem InLay.grow (h : InLay W0 tcells tb sb len vs ss xs wr) {wr' : World} (hb : Below wr.heap.size wr wr') : InLay W0 tcells tb sb len vs ss xs wr' := by
  obtain ⟨cs, r1, r2⟩ := h.row
  have k : ∀ {b : Nat} {o : Obj}, wr.heap[b]? = some o → wr'.heap[b]? = some o := fun hh => (hb.block _ (lt_of_heap hh)).trans hh
  have hg : wr.grownBy wr' none := ⟨hb.os, hb.tape, hb.output, hb.size, fun k hk _ => hb.block k hk⟩
  exact ⟨h.below.trans (hb.mono h.below.size), k h.tbox, ⟨cs, k r1, r2⟩, h.want.kept hg (by cases hv : vs.ownBlock <;> simp), fun s hs => (h.subs s hs).below hb, h.sbn⟩

theorem InLay.drew (h : InLay W0 tcells tb sb len vs ss xs wr) : InLay W0 tcells tb sb len vs ss xs wr.drew := h.grow (Below.refl _ _).drew

theorem InLay.put (h : InLay W0 tcells tb sb len vs ss xs wr) {s : SubN} (hs : SubIn wr s) (hl : ss.length < len) : InLay W0 tcells tb sb len vs (ss ++ [s]) xs (wr.setCell ⟨sb, ss.length, none⟩ (ptr s.p)) := by
  obtain ⟨cs, r1, r2, r3⟩ := h.row
  have ht := Turns.of_set wr sb ss.length (ptr s.p)
  have hlo : Loose wr (some sb) := fun g e => by cases e; exact ⟨cs, 33, r1, .inl rfl⟩
  refine ⟨h.below.setCell (p := ⟨sb, ss.length, none⟩) h.sbn _, kept_cells ht hlo h.tbox (by decide) (by decide), ⟨_, heap_set r1 _ _, by simp [r2], ?_⟩, ?_, ?_, h.sbn⟩
  · have hcs : ss.length < cs.size := by omega
    rw [List.length_append, List.length_singleton, Array.toList_setIfInBounds, List.take_succ_eq_append_getElem (by simpa using hcs), List.getElem_set_self, List.take_set_of_le (Nat.le_refl _), r3]
    simp [subPtrs]
  · refine h.want.kept (row := some sb) ⟨rfl, rfl, rfl, by simp [World.setCell], fun k _ hk => heap_set_other (fun e => hk (by rw [e])) _ _⟩ ?_
    rcases h.want.2 with ⟨rfl, _⟩ | ⟨g, cap, cur, rfl, _, hh, _⟩
    · exact .inl rfl
    · refine .inr fun e => ?_
      simp [Value.ownBlock] at e
      subst e
      rw [hh] at r1; cases r1
  · intro x hx
    rcases List.mem_append.1 hx with hx | hx
    · exact SubIn.turns ht hlo (h.subs x hx)
    · rw [List.mem_singleton.1 hx]; exact SubIn.turns ht hlo hs

theorem InLay.app (h : InLay W0 tcells tb sb len vs ss xs wr) {w1 : World} {vs' : Value} {x : Item} (hg : wr.grownBy w1 vs.ownBlock) (ho : w1.ownsRow W0.heap.size 37 4 vs' (xs.length + 1) (encs xs ++ x.enc)) : InLay W0 tcells tb sb len vs' ss (xs ++ [x]) w1 := by
  obtain ⟨cs, r1, r2, r3⟩ := h.row
  have ht := Turns.of_grown hg
  have hlo := Loose.of_owns h.want (.inr rfl)
  refine ⟨h.below.grown hg h.below.size (fun g e => (h.want.lt g e).1), kept_cells ht hlo h.tbox (by decide) (by decide), ⟨cs, ht _ _ r1 fun e => ?_, r2, r3⟩, ?_, fun s hs => SubIn.turns ht hlo (h.subs s hs), h.sbn⟩
  · obtain ⟨cs', t', h', ht'⟩ := hlo sb e.symm
    rcases h.want.2 with ⟨rfl, _⟩ | ⟨g, cap, cur, rfl, _, hh, _⟩
    · simp [Value.ownBlock] at e
    · simp [Value.ownBlock] at e
      subst e
      rw [hh] at r1; cases r1
  · rw [encs_append, List.length_append]
    simpa [encs] using ho
end

/-- Behind a sub's box and her list. -/
theorem sub_list {W0 : World} {tcells : Array Value} {tb sb len : Nat} {vs : Value} {ss : List SubN} {xs : List Item} {wr A2 : World} {bc : Array Value} {lb : Nat} {es : List Int} {ev : Value}
    (h : InLay W0 tcells tb sb len vs ss xs wr) (NL : NewList (wr.alloc (.cells bc 59)) A2 lb es) (he : Ints wr ev es) (hl : es.length ≤ 256) :
    ∃ A, A = A2 ∧ Hid (InLay W0 tcells tb sb len vs ss xs A) ∧ Hid (A.heap[wr.heap.size]? = some (.cells bc 59 (0, 0))) ∧ Hid (ListIn A lb (allEven es)) ∧ Hid (Ints A ev es) := by
  have hb : Below wr.heap.size wr A2 := ((Below.refl _ wr).alloc (Nat.le_refl _) _).trans (NL.below.mono (by simp))
  obtain ⟨vb, cs, _, h1, h2, h3⟩ := NL.here
  exact ⟨A2, rfl, h.grow hb, (NL.below.block _ (by simp)).trans (heap_alloc_new wr _), ⟨es, vb, cs, hl, rfl, h1, h2, h3⟩, he.below hb⟩

theorem name_lt (m : Nat) (hm : m < 3) (w : World) : Calls Yba.prog 13 #[.int .i64 m] w fun e w' => e = .returned (.string (nameOf m)) ∧ w' = w := by
  have := name_any m (by omega) w
  rwa [Nat.mod_eq_of_lt hm] at this

/-- What was laid ahead of a draw, an alloc and a call. -/
theorem past_below {A w' : World} {o : Obj} (hb : Below (A.drew.alloc o).heap.size (A.drew.alloc o) w') : Below A.heap.size A w' :=
  ((Below.refl _ A).drew.alloc (Nat.le_refl _) o).trans (hb.mono (by simp))
theorem past_heap {A w' : World} {o : Obj} {b : Nat} {x : Obj} (h : A.heap[b]? = some x) (hb : Below (A.drew.alloc o).heap.size (A.drew.alloc o) w') : w'.heap[b]? = some x :=
  ((past_below hb).block b (lt_of_heap h)).trans h

/-- A value within a block. -/
def SubShape (t : Int) (lb : Nat) (v : Value) : Prop := (t % 5 = 2 ∧ v = .iface 35 (ptr lb)) ∨ (t % 5 ≠ 2 ∧ (v = .nilIface ∨ ∃ T p, (T = 80 ∨ T = 83 ∨ T = 65) ∧ v = .iface T (.pointer p)))

theorem Asked.sub {t : Int} {lb : Nat} {m : Option Addr} {T : TypeId} {x : Option Addr} (h : Asked t (some ⟨lb, 0, none⟩) m T x) : SubShape t lb (.iface T (.pointer x)) := by
  rcases h with ⟨h, rfl, rfl⟩ | ⟨h, rfl, rfl⟩ | ⟨h2, h3, hT⟩
  · exact .inl ⟨h, rfl⟩
  · exact .inr ⟨by omega, .inr ⟨65, _, .inr (.inr rfl), rfl⟩⟩
  · exact .inr ⟨h2, .inr ⟨T, x, by rcases hT with h | h <;> simp [h], rfl⟩⟩

theorem sub_prop {A w' : World} {m lb : Nat} {es : List Int} {t : Int} {v : Value} (hm : m < 3) (hl : ListIn A lb (allEven es)) (hb : Below A.heap.size A w') (hv : SubShape t lb v) :
    SubIn (w'.alloc (.cells (propCells m v) 71)) ⟨m, w'.heap.size, if t % 5 = 2 then some (lb, allEven es) else none⟩ := by
  have hb2 : Below A.heap.size A (w'.alloc (.cells (propCells m v) 71)) := hb.alloc hb.size _
  refine ⟨hm, v, heap_alloc_new w' _, ?_⟩
  rcases hv with ⟨h, rfl⟩ | ⟨h, hv⟩
  · show SubVal _ _ (if t % 5 = 2 then _ else _)
    rw [if_pos h]
    exact ⟨rfl, ListIn.turns (Turns.of_below hb2 none) (Loose.none A) hl⟩
  · show SubVal _ _ (if t % 5 = 2 then _ else _)
    rw [if_neg h]
    exact hv

theorem wpList_append_eq {P : Program} {w : World} {ops : Array Oper} {rest : List Oper} {o : Oper} {a : Act} {Q : Exit → Act → World → Prop} (hgd : o.guard = none) (s x : Operand) (t ty : TypeId)
    (ho : o.op = .call { callee := .builtin .append, args := #[s, x], argTypes := #[t, t] }) (hty : o.type = ty) (v1 v2 : Value) (hs : a.eval s = v1) (hx : a.eval x = v2) (v' : Value) (w' : World)
    (hrun : (Builtin.append_ #[t, t] ty #[v1, v2]).run P w = .ok v' w')
    (h : wpList P ops Q rest (a.put o.dst v') w') : wpList P ops Q (o :: rest) a w := by
  refine wpList_plain hgd fun _ hK => ?_
  subst hty
  unfold Oper.wp execOp
  simp only [ho, resolve, invoke, builtin, Sem.run_bind, Sem.run_pure, Result.andThen_ok, List.map_toArray, List.map_cons, List.map_nil, hs, hx, hrun]
  exact hK _ _ h

theorem info37 : (Yba.prog.info? 37).map (fun i => (i.zero.map (fun z => z.cells.size), i.size, i.bytes)) = some (some 4, 4, 40) := by kernel_rfl
theorem parts37 : ∃ i z, Yba.prog.info? 37 = some i ∧ i.zero = some z ∧ z.cells.size = 4 ∧ i.size = 4 ∧ i.bytes = 40 := by
  have h := info37
  rcases hi : Yba.prog.info? 37 with _ | i
  · rw [hi] at h; cases h
  · rw [hi] at h
    simp only [Option.map_some, Option.some.injEq, Prod.mk.injEq] at h
    rcases hz : i.zero with _ | z
    · rw [hz] at h; simp at h
    · rw [hz] at h
      exact ⟨i, z, rfl, hz, by simpa using h.1, h.2.1, h.2.2⟩

theorem enc_one (x : Item) : ∀ u ∈ x.enc, u.oneCell' = true := by
  intro u hu
  simp only [Item.enc, List.mem_cons, List.not_mem_nil, or_false] at hu
  rcases hu with rfl | rfl | rfl | rfl <;> rfl
theorem encs_one (xs : List Item) : ∀ u ∈ encs xs, u.oneCell' = true := by
  intro u hu
  obtain ⟨x, _, hx⟩ := List.mem_flatMap.1 hu
  exact enc_one x u hx

/-- 'append(ws, stringList{..})'. -/
theorem append_item (w : World) (base : Nat) (v : Value) (xs : List Item) (x : Item) (h : w.ownsRow base 37 4 v xs.length (encs xs)) (hn : xs.length ≤ 100000) (hb : base ≤ w.heap.size) :
    ∃ v' w', (Builtin.append_ #[27, 27] 27 #[v, .slice (some ⟨w.heap.size, 0, none⟩) 1 1]).run Yba.prog (w.alloc (.cells x.enc.toArray 37)) = .ok v' w' ∧ w'.ownsRow base 37 4 v' (xs.length + 1) (encs xs ++ x.enc) ∧ (w.alloc (.cells x.enc.toArray 37)).grownBy w' v.ownBlock ∧ Moved (w.alloc (.cells x.enc.toArray 37)) v v' := by
  obtain ⟨i, z, hi, hz, hzs, h4, h40⟩ := parts37
  refine append_moved (P := Yba.prog) _ base 27 27 37 i z 4 40 Yba.underlying27 hi hz h4 h40 hzs (by decide) v xs.length (encs xs) (h.alloc _) ⟨w.heap.size, 0, none⟩ 1 1 x.enc rfl (fun j u hu => ?_) (enc_one x) (by unfold maxLen; omega) (by omega) (by simp; omega)
  rw [show (⟨w.heap.size, 0, none⟩ : Addr).add j = ⟨w.heap.size, j, none⟩ by unfold Addr.add; split <;> simp_all]
  rw [cell_of_heap (heap_alloc_new w _) j]
  simpa using hu

theorem subItem_yes {K : Nat → Int} {b m p lb : Nat} {t : Int} {es : List Int} (h1 : listKind (K (3 + 3 * b + m)) = true) (h2 : t % 5 = 2) (h3 : allEven es = true) :
    subItem K b ⟨m, p, if t % 5 = 2 then some (lb, allEven es) else none⟩ = [⟨nameOf b, p, K (3 + 3 * b + m), lb⟩] := by
  simp [subItem, h1, h2, h3]
theorem subItem_no {K : Nat → Int} {b m p lb : Nat} {t : Int} {es : List Int} (h : ¬ (listKind (K (3 + 3 * b + m)) = true ∧ t % 5 = 2 ∧ allEven es = true)) :
    subItem K b ⟨m, p, if t % 5 = 2 then some (lb, allEven es) else none⟩ = [] := by
  unfold subItem
  by_cases h2 : t % 5 = 2
  · simp only [h2, if_true]
    cases h3 : allEven es
    · rfl
    · have h1 : ¬ listKind (K (3 + 3 * b + m)) = true := fun h1 => h ⟨h1, h2, h3⟩
      simp [h1]
  · simp [h2]

theorem InLay.rowIn {W0 : World} {tcells : Array Value} {tb sb len : Nat} {vs : Value} {ss : List SubN} {xs : List Item} {wr : World} (h : InLay W0 tcells tb sb len vs ss xs wr) (hl : ss.length = len) (h256 : len ≤ 256) : RowIn wr sb ss := by
  obtain ⟨cs, r1, r2, r3⟩ := h.row
  rw [List.take_of_length_le (by simp; omega)] at r3
  refine ⟨?_, by omega, h.subs⟩
  rw [r1, ← r3]

/-- A value at the top. -/
def TopShape (t : Int) (lb mb : Nat) (v : Value) : Prop :=
  (t % 5 = 2 ∧ v = .iface 35 (ptr lb)) ∨ (t % 5 = 3 ∧ v = .iface 65 (ptr mb)) ∨ (t % 5 ≠ 2 ∧ t % 5 ≠ 3 ∧ (v = .nilIface ∨ ∃ T p, (T = 80 ∨ T = 83) ∧ v = .iface T (.pointer p)))

theorem Asked.top {t : Int} {lb mb : Nat} {T : TypeId} {x : Option Addr} (h : Asked t (some ⟨lb, 0, none⟩) (some ⟨mb, 0, none⟩) T x) : TopShape t lb mb (.iface T (.pointer x)) := by
  rcases h with ⟨h, rfl, rfl⟩ | ⟨h, rfl, rfl⟩ | ⟨h2, h3, hT⟩
  · exact .inl ⟨h, rfl⟩
  · exact .inr (.inl ⟨h, rfl⟩)
  · exact .inr (.inr ⟨h2, h3, .inr ⟨T, x, hT, rfl⟩⟩)

/-- The property at the top that t asks for. -/
def topOf (n p lb sb : Nat) (t : Int) (es : List Int) (ss : List SubN) : TopN :=
  ⟨n, p, if t % 5 = 2 then some (lb, allEven es) else none, if t % 5 = 3 then some (sb, ss) else none⟩

theorem top_prop {A w' : World} {n lb sb : Nat} {es : List Int} {ss : List SubN} {t : Int} {v : Value} (hn : n < 3) (hl : ListIn A lb (allEven es)) (hr : RowIn A sb ss)
    (hb : Below (A.drew.alloc (.cells #[.string ⟨#[]⟩, .int .i64 0, .int .i64 0, .slice (some ⟨sb, 0, none⟩) ss.length ss.length] 69)).heap.size (A.drew.alloc (.cells #[.string ⟨#[]⟩, .int .i64 0, .int .i64 0, .slice (some ⟨sb, 0, none⟩) ss.length ss.length] 69)) w')
    (hv : TopShape t lb A.heap.size v) :
    TopIn (w'.alloc (.cells (propCells n v) 71)) (topOf n w'.heap.size lb sb t es ss) := by
  have hb1 := past_below hb
  have hb2 : Below A.heap.size A (w'.alloc (.cells (propCells n v) 71)) := hb1.alloc hb1.size _
  have hmb : w'.heap[A.heap.size]? = some (.cells #[.string ⟨#[]⟩, .int .i64 0, .int .i64 0, .slice (some ⟨sb, 0, none⟩) ss.length ss.length] 69 (0, 0)) := (hb.block _ (by simp)).trans (heap_alloc_new A.drew _)
  refine ⟨hn, ?_, v, heap_alloc_new w' _, ?_⟩
  · intro x hx
    simp only [topOf] at hx ⊢
    split at hx
    · rename_i h; rw [if_neg (by omega)]
    · cases hx
  · show TopVal _ _ (if t % 5 = 2 then _ else _) (if t % 5 = 3 then _ else _)
    rcases hv with ⟨h, rfl⟩ | ⟨h, rfl⟩ | ⟨h2, h3, hv⟩
    · rw [if_pos h]
      exact ⟨rfl, ListIn.turns (Turns.of_below hb2 none) (Loose.none A) hl⟩
    · rw [if_neg (by omega), if_pos h]
      exact ⟨A.heap.size, rfl, (heap_alloc_old _ _ (lt_of_heap hmb)).trans hmb, RowIn.turns (Turns.of_below hb2 none) (Loose.none A) hr (by simp)⟩
    · rw [if_neg h2, if_neg h3]
      exact hv

/-- 'append(ps, p)'. -/
theorem append_ptr (w : World) (base : Nat) (v : Value) (n : Nat) (xs : List Value) (p : Nat) (h : w.ownsRow base 33 1 v n xs) (hn : n ≤ 100000) (hb : base ≤ w.heap.size) :
    ∃ v' w', (Builtin.append_ #[25, 25] 25 #[v, .slice (some ⟨w.heap.size, 0, none⟩) 1 1]).run Yba.prog (w.alloc (.cells #[.pointer (some ⟨p, 0, none⟩)] 33)) = .ok v' w' ∧ w'.ownsRow base 33 1 v' (n + 1) (xs ++ [ptr p]) ∧ (w.alloc (.cells #[.pointer (some ⟨p, 0, none⟩)] 33)).grownBy w' v.ownBlock ∧ Moved (w.alloc (.cells #[.pointer (some ⟨p, 0, none⟩)] 33)) v v' := by
  obtain ⟨i, hi, hz0, hz1, hz2⟩ := info_parts info33
  refine append_moved (P := Yba.prog) _ base 25 25 33 i (.pointer none) 1 8 Yba.underlying25 hi hz0 hz1 hz2 rfl (by decide) v n xs (h.alloc _) ⟨w.heap.size, 0, none⟩ 1 1 [ptr p] rfl (fun j u hu => ?_) (fun u hu => by rw [List.mem_singleton.1 hu]; rfl) (by unfold maxLen; omega) (by omega) (by simp; omega)
  rw [show (⟨w.heap.size, 0, none⟩ : Addr).add j = ⟨w.heap.size, j, none⟩ by unfold Addr.add; split <;> simp_all]
  rw [cell_of_heap (heap_alloc_new w _) j]
  simpa [ptr] using hu

/-- 'append(ws, ys...)'. -/
theorem append_items (w : World) (base b2 : Nat) (v v2 : Value) (xs ys : List Item) (h : w.ownsRow base 37 4 v xs.length (encs xs)) (h2 : w.ownsRow b2 37 4 v2 ys.length (encs ys)) (hn : xs.length ≤ 100000) (hn2 : ys.length ≤ 100000) (hb : base ≤ w.heap.size) :
    ∃ v' w', (Builtin.append_ #[27, 27] 27 #[v, v2]).run Yba.prog w = .ok v' w' ∧ w'.ownsRow base 37 4 v' (xs.length + ys.length) (encs xs ++ encs ys) ∧ w.grownBy w' v.ownBlock := by
  obtain ⟨i, z, hi, hz, hzs, h4, h40⟩ := parts37
  rcases h2.2 with ⟨rfl, e⟩ | ⟨g, cap, cur, rfl, _, hh, _⟩
  · have : ys = [] := List.eq_nil_of_length_eq_zero e
    subst this
    exact ⟨v, w, run_append_owned_none (P := Yba.prog) (w := w) base 27 27 37 i 4 Yba.underlying27 hi v xs.length (encs xs) h, by simpa [encs] using h, ⟨rfl, rfl, rfl, Nat.le_refl _, fun _ _ _ => rfl⟩⟩
  · obtain ⟨v', w', r1, r2, r3, _⟩ := append_moved (P := Yba.prog) w base 27 27 37 i z 4 40 Yba.underlying27 hi hz h4 h40 hzs (by decide) v xs.length (encs xs) h ⟨g, 0, none⟩ ys.length cap (encs ys) (encs_length ys) (h2.cells (g := g) rfl) (encs_one ys) (by unfold maxLen; omega) (by omega) hb
    exact ⟨v', w', r1, r2, r3⟩

section
variable {K : Nat → Int} {n p lb sb : Nat} {t : Int} {es : List Int} {ss : List SubN}
theorem topItem_yes (h1 : listKind (K n) = true) (h2 : t % 5 = 2) (h3 : allEven es = true) : topItem K (topOf n p lb sb t es ss) = [⟨⟨#[]⟩, p, K n, lb⟩] := by
  simp [topItem, topOf, h1, h2, h3]
theorem topItem_blk (h1 : K n = 7) (h2 : t % 5 = 3) : topItem K (topOf n p lb sb t es ss) = subItems K n ss := by
  have h7 : listKind 7 = false := rfl
  simp [topItem, topOf, h7, h1, h2]
theorem topItem_no (h1 : ¬ (listKind (K n) = true ∧ t % 5 = 2 ∧ allEven es = true)) (h2 : ¬ (K n = 7 ∧ t % 5 = 3)) : topItem K (topOf n p lb sb t es ss) = [] := by
  unfold topItem topOf
  dsimp only
  by_cases hk : listKind (K n) = true
  · rw [if_pos hk]
    by_cases h5 : t % 5 = 2
    · rw [if_pos h5]
      cases h3 : allEven es
      · rfl
      · exact absurd ⟨hk, h5, h3⟩ h1
    · rw [if_neg h5]
  · rw [if_neg hk]
    by_cases h7 : K n = 7
    · rw [if_pos h7, if_neg (fun h => h2 ⟨h7, h⟩)]
    · rw [if_neg h7]
theorem topItem_le (h : ss.length ≤ 256) : (topItem K (topOf n p lb sb t es ss)).length ≤ 256 := by
  unfold topItem topOf
  dsimp only
  split
  · split <;> simp
  · split
    · split
      · rename_i h' e
        split at e
        · cases e
          exact Nat.le_trans (subItems_le K n _) h
        · cases e
      · simp
    · simp
end
end Go.Proofs.Ybulkbayg
