/-
  What zzs2606abuild lays: properties, lists, blocks; what the iterator is to find among them.
-/
import Derived.Test.YbulkbaygKinds
import Derived.Laws.AppendOwn
namespace Go.Proofs.Ybulkbayg
open Go.RowKit

/-! ### Ghosts -/
/-- A property within a block: its name, its block, the list that is its value (and whether that holds strings alone). -/
structure SubN where
  n : Nat
  p : Nat
  l : Option (Nat × Bool)
/-- A property at the top: besides, the row of the block that is its value. -/
structure TopN where
  n : Nat
  p : Nat
  l : Option (Nat × Bool)
  m : Option (Nat × List SubN)
structure Item where
  blk : ByteArray
  p : Nat
  k : Int
  l : Nat

def ptr (b : Nat) : Value := .pointer (some ⟨b, 0, none⟩)
def Item.enc (x : Item) : List Value := [.string x.blk, ptr x.p, .int .i64 x.k, ptr x.l]
def encs (xs : List Item) : List Value := xs.flatMap Item.enc

theorem encs_append (xs ys : List Item) : encs (xs ++ ys) = encs xs ++ encs ys := List.flatMap_append
theorem encs_length (xs : List Item) : (encs xs).length = xs.length * 4 := by
  induction xs with
  | nil => rfl
  | cons x xs ih => simp [encs, Item.enc] at ih ⊢; omega

def subItem (K : Nat → Int) (b : Nat) (s : SubN) : List Item :=
  match s.l with
  | some (lb, true) => if listKind (K (3 + 3 * b + s.n)) then [⟨nameOf b, s.p, K (3 + 3 * b + s.n), lb⟩] else []
  | _ => []
def subItems (K : Nat → Int) (b : Nat) (ss : List SubN) : List Item := ss.flatMap (subItem K b)
def topItem (K : Nat → Int) (t : TopN) : List Item :=
  if listKind (K t.n) then
    match t.l with
    | some (lb, true) => [⟨⟨#[]⟩, t.p, K t.n, lb⟩]
    | _ => []
  else if K t.n = 7 then
    match t.m with
    | some (_, ss) => subItems K t.n ss
    | none => []
  else []
def topItems (K : Nat → Int) (ts : List TopN) : List Item := ts.flatMap (topItem K)

theorem subItem_le (K : Nat → Int) (b : Nat) (s : SubN) : (subItem K b s).length ≤ 1 := by
  unfold subItem
  split
  · split <;> simp
  · simp
theorem subItems_le (K : Nat → Int) (b : Nat) (ss : List SubN) : (subItems K b ss).length ≤ ss.length := by
  induction ss with
  | nil => simp [subItems]
  | cons s ss ih =>
    have := subItem_le K b s
    simp only [subItems, List.flatMap_cons, List.length_append, List.length_cons] at ih ⊢
    omega
theorem subItems_snoc (K : Nat → Int) (b : Nat) (ss : List SubN) (s : SubN) : subItems K b (ss ++ [s]) = subItems K b ss ++ subItem K b s := by simp [subItems]
theorem topItems_snoc (K : Nat → Int) (ts : List TopN) (t : TopN) : topItems K (ts ++ [t]) = topItems K ts ++ topItem K t := by simp [topItems]

/-! ### In memory -/
def propCells (n : Nat) (v : Value) : Array Value := #[.string (nameOf n), .string ⟨#[]⟩, .int .i64 0, .int .i64 0, v]

/-- A list, with or without a value that is no string. -/
def ListIn (w : World) (lb : Nat) (all : Bool) : Prop :=
  ∃ es vb cs, es.length ≤ 256 ∧ allEven es = all ∧ w.heap[lb]? = some (.cells #[.string ⟨#[]⟩, .int .i64 0, .int .i64 0, .slice (some ⟨vb, 0, none⟩) es.length es.length] 87 (0, 0)) ∧ w.heap[vb]? = some (.cells cs 63 (0, 0)) ∧ ValsOf cs es

def SubVal (w : World) (v : Value) : Option (Nat × Bool) → Prop
  | some (lb, all) => v = .iface 35 (ptr lb) ∧ ListIn w lb all
  | none => v = .nilIface ∨ ∃ T p, (T = 80 ∨ T = 83 ∨ T = 65) ∧ v = .iface T (.pointer p)
def SubIn (w : World) (s : SubN) : Prop := s.n < 3 ∧ ∃ v, w.heap[s.p]? = some (.cells (propCells s.n v) 71 (0, 0)) ∧ SubVal w v s.l

def subPtrs (ss : List SubN) : List Value := ss.map fun s => ptr s.p
def topPtrs (ts : List TopN) : List Value := ts.map fun t => ptr t.p

structure RowIn (w : World) (sb : Nat) (ss : List SubN) : Prop where
  row : w.heap[sb]? = some (.cells (subPtrs ss).toArray 33 (0, 0))
  le : ss.length ≤ 256
  subs : ∀ s ∈ ss, SubIn w s

def TopVal (w : World) (v : Value) : Option (Nat × Bool) → Option (Nat × List SubN) → Prop
  | some (lb, all), _ => v = .iface 35 (ptr lb) ∧ ListIn w lb all
  | none, some (sb, ss) => ∃ mb, v = .iface 65 (ptr mb) ∧ w.heap[mb]? = some (.cells #[.string ⟨#[]⟩, .int .i64 0, .int .i64 0, .slice (some ⟨sb, 0, none⟩) ss.length ss.length] 69 (0, 0)) ∧ RowIn w sb ss
  | none, none => v = .nilIface ∨ ∃ T p, (T = 80 ∨ T = 83) ∧ v = .iface T (.pointer p)
def TopIn (w : World) (t : TopN) : Prop := t.n < 3 ∧ (∀ x, t.l = some x → t.m = none) ∧ ∃ v, w.heap[t.p]? = some (.cells (propCells t.n v) 71 (0, 0)) ∧ TopVal w v t.l t.m

/-! ### What keeps them -/
/-- Every block of w but r lies in w' as it lay. -/
def Turns (w w' : World) (r : Option Nat) : Prop := ∀ b o, w.heap[b]? = some o → some b ≠ r → w'.heap[b]? = some o
/-- r, if any, is a row of properties or of items. -/
def Loose (w : World) (r : Option Nat) : Prop := ∀ g, r = some g → ∃ cs t, w.heap[g]? = some (.cells cs t (0, 0)) ∧ (t = 33 ∨ t = 37)

theorem Turns.of_below {w w' : World} (h : Below w.heap.size w w') (r : Option Nat) : Turns w w' r := fun b _ hb _ => (h.block b (lt_of_heap hb)).trans hb
theorem Turns.of_grown {w w' : World} {r : Option Nat} (h : w.grownBy w' r) : Turns w w' r := fun b _ hb hr => (h.block b (lt_of_heap hb) hr).trans hb
theorem Turns.of_set (w : World) (b j : Nat) (v : Value) : Turns w (w.setCell ⟨b, j, none⟩ v) (some b) := fun b' _ hb hr => (heap_set_other (fun e => hr (by rw [e])) j v).trans hb
theorem Turns.of_alloc (w : World) (o : Obj) (r : Option Nat) : Turns w (w.alloc o) r := fun _ _ hb _ => (heap_alloc_old w o (lt_of_heap hb)).trans hb
theorem Loose.none (w : World) : Loose w none := fun g h => by cases h
theorem Loose.of_owns {w : World} {base e size n : Nat} {v : Value} {xs : List Value} (h : w.ownsRow base e size v n xs) (he : e = 33 ∨ e = 37) : Loose w v.ownBlock := by
  intro g hg
  rcases h.2 with ⟨rfl, _⟩ | ⟨g', cap, cur, rfl, _, hh, _⟩
  · simp [Value.ownBlock] at hg
  · simp [Value.ownBlock] at hg
    subst hg
    exact ⟨cur, e, hh, he⟩

section
variable {w w' : World} {r : Option Nat}
theorem kept_cells (ht : Turns w w' r) (hl : Loose w r) {b : Nat} {cs : Array Value} {t : TypeId} (h : w.heap[b]? = some (.cells cs t (0, 0))) (h33 : t ≠ 33) (h37 : t ≠ 37) : w'.heap[b]? = some (.cells cs t (0, 0)) := by
  refine ht b _ h fun e => ?_
  obtain ⟨cs', t', h', ht'⟩ := hl b e.symm
  rw [h] at h'
  cases h'
  rcases ht' with e | e
  · exact h33 e
  · exact h37 e
theorem ListIn.turns (ht : Turns w w' r) (hl : Loose w r) {lb : Nat} {all : Bool} (h : ListIn w lb all) : ListIn w' lb all := by
  obtain ⟨es, vb, cs, h1, h2, h3, h4, h5⟩ := h
  exact ⟨es, vb, cs, h1, h2, kept_cells ht hl h3 (by decide) (by decide), kept_cells ht hl h4 (by decide) (by decide), h5⟩
theorem SubVal.turns (ht : Turns w w' r) (hl : Loose w r) {v : Value} {l : Option (Nat × Bool)} (h : SubVal w v l) : SubVal w' v l := by
  rcases l with _ | ⟨lb, all⟩
  · exact h
  · exact ⟨h.1, ListIn.turns ht hl h.2⟩
theorem SubIn.turns (ht : Turns w w' r) (hl : Loose w r) {s : SubN} (h : SubIn w s) : SubIn w' s := by
  obtain ⟨h1, v, h2, h3⟩ := h
  exact ⟨h1, v, kept_cells ht hl h2 (by decide) (by decide), SubVal.turns ht hl h3⟩
theorem RowIn.turns (ht : Turns w w' r) (hl : Loose w r) {sb : Nat} {ss : List SubN} (h : RowIn w sb ss) (hr : some sb ≠ r) : RowIn w' sb ss := ⟨ht _ _ h.row hr, h.le, fun s hs => SubIn.turns ht hl (h.subs s hs)⟩
theorem TopIn.turns (ht : Turns w w' r) (hl : Loose w r) {t : TopN} (h : TopIn w t) (hr : ∀ sb ss, t.m = some (sb, ss) → some sb ≠ r) : TopIn w' t := by
  obtain ⟨h1, h0, v, h2, h3⟩ := h
  refine ⟨h1, h0, v, kept_cells ht hl h2 (by decide) (by decide), ?_⟩
  revert h3 hr
  rcases t.l with _ | ⟨lb, all⟩
  · rcases t.m with _ | ⟨sb, ss⟩
    · exact fun _ h => h
    · exact fun hr ⟨mb, a, b, c⟩ => ⟨mb, a, kept_cells ht hl b (by decide) (by decide), RowIn.turns ht hl c (hr _ _ rfl)⟩
  · exact fun _ ⟨a, b⟩ => ⟨a, ListIn.turns ht hl b⟩
end

theorem TopIn.below {w w' : World} {t : TopN} (h : TopIn w t) (hb : Below w.heap.size w w') : TopIn w' t := TopIn.turns (Turns.of_below hb none) (Loose.none w) h (fun _ _ _ => by simp)
theorem SubIn.below {w w' : World} {s : SubN} (h : SubIn w s) (hb : Below w.heap.size w w') : SubIn w' s := SubIn.turns (Turns.of_below hb none) (Loose.none w) h

/-- The row of a property at the top lies in the heap. -/
theorem TopIn.row_lt {w : World} {t : TopN} (h : TopIn w t) {sb : Nat} {ss : List SubN} (e : t.m = some (sb, ss)) : sb < w.heap.size := by
  obtain ⟨_, h0, v, _, h3⟩ := h
  cases hl : t.l with
  | some x => rw [h0 x hl] at e; cases e
  | none =>
    rw [hl, e] at h3
    obtain ⟨mb, _, _, c⟩ := h3
    exact lt_of_heap c.row

/-! ### Appends: where the new row lies -/
/-- The slice's own row, or a new block. -/
def Moved (w : World) (v v' : Value) : Prop := v'.ownBlock = v.ownBlock ∨ ∀ g, v'.ownBlock = some g → w.heap.size ≤ g

theorem append_moved {P : Program} (w : World) (base : Nat) (t ty e : TypeId) (i : TypeInfo) (z : Value) (size bytes : Nat) (ht : P.underlying t = some (.slice e)) (hi : P.info? e = some i) (hz : i.zero = some z)
    (hsize : i.size = size) (hby : i.bytes = bytes) (hzs : z.cells.size = size) (hsz : 0 < size)
    (v : Value) (n : Nat) (xs : List Value) (hown : w.ownsRow base e size v n xs)
    (a : Addr) (m c : Nat) (news : List Value) (hl : news.length = m * size) (hnews : ∀ j u, news[j]? = some u → w.cell? (a.add j) = some u) (h1 : ∀ u ∈ news, u.oneCell' = true)
    (h63 : n + m ≤ maxLen) (hbytes : (n + m) * bytes ≤ 140737488355328) (hbase : base ≤ w.heap.size) :
    ∃ v' w', (Builtin.append_ #[t, t] ty #[v, .slice (some a) m c]).run P w = .ok v' w' ∧ w'.ownsRow base e size v' (n + m) (xs ++ news) ∧ w.grownBy w' v.ownBlock ∧ Moved w v v' := by
  obtain ⟨v', w', hrun, h2, h3, _⟩ := run_append_own (P := P) w base t ty e i z size bytes ht hi hz hsize hby hzs hsz v n xs hown a m c news hl hnews h1 h63 hbytes hbase
  refine ⟨v', w', hrun, h2, h3, ?_⟩
  have hsmall : n + m ≤ 9223372036854775807 := by simp only [maxLen] at h63; omega
  rcases hown.2 with ⟨rfl, rfl⟩ | ⟨g, cap, cur, rfl, hbg, hg, hnc, hcm, hcs, htake⟩
  · obtain ⟨v2, w2, hrun2, h22, _⟩ := run_append_own (P := P) w w.heap.size t ty e i z size bytes ht hi hz hsize hby hzs hsz _ 0 [] (World.ownsRow_nil _ _ _ _) a m c news hl hnews h1 h63 hbytes (Nat.le_refl _)
    rw [hrun] at hrun2
    cases hrun2
    exact .inr fun g hg => (h22.lt g hg).1
  · by_cases hroom : n + m ≤ cap
    · have hr := run_append_room (P := P) w t ty e i ht hi g n cap cur hg a m c news (by rw [hsize]; exact hl) hnews h1 hroom (by rw [hsize, hl, hcs, ← Nat.add_mul]; exact Nat.mul_le_mul_right _ hroom)
      rw [hrun] at hr
      cases hr
      exact .inl rfl
    · have hr := run_append_grow (P := P) w t ty e i z ht hi hz ⟨g, 0, none⟩ n cap xs (by rw [hsize]; exact hown.1) (hown.cells (g := g) rfl) a m c news (by rw [hsize]; exact hl) hnews (by omega) (by omega) (growslice_fits (by omega) (by rw [hby]; exact hbytes))
      rw [hrun] at hr
      cases hr
      exact .inr fun g hg => by simp [Value.ownBlock] at hg; omega
end Go.Proofs.Ybulkbayg
