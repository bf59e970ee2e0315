/-
  The law's lists: zzs2606alist, zzs2606avalue; slices.ContainsFunc(.., isNotString).
-/
import Derived.Test.YbulkbaygSmall
import Derived.Deep.OwnRows
namespace Go.Proofs.Ybulkbayg
open Go.RowKit

theorem cell_of_heap {w : World} {b : Nat} {cs : Array Value} {t : TypeId} (h : w.heap[b]? = some (.cells cs t (0, 0))) (j : Nat) : w.cell? ⟨b, j, none⟩ = cs[j]? := cell_of_row w b j cs t (0, 0) h
theorem frozen_of_heap {w : World} {b : Nat} {cs : Array Value} {t : TypeId} (h : w.heap[b]? = some (.cells cs t (0, 0))) (j : Nat) : w.frozen? ⟨b, j, none⟩ = false := by
  simp [World.frozen?, h]
theorem lt_of_heap {w : World} {b : Nat} {o : Obj} (h : w.heap[b]? = some o) : b < w.heap.size := (Array.getElem?_eq_some_iff.1 h).1
theorem heap_set {w : World} {b : Nat} {cs : Array Value} {t : TypeId} (h : w.heap[b]? = some (.cells cs t (0, 0))) (j : Nat) (v : Value) : (w.setCell ⟨b, j, none⟩ v).heap[b]? = some (.cells (cs.setIfInBounds j v) t (0, 0)) := by
  simp [World.setCell, Array.getElem?_modify, h]
theorem heap_set_other {w : World} {b b' : Nat} (h : b' ≠ b) (j : Nat) (v : Value) : (w.setCell ⟨b, j, none⟩ v).heap[b']? = w.heap[b']? := by
  simp [World.setCell, Array.getElem?_modify, Ne.symm h]

/-- The dynamic type that a byte asks for: *String or the other. -/
def tagOf (x : Int) : TypeId := if x % 2 = 0 then 80 else 83

/-- The row vb holds the values of the list that es asks for. -/
def ValsOf (cs : Array Value) (es : List Int) : Prop := cs.size = es.length ∧ ∀ j, j < es.length → ∃ p, cs[j]? = some (.iface (tagOf (es.getD j 0)) (.pointer p))

theorem tagOf_or (x : Int) : tagOf x = 80 ∨ tagOf x = 83 := by unfold tagOf; split <;> simp

theorem allEven_iff (es : List Int) : allEven es = true ↔ ∀ j, j < es.length → tagOf (es.getD j 0) = 80 := by
  unfold allEven tagOf
  rw [List.all_eq_true]
  constructor
  · intro h j hj
    have : es.getD j 0 = es[j] := by simp [List.getD, hj]
    rw [this]
    have := h _ (List.getElem_mem hj)
    simp at this
    simp [this]
  · intro h x hx
    obtain ⟨j, hj, rfl⟩ := List.getElem_of_mem hx
    have h1 := h j hj
    have : es.getD j 0 = es[j] := by simp [List.getD, hj]
    rw [this] at h1
    simp at h1 ⊢
    exact h1

set_option maxHeartbeats 400000 in
theorem index_func (vb : Nat) (cs : Array Value) (es : List Int) (w : World) (hb : w.heap[vb]? = some (.cells cs 63 (0, 0))) (hv : ValsOf cs es) (hl : es.length ≤ 256) :
    Calls Yba.prog 25 #[.slice (some ⟨vb, 0, none⟩) es.length es.length, .func (.func 24) #[] #[]] w fun e w' => (∃ r : Int, e = .returned (.int .i64 r) ∧ decide (0 ≤ r) = !allEven es) ∧ w' = w := by
  have HV := hide hv
  clear hv
  go_enter Yba.func25, Yba.ntmps25
  go_wp2
  go_loopg [8] es.length (fun g s8 wr => ∃ k : Nat, k ≤ es.length ∧ es.length - k ≤ g ∧ s8 = .int .i64 k ∧ wr = w ∧ Hid (∀ j, j < k → tagOf (es.getD j 0) = 80))
  case atStart => exact ⟨0, Nat.zero_le _, by omega, rfl, rfl, fun j hj => absurd hj (Nat.not_lt_zero _)⟩
  case round =>
    obtain ⟨k, hk, hg, rfl, rfl, A⟩ := hrel
    by_cases hlt : k < es.length
    · obtain ⟨p, hp⟩ := HV.out.2 k hlt
      have g1 := (cell_of_heap hb k).trans hp
      have HT := hide (tagOf_or (es.getD k 0))
      generalize hT : tagOf (es.getD k 0) = T at *
      have HTT := hide hT
      clear hp hT hb
      by_cases h80 : T = 80
      · have hq : (T != 80) = false := by simp [h80]
        have H80 := hide h80
        clear h80
        go_wp2_with fail
        refine (not_string T p _ HT.out).mono ?_
        rintro e w' ⟨rfl, rfl⟩
        go_wp2
        go_roundg (es.length - (k + 1))
        case measure => omega
        case rel =>
          refine ⟨k + 1, by omega, by omega, by go_num, rfl, fun j hj => ?_⟩
          by_cases e : j = k
          · subst e; rw [HTT.out, H80.out]
          · exact A.out j (by omega)
      · have hq : (T != 80) = true := by simp [h80]
        have H80 := hide h80
        clear h80
        go_wp2_with fail
        refine (not_string T p _ HT.out).mono ?_
        rintro e w' ⟨rfl, rfl⟩
        go_wp2
        go_ret
        refine ⟨⟨_, rfl, ?_⟩, rfl⟩
        have : allEven es = false := by
          cases ha : allEven es with
          | false => rfl
          | true => exact absurd (HTT.out.symm.trans ((allEven_iff es).1 ha k hlt)) H80.out
        rw [this]
        simp
    · go_wp2
      go_ret
      refine ⟨⟨_, rfl, ?_⟩, rfl⟩
      have : allEven es = true := (allEven_iff es).2 fun j hj => A.out j (by omega)
      rw [this]
      rfl

theorem contains_func (vb : Nat) (cs : Array Value) (es : List Int) (w : World) (hb : w.heap[vb]? = some (.cells cs 63 (0, 0))) (hv : ValsOf cs es) (hl : es.length ≤ 256) :
    Calls Yba.prog 23 #[.slice (some ⟨vb, 0, none⟩) es.length es.length, .func (.func 24) #[] #[]] w fun e w' => e = .returned (.bool (!allEven es)) ∧ w' = w := by
  have hI := hide (index_func vb cs es w hb hv hl)
  clear hb hv
  go_enter Yba.func23, Yba.ntmps23
  go_wp2_with fail
  refine hI.out.mono ?_
  rintro e w' ⟨⟨r, rfl, hr⟩, rfl⟩
  go_wp2
  go_ret
  exact ⟨ret_bool (by rw [← hr]), rfl⟩

theorem info63 : (Yba.prog.info? 63).map (fun i => (i.zero, i.size, i.bytes)) = some (some .nilIface, 1, 16) := by kernel_rfl

/-- What zzs2606alist leaves: the list's block lb and its values' row vb, both new. -/
structure NewList (w w' : World) (lb : Nat) (es : List Int) : Prop where
  ge : w.heap.size ≤ lb
  here : ∃ vb cs, w.heap.size ≤ vb ∧ w'.heap[lb]? = some (.cells #[.string ⟨#[]⟩, .int .i64 0, .int .i64 0, .slice (some ⟨vb, 0, none⟩) es.length es.length] 87 (0, 0)) ∧ w'.heap[vb]? = some (.cells cs 63 (0, 0)) ∧ ValsOf cs es
  below : Below w.heap.size w w'

set_option maxHeartbeats 1000000 in
set_option maxRecDepth 100000 in
theorem list_new (ea : Option Addr) (ec : Nat) (es : List Int) (w : World) (he : Ints w (.slice ea es.length ec) es) (hl : es.length ≤ 256) :
    Calls Yba.prog 14 #[.slice ea es.length ec] w fun e w' => ∃ lb, e = .returned (.pointer (some ⟨lb, 0, none⟩)) ∧ NewList w w' lb es := by
  have hmk := run_make_row' (P := Yba.prog) 79 63 .nilIface 16 Yba.underlying79 info63 rfl .i64 .i64 es.length (by omega) (by omega) w
  have HE := hide he
  clear he
  go_enter Yba.func14, Yba.ntmps14
  go_wp2
  go_loopg [11] es.length (fun g s11 wr => ∃ (k : Nat) (cs : Array Value), k ≤ es.length ∧ es.length - k ≤ g ∧ s11 = .int .i64 k ∧ Hid (wr.heap[w.heap.size]? = some (.cells cs 63 (0, 0))) ∧ Hid (cs.size = es.length) ∧
    Hid (∀ j, j < k → ∃ p, cs[j]? = some (.iface (tagOf (es.getD j 0)) (.pointer p))) ∧ Hid (Below w.heap.size w wr))
  case atStart => exact ⟨0, _, Nat.zero_le _, by omega, rfl, heap_alloc_new w _, (by show (madeCells _ _).size = _; simp [madeCells]), fun j hj => absurd hj (Nat.not_lt_zero _), (Below.refl _ w).alloc (Nat.le_refl _) _⟩
  case round =>
    obtain ⟨k, cs, hk, hg, rfl, HH, HS, HA, HB⟩ := hrel
    by_cases hlt : k < es.length
    · obtain ⟨bb, off, rfl, hbb, g⟩ := HE.out.at (by omega)
      have g1 : wr.cell? ⟨bb, off + k, none⟩ = some (.int .u8 (es.getD k 0)) := (HB.out.cell (p := ⟨bb, off + k, none⟩) hbb).trans (g k hlt)
      have hbd := HE.out.bound k
      have hks : k < cs.size := by rw [HS.out]; exact hlt
      obtain ⟨u, hu⟩ : ∃ u, wr.cell? ⟨w.heap.size, k, none⟩ = some u := ⟨_, (cell_of_heap HH.out k).trans (Array.getElem?_eq_getElem hks)⟩
      have hz := frozen_of_heap HH.out k
      have hwz := lt_of_heap HH.out
      have HTG : Hid (tagOf (es.getD k 0) = if es.getD k 0 % 2 = 0 then 80 else 83) := rfl
      clear g hmk
      have HX : Hid (∀ (W : World) (p : Option Addr) (T : TypeId), tagOf (es.getD k 0) = T → W.heap[w.heap.size]? = some (.cells (cs.setIfInBounds k (.iface T (.pointer p))) 63 (0, 0)) → Below w.heap.size w W →
          ∃ (k' : Nat) (cs' : Array Value), k' = k + 1 ∧ Hid (W.heap[w.heap.size]? = some (.cells cs' 63 (0, 0))) ∧ Hid (cs'.size = es.length) ∧ Hid (∀ j, j < k' → ∃ p, cs'[j]? = some (.iface (tagOf (es.getD j 0)) (.pointer p))) ∧ Hid (Below w.heap.size w W)) := by
        intro W p T hT hW hbl
        refine ⟨k + 1, _, rfl, hW, (by show (cs.setIfInBounds _ _).size = _; rw [Array.size_setIfInBounds]; exact HS.out), fun j hj => ?_, hbl⟩
        by_cases e : j = k
        · subst e
          exact ⟨p, by rw [Array.getElem?_setIfInBounds_self_of_lt hks, hT]⟩
        · obtain ⟨p', hp'⟩ := HA.out j (by omega)
          exact ⟨p', by rw [Array.getElem?_setIfInBounds_ne (Ne.symm e)]; exact hp'⟩
      generalize hxx : es.getD k 0 = x at g1 hbd
      have HXX := hide hxx
      clear hxx HTG
      by_cases hx : x % 2 = 0
      · have hx1 : (x % 2 == 0) = true := by simp [hx]
        have hT : tagOf (es.getD k 0) = 80 := by rw [HXX.out]; simp [tagOf, hx]
        have HT := hide hT
        clear hx hT
        go_wp2
        go_roundg (es.length - (k + 1))
        case measure => omega
        case rel =>
          obtain ⟨k', cs', rfl, r1, r2, r3, r4⟩ := HX.out _ _ _ HT.out ((heap_alloc_old _ _ (by simpa using hwz)).trans (heap_set HH.out k _)) ((HB.out.setCell (p := ⟨w.heap.size, k, none⟩) (Nat.le_refl _) _).alloc (by simp; omega) _)
          exact ⟨k + 1, cs', by omega, by omega, by go_num, r1, r2, r3, r4⟩
      · have hx1 : (x % 2 == 0) = false := by simp [hx]
        have hT : tagOf (es.getD k 0) = 83 := by rw [HXX.out]; simp [tagOf, hx]
        have HT := hide hT
        clear hx hT
        go_wp2
        go_roundg (es.length - (k + 1))
        case measure => omega
        case rel =>
          obtain ⟨k', cs', rfl, r1, r2, r3, r4⟩ := HX.out _ _ _ HT.out ((heap_alloc_old _ _ (by simpa using hwz)).trans (heap_set HH.out k _)) ((HB.out.setCell (p := ⟨w.heap.size, k, none⟩) (Nat.le_refl _) _).alloc (by simp; omega) _)
          exact ⟨k + 1, cs', by omega, by omega, by go_num, r1, r2, r3, r4⟩
    · have hwz := lt_of_heap HH.out
      go_wp2
      go_ret
      exact ⟨_, rfl, ⟨by omega, ⟨_, _, Nat.le_refl _, heap_alloc_new _ _, (heap_alloc_old _ _ hwz).trans HH.out, HS.out, fun j hj => HA.out j (by omega)⟩, HB.out.alloc (by omega) _⟩⟩

set_option maxHeartbeats 400000 in
theorem value_any (t : Int) (h0 : 0 ≤ t) (h1 : t ≤ 255) (l m : Option Addr) (w : World) :
    Calls Yba.prog 15 #[.int .u8 t, .pointer l, .pointer m] w fun e w' => ∃ v, e = .returned v ∧ Below w.heap.size w w' ∧
      ((t % 5 = 2 ∧ v = .iface 35 (.pointer l)) ∨ (t % 5 = 3 ∧ v = .iface 65 (.pointer m)) ∨ (t % 5 = 0 ∧ v = .nilIface) ∨ (t % 5 ≠ 0 ∧ t % 5 ≠ 2 ∧ t % 5 ≠ 3 ∧ ∃ T p, (T = 80 ∨ T = 83) ∧ v = .iface T (.pointer p))) := by
  have h5 : t % 5 = 0 ∨ t % 5 = 1 ∨ t % 5 = 2 ∨ t % 5 = 3 ∨ t % 5 = 4 := by omega
  rcases h5 with h | h | h | h | h
  · have e0 : (t % 5 == 0) = true := by simp [h]
    have H := hide h
    clear h
    go_enter Yba.func15, Yba.ntmps15
    go_wp2
    go_ret
    exact ⟨_, rfl, Below.refl _ _, .inr (.inr (.inl ⟨H.out, rfl⟩))⟩
  · have e0 : (t % 5 == 0) = false := by simp [h]
    have e1 : (t % 5 == 1) = true := by simp [h]
    have H := hide h
    clear h
    go_enter Yba.func15, Yba.ntmps15
    go_wp2
    go_ret
    exact ⟨_, rfl, (Below.refl _ _).alloc (Nat.le_refl _) _, .inr (.inr (.inr ⟨by have := H.out; omega, by have := H.out; omega, by have := H.out; omega, ⟨80, _, .inl rfl, rfl⟩⟩))⟩
  · have e0 : (t % 5 == 0) = false := by simp [h]
    have e1 : (t % 5 == 1) = false := by simp [h]
    have e2 : (t % 5 == 2) = true := by simp [h]
    have H := hide h
    clear h
    go_enter Yba.func15, Yba.ntmps15
    go_wp2
    go_ret
    exact ⟨_, rfl, Below.refl _ _, .inl ⟨H.out, rfl⟩⟩
  · have e0 : (t % 5 == 0) = false := by simp [h]
    have e1 : (t % 5 == 1) = false := by simp [h]
    have e2 : (t % 5 == 2) = false := by simp [h]
    have e3 : (t % 5 == 3) = true := by simp [h]
    have H := hide h
    clear h
    go_enter Yba.func15, Yba.ntmps15
    go_wp2
    go_ret
    exact ⟨_, rfl, Below.refl _ _, .inr (.inl ⟨H.out, rfl⟩)⟩
  · have e0 : (t % 5 == 0) = false := by simp [h]
    have e1 : (t % 5 == 1) = false := by simp [h]
    have e2 : (t % 5 == 2) = false := by simp [h]
    have e3 : (t % 5 == 3) = false := by simp [h]
    have H := hide h
    clear h
    go_enter Yba.func15, Yba.ntmps15
    go_wp2
    go_ret
    exact ⟨_, rfl, (Below.refl _ _).alloc (Nat.le_refl _) _, .inr (.inr (.inr ⟨by have := H.out; omega, by have := H.out; omega, by have := H.out; omega, ⟨83, _, .inr rfl, rfl⟩⟩))⟩

/-- What value the byte t asks for, where it is not nil. -/
def Asked (t : Int) (l m : Option Addr) (T : TypeId) (x : Option Addr) : Prop :=
  (t % 5 = 2 ∧ T = 35 ∧ x = l) ∨ (t % 5 = 3 ∧ T = 65 ∧ x = m) ∨ (t % 5 ≠ 2 ∧ t % 5 ≠ 3 ∧ (T = 80 ∨ T = 83))
theorem value_some (t : Int) (h0 : 0 ≤ t) (h1 : t ≤ 255) (hz : t % 5 ≠ 0) (l m : Option Addr) (w : World) :
    Calls Yba.prog 15 #[.int .u8 t, .pointer l, .pointer m] w fun e w' => ∃ T x, e = .returned (.iface T (.pointer x)) ∧ Below w.heap.size w w' ∧ Asked t l m T x := by
  refine (value_any t h0 h1 l m w).mono ?_
  rintro e w' ⟨v, rfl, hb, (⟨h, rfl⟩ | ⟨h, rfl⟩ | ⟨h, rfl⟩ | ⟨_, h2, h3, T, p, hT, rfl⟩)⟩
  · exact ⟨_, _, rfl, hb, .inl ⟨h, rfl, rfl⟩⟩
  · exact ⟨_, _, rfl, hb, .inr (.inl ⟨h, rfl, rfl⟩)⟩
  · exact absurd h hz
  · exact ⟨_, _, rfl, hb, .inr (.inr ⟨h2, h3, hT⟩)⟩
theorem value_none (t : Int) (h0 : 0 ≤ t) (h1 : t ≤ 255) (hz : t % 5 = 0) (l m : Option Addr) (w : World) :
    Calls Yba.prog 15 #[.int .u8 t, .pointer l, .pointer m] w fun e w' => e = .returned .nilIface ∧ Below w.heap.size w w' := by
  refine (value_any t h0 h1 l m w).mono ?_
  rintro e w' ⟨v, rfl, hb, (⟨h, rfl⟩ | ⟨h, rfl⟩ | ⟨h, rfl⟩ | ⟨h1, h2, h3, T, p, hT, rfl⟩)⟩
  · omega
  · omega
  · exact ⟨rfl, hb⟩
  · omega

end Go.Proofs.Ybulkbayg
