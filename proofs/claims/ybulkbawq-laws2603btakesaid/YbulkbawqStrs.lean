/-
  Slices of strings that are only read: one word for nil, empty and filled ones; slices.Equal, slices.Index, slices.Clone and the law's own comparison over it.
-/
import Derived.Test.YbulkbawqRows
import Derived.Test.YbulkbawqShelf
import Derived.WalkKit
import Derived.WalkSpells
import Derived.WalkLawsBesides
import Derived.Deep.LoopGhost
namespace Go.Proofs.Ybulkbawq
open Go.RowKit Go.Shelf

/-- The slice v holds the strings ss. -/
def Reads (w : World) (v : Value) (ss : List ByteArray) : Prop :=
  ∃ (a : Option Addr) (c : Nat), v = .slice a ss.length c ∧ ss.length ≤ c ∧
    (ss = [] ∨ ∃ b off, a = some ⟨b, off, none⟩ ∧ ∀ j, j < ss.length → w.cell? ⟨b, off + j, none⟩ = some (.string (ss.getD j ByteArray.empty)))

set_option maxHeartbeats 2000000 in
set_option maxRecDepth 100000 in
theorem beq_full (b1 o1 n c b2 o2 m d : Nat) (xs ys : List ByteArray) (w : World) (hx : n ≤ xs.length) (hy : m ≤ ys.length) (hbig : n ≤ 9223372036854775807) (hbig2 : m ≤ 9223372036854775807) (hc1 : ∀ j, j < xs.length → w.cell? ⟨b1, o1 + j, none⟩ = some (.string (xs.getD j ByteArray.empty))) (hc2 : ∀ j, j < ys.length → w.cell? ⟨b2, o2 + j, none⟩ = some (.string (ys.getD j ByteArray.empty))) :
    Calls Yba.prog 7 #[.slice (some ⟨b1, o1, none⟩) n c, .slice (some ⟨b2, o2, none⟩) m d] w fun e w' => e = .returned (.bool (decide (xs.take n = ys.take m))) ∧ ∃ q, w' = w.drewN q := by
  have mixed : Yba.prog.follows Departure.mixedOrders = true := by kernel_rfl
  by_cases hnm : n = m
  · subst hnm
    go_enter Yba.func7, Yba.ntmps7
    go_wp2
    go_loopg [13] n (fun g s13 wr => ∃ k q : Nat, k ≤ n ∧ n - k ≤ g ∧ s13 = .int .i64 k ∧ wr = w.drewN q ∧ ∀ j, j < k → xs.getD j ByteArray.empty = ys.getD j ByteArray.empty)
    case atStart => exact ⟨0, 0, Nat.zero_le _, by omega, rfl, rfl, fun j hj => absurd hj (Nat.not_lt_zero _)⟩
    case round =>
      obtain ⟨k, q, hk, hg, rfl, rfl, heq⟩ := hrel
      by_cases hlt : k < n
      · have g1 : w.cell? ⟨b1, o1 + k, none⟩ = some (.string (xs.getD k ByteArray.empty)) := hc1 k (by omega)
        have g2 : w.cell? ⟨b2, o2 + k, none⟩ = some (.string (ys.getD k ByteArray.empty)) := hc2 k (by omega)
        have A : Hid (∀ j, j < k → xs.getD j ByteArray.empty = ys.getD j ByteArray.empty) := heq
        clear heq hc1 hc2
        generalize hxk : xs.getD k ByteArray.empty = x at g1
        generalize hyk : ys.getD k ByteArray.empty = y at g2
        have B : Hid (xs.getD k ByteArray.empty = x ∧ ys.getD k ByteArray.empty = y) := ⟨hxk, hyk⟩
        clear hxk hyk
        by_cases hxy : x = y
        · subst hxy
          go_wp2_with fail
          go_region_o
          go_wp2
          go_roundg (n - (k + 1))
          case measure => omega
          case rel =>
            refine ⟨k + 1, q + 1, by omega, by omega, by go_num, rfl, fun j hj => ?_⟩
            by_cases e : j = k
            · subst e
              rw [B.out.1, B.out.2]
            · exact A.out j (by omega)
        · have hxy' : (x.toList == y.toList) = false := (Lib.bytes_beq_false_iff _ _).2 hxy
          go_wp2_with fail
          go_region_o
          go_wp2
          go_ret
          refine ⟨?_, q + 1, rfl⟩
          rw [decide_eq_false (Lib.take_ne_elem ByteArray.empty xs ys n k hlt (by rw [B.out.1, B.out.2]; exact hxy))]
          rfl
      · have : k = n := by omega
        subst this
        clear hc1 hc2
        go_wp2
        go_ret
        refine ⟨?_, q, rfl⟩
        rw [decide_eq_true (Lib.take_eq_all ByteArray.empty xs ys k hx hy heq)]
        rfl
  · have hnm' : ¬ (n : Int) = (m : Int) := by omega
    clear hc1 hc2
    go_enter Yba.func7, Yba.ntmps7
    go_wp2
    go_ret
    refine ⟨?_, 0, rfl⟩
    rw [decide_eq_false (Lib.take_ne_len xs ys n m hx hy hnm)]
    rfl

theorem beq_lens (a1 a2 : Option Addr) (n c m d : Nat) (w : World) (hnm : ¬ (n : Int) = (m : Int)) :
    Calls Yba.prog 7 #[.slice a1 n c, .slice a2 m d] w fun e w' => e = .returned (.bool false) ∧ w' = w := by
  go_enter Yba.func7, Yba.ntmps7
  go_wp2
  go_ret
  exact ⟨rfl, rfl⟩

theorem beq_none (a1 a2 : Option Addr) (c d : Nat) (w : World) :
    Calls Yba.prog 7 #[.slice a1 0 c, .slice a2 0 d] w fun e w' => e = .returned (.bool true) ∧ w' = w := by
  go_enter Yba.func7, Yba.ntmps7
  go_wp2
  go_loopg [13] 0 (fun _ s13 wr => s13 = .int .i64 0 ∧ wr = w)
  case atStart => exact ⟨rfl, rfl⟩
  case round =>
    obtain ⟨rfl, rfl⟩ := hrel
    go_wp2
    go_ret
    exact ⟨rfl, rfl⟩

theorem ret_bool {a b : Bool} (h : a = b) : Ending.returned (.bool a) = .returned (.bool b) := by rw [h]

theorem beq_any (v1 v2 : Value) (s1 s2 : List ByteArray) (w : World) (h1 : Reads w v1 s1) (h2 : Reads w v2 s2) (hb1 : s1.length ≤ 2048) (hb2 : s2.length ≤ 2048) :
    Calls Yba.prog 7 #[v1, v2] w fun e w' => e = .returned (.bool (decide (s1 = s2))) ∧ ∃ q, w' = w.drewN q := by
  obtain ⟨a1, c1, rfl, hc1, r1⟩ := h1
  obtain ⟨a2, c2, rfl, hc2, r2⟩ := h2
  by_cases hl : s1.length = s2.length
  · rcases r1 with rfl | ⟨b1, o1, rfl, g1⟩
    · obtain rfl : s2 = [] := List.eq_nil_of_length_eq_zero hl.symm
      refine (beq_none a1 a2 c1 c2 w).mono ?_
      rintro e w' ⟨rfl, rfl⟩
      exact ⟨rfl, 0, rfl⟩
    · rcases r2 with rfl | ⟨b2, o2, rfl, g2⟩
      · obtain rfl : s1 = [] := List.eq_nil_of_length_eq_zero hl
        refine (beq_none _ a2 c1 c2 w).mono ?_
        rintro e w' ⟨rfl, rfl⟩
        exact ⟨rfl, 0, rfl⟩
      · refine (beq_full b1 o1 s1.length c1 b2 o2 s2.length c2 s1 s2 w (Nat.le_refl _) (Nat.le_refl _) (by omega) (by omega) g1 g2).mono ?_
        rintro e w' ⟨rfl, hq⟩
        rw [List.take_length, List.take_length]
        exact ⟨rfl, hq⟩
  · refine (beq_lens a1 a2 s1.length c1 s2.length c2 w (by omega)).mono ?_
    rintro e w' ⟨rfl, rfl⟩
    exact ⟨ret_bool (decide_eq_false (fun h => hl (by rw [h]))).symm, 0, rfl⟩

theorem eql_any (v1 v2 : Value) (s1 s2 : List ByteArray) (w : World) (h1 : Reads w v1 s1) (h2 : Reads w v2 s2) (hb1 : s1.length ≤ 2048) (hb2 : s2.length ≤ 2048) :
    Calls Yba.prog 10 #[v1, v2] w fun e w' => e = .returned (.bool (decide (s1 = s2))) ∧ ∃ q, w' = w.drewN q := by
  obtain ⟨a1, c1, rfl, hc1, r1⟩ := h1
  obtain ⟨a2, c2, rfl, hc2, r2⟩ := h2
  by_cases hl : s1.length = s2.length
  · rcases r1 with rfl | ⟨b1, o1, rfl, g1⟩
    · obtain rfl : s2 = [] := List.eq_nil_of_length_eq_zero hl.symm
      refine (Yba.slices_Equal_string_empty a1 a2 c1 0 c2 w (by omega)).mono ?_
      rintro e w' ⟨rfl, rfl⟩
      exact ⟨rfl, 0, rfl⟩
    · rcases r2 with rfl | ⟨b2, o2, rfl, g2⟩
      · obtain rfl : s1 = [] := List.eq_nil_of_length_eq_zero hl
        refine (Yba.slices_Equal_string_empty _ a2 c1 0 c2 w (by omega)).mono ?_
        rintro e w' ⟨rfl, rfl⟩
        exact ⟨rfl, 0, rfl⟩
      · refine (Yba.slices_Equal_string b1 o1 s1.length c1 b2 o2 s2.length c2 s1 s2 w (Nat.le_refl _) (Nat.le_refl _) (by omega) (by omega) g1 g2).mono ?_
        rintro e w' ⟨rfl, hq⟩
        rw [List.take_length, List.take_length]
        exact ⟨rfl, hq⟩
  · refine (Yba.slices_Equal_string_lens a1 a2 s1.length c1 s2.length c2 w hl).mono ?_
    rintro e w' ⟨rfl, rfl⟩
    exact ⟨ret_bool (decide_eq_false (fun h => hl (by rw [h]))).symm, 0, rfl⟩

theorem idx_any (v : Value) (ss : List ByteArray) (x : ByteArray) (w : World) (h : Reads w v ss) (hb : ss.length ≤ 2048) :
    Calls Yba.prog 11 #[v, .string x] w fun e w' => e = .returned (.int .i64 (Lib.idxOfS ss x)) ∧ w' = w := by
  obtain ⟨a, c, rfl, hc, r⟩ := h
  rcases r with rfl | ⟨b, o, rfl, g⟩
  · exact Yba.slices_Index_string_empty a c x w
  · have := Yba.slices_Index_string b o ss.length c ss x w (Nat.le_refl _) (by omega) g
    rwa [List.take_length] at this

/-- The slice v holds the strings ss in memory of the call's own, from block B on (or holds none). -/
def Holds (w : World) (B : Nat) (v : Value) (ss : List ByteArray) : Prop :=
  ∃ (a : Option Addr) (c : Nat), v = .slice a ss.length c ∧ ss.length ≤ c ∧
    (ss = [] ∨ ∃ b, B ≤ b ∧ b < w.heap.size ∧ a = some ⟨b, 0, none⟩ ∧ ∀ j, j < ss.length → w.cell? ⟨b, j, none⟩ = some (.string (ss.getD j ByteArray.empty)))

theorem Holds.reads {w : World} {B : Nat} {v : Value} {ss : List ByteArray} (h : Holds w B v ss) : Reads w v ss := by
  obtain ⟨a, c, rfl, hc, r⟩ := h
  refine ⟨a, c, rfl, hc, ?_⟩
  rcases r with rfl | ⟨b, _, _, rfl, g⟩
  · exact .inl rfl
  · exact .inr ⟨b, 0, rfl, fun j hj => by rw [Nat.zero_add]; exact g j hj⟩

theorem getD_strs (ss : List ByteArray) (j : Nat) (hj : j < ss.length) : (ss.map Value.string)[j]? = some (.string (ss.getD j ByteArray.empty)) := by
  simp [List.getD, hj]

theorem holds_of_owns {w : World} {B : Nat} {v : Value} {n : Nat} {ss : List ByteArray} (h : w.ownsRow B 9 1 v n (ss.map Value.string)) : Holds w B v ss ∧ n = ss.length := by
  have hl : ss.length = n := by have := h.1; simpa using this
  subst hl
  refine ⟨?_, rfl⟩
  rcases h.2 with ⟨rfl, h0⟩ | ⟨g, cap, cur, rfl, hb, hg, hnc, hcm, hcs, htake⟩
  · exact ⟨none, 0, by rw [h0], by omega, .inl (List.eq_nil_of_length_eq_zero h0)⟩
  · refine ⟨_, cap, rfl, hnc, .inr ⟨g, hb, (Array.getElem?_eq_some_iff.1 hg).1, rfl, fun j hj => ?_⟩⟩
    rw [cell_of_row w g j cur 9 (0, 0) hg, ← getD_strs ss j hj, ← htake, List.getElem?_take_of_lt (by omega)]
    simp

/-- The slice v, where it holds anything, begins at the head of a plain row from block B on. -/
def Seat (w : World) (B : Nat) (v : Value) (ss : List ByteArray) : Prop :=
  ss = [] ∨ ∃ b c cur, v = .slice (some ⟨b, 0, none⟩) ss.length c ∧ B ≤ b ∧ w.heap[b]? = some (.cells cur 9 (0, 0))

theorem seat_of_owns {w : World} {B : Nat} {v : Value} {n : Nat} {ss : List ByteArray} (h : w.ownsRow B 9 1 v n (ss.map Value.string)) : Seat w B v ss := by
  have hl : ss.length = n := by have := h.1; simpa using this
  subst hl
  rcases h.2 with ⟨rfl, h0⟩ | ⟨g, cap, cur, rfl, hb, hg, _⟩
  · exact .inl (List.eq_nil_of_length_eq_zero h0)
  · exact .inr ⟨g, cap, cur, rfl, hb, hg⟩

theorem clone_any (v : Value) (ss : List ByteArray) (w : World) (h : Reads w v ss) (hb : ss.length ≤ 2048) :
    Calls Yba.prog 12 #[v] w fun e w' => ∃ v', e = .returned v' ∧ (Holds w' w.heap.size v' ss ∧ Seat w' w.heap.size v' ss) ∧ Below w.heap.size w w' := by
  obtain ⟨a, c, rfl, hc, r⟩ := h
  rcases r with rfl | ⟨b, o, rfl, g⟩
  · cases a with
    | none =>
      refine (Yba.slices_Clone_string_nil 0 c w).mono ?_
      rintro e w' ⟨rfl, rfl⟩
      exact ⟨_, rfl, ⟨⟨none, 0, rfl, Nat.le_refl _, .inl rfl⟩, .inl rfl⟩, Below.refl _ _⟩
    | some a =>
      refine (Yba.slices_Clone_string_zero a c w).mono ?_
      rintro e w' ⟨v', rfl, hown, _, hbel⟩
      exact ⟨v', rfl, ⟨(holds_of_owns (ss := []) hown).1, .inl rfl⟩, hbel⟩
  · refine (Yba.slices_Clone_string b o ss.length c ss w (Nat.le_refl _) (by omega) g).mono ?_
    rintro e w' ⟨v', rfl, hown, _, hbel⟩
    rw [List.take_length] at hown
    exact ⟨v', rfl, ⟨(holds_of_owns hown).1, seat_of_owns hown⟩, hbel⟩

end Go.Proofs.Ybulkbawq
