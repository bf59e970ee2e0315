/-
  slices.Equal over two rows of the same items.
-/
import Derived.Test.YbulkbaygWalkPre
import Derived.LaidEqlPtr
namespace Go.Proofs.Ybulkbayg
open Go.RowKit

theorem info_def (t : TypeId) (h : (Yba.prog.info? t).isSome = true) : ∃ j, Yba.prog.info? t = some j := Option.isSome_iff_exists.1 h
theorem equalIn_ptr (t e : TypeId) (a : Addr) (hp : Yba.prog.underlying t = some (.pointer e)) (he : (Yba.prog.info? e).isSome = true) (d : Nat) (w : World) :
    (Op.equalIn (d + 1) t (.pointer (some a)) (.pointer (some a))).run Yba.prog w = .ok true w := by
  obtain ⟨j, hj⟩ := info_def e he
  simp [Op.equalIn, run_underlying hp, sizeOf, typeInfo, hj, run_sameAddr_same]

/-- An item equals itself. -/
theorem equal_item (s : ByteArray) (p l : Addr) (k : Int) (w : World) :
    (Op.equalIn 10000 37 (.agg #[.string s, .pointer (some p), .int .i64 k, .pointer (some l)]) (.agg #[.string s, .pointer (some p), .int .i64 k, .pointer (some l)])).run Yba.prog w = .ok true w := by
  have h33 := equalIn_ptr 33 71 p Yba.underlying33 (by kernel_rfl)
  have h35 := equalIn_ptr 35 87 l Yba.underlying35 (by kernel_rfl)
  rw [run_equalIn_struct w 9999 37 _ _ (by kernel_rfl) (by kernel_rfl)]
  have hs : (s.toList == s.toList) = true := by simp
  go_simp

theorem encs_get (xs : List Item) : ∀ (k : Nat) (h : k < xs.length) (i : Nat), i < 4 → (encs xs)[k * 4 + i]? = xs[k].enc[i]? := by
  induction xs with
  | nil => intro k h; simp at h
  | cons x xs ih =>
    intro k h i hi
    have e : encs (x :: xs) = x.enc ++ encs xs := rfl
    have hl : x.enc.length = 4 := rfl
    rw [e]
    cases k with
    | zero => rw [List.getElem?_append_left (by omega)]; simp
    | succ k =>
      rw [List.getElem?_append_right (by omega), hl, show (k + 1) * 4 + i - 4 = k * 4 + i by omega, ih k (by simpa using h) i hi]
      rfl

/-- A slice of items. -/
def Row (w : World) (a : Option Addr) (xs : List Item) : Prop :=
  ∀ k (h : k < xs.length), ∃ g, a = some ⟨g, 0, none⟩ ∧ g < w.heap.size ∧ w.cell? ⟨g, k * 4, none⟩ = some (.string xs[k].blk) ∧ w.cell? ⟨g, k * 4 + 1, none⟩ = some (.pointer (some ⟨xs[k].p, 0, none⟩)) ∧
    w.cell? ⟨g, k * 4 + 2, none⟩ = some (.int .i64 xs[k].k) ∧ w.cell? ⟨g, k * 4 + 3, none⟩ = some (.pointer (some ⟨xs[k].l, 0, none⟩))

theorem Row.below {w w' : World} {a : Option Addr} {xs : List Item} (h : Row w a xs) (hb : Below w.heap.size w w') : Row w' a xs := by
  intro k hk
  obtain ⟨g, h1, h2, c0, c1, c2, c3⟩ := h k hk
  exact ⟨g, h1, Nat.lt_of_lt_of_le h2 hb.size, (hb.cell (p := ⟨g, k * 4, none⟩) h2).trans c0, (hb.cell (p := ⟨g, k * 4 + 1, none⟩) h2).trans c1, (hb.cell (p := ⟨g, k * 4 + 2, none⟩) h2).trans c2, (hb.cell (p := ⟨g, k * 4 + 3, none⟩) h2).trans c3⟩

theorem Row.of_owns {w : World} {base : Nat} {v : Value} {xs : List Item} (h : w.ownsRow base 37 4 v xs.length (encs xs)) : ∃ a c, v = .slice a xs.length c ∧ xs.length ≤ c ∧ Row w a xs ∧ (a = none → xs = [] ∧ c = 0) := by
  have h2 := h.2
  rcases h2 with ⟨rfl, e⟩ | ⟨g, cap, cur, rfl, hb, hh, hc, _⟩
  · have : xs = [] := List.eq_nil_of_length_eq_zero e
    subst this
    exact ⟨_, _, rfl, by simp, (fun k hk => by simp at hk), fun _ => ⟨rfl, rfl⟩⟩
  · refine ⟨_, _, rfl, hc, fun k hk => ?_, fun e => by cases e⟩
    have hcell := h.cells (g := g) rfl
    have hat : ∀ i, i < 4 → ∀ u, xs[k].enc[i]? = some u → w.cell? ⟨g, k * 4 + i, none⟩ = some u := by
      intro i hi u hu
      have := hcell (k * 4 + i) u ((encs_get xs k hk i hi).trans hu)
      rw [show (⟨g, 0, none⟩ : Addr).add (k * 4 + i) = ⟨g, k * 4 + i, none⟩ by unfold Addr.add; split <;> simp_all] at this
      exact this
    exact ⟨g, rfl, lt_of_heap hh, hat 0 (by omega) _ rfl, hat 1 (by omega) _ rfl, hat 2 (by omega) _ rfl, hat 3 (by omega) _ rfl⟩

theorem Row.take {w : World} {a : Option Addr} {xs : List Item} (h : Row w a xs) (m : Nat) : Row w a (xs.take m) := by
  intro k hk
  have hk2 : k < xs.length := by simp at hk; omega
  obtain ⟨g, h1, h2, h3⟩ := h k hk2
  refine ⟨g, h1, h2, ?_⟩
  simpa using h3

set_option maxHeartbeats 1000000 in
/-- slices.Equal at two rows of the same items. -/
theorem equal_rows (a1 a2 : Option Addr) (c1 c2 : Nat) (xs : List Item) (w : World) (h1 : Row w a1 xs) (h2 : Row w a2 xs) (hl : xs.length ≤ 100000) :
    Calls Yba.prog 10 #[.slice a1 xs.length c1, .slice a2 xs.length c2] w fun e w' => e = .returned (.bool true) ∧ Below w.heap.size w w' := by
  have H1 := hide h1
  have H2 := hide h2
  clear h1 h2
  go_enter Yba.func10, Yba.ntmps10
  go_wp2
  go_loopg [13] xs.length (fun g s13 wr => ∃ k : Nat, k ≤ xs.length ∧ xs.length - k ≤ g ∧ s13 = .int .i64 k ∧ Hid (Below w.heap.size w wr))
  case atStart => exact ⟨0, Nat.zero_le _, by omega, rfl, Below.refl _ _⟩
  case round =>
    obtain ⟨k, hk, hg, rfl, HB⟩ := hrel
    obtain ⟨W0, e0⟩ : ∃ W0, W0 = wr := ⟨wr, rfl⟩
    subst e0
    by_cases hlt : k < xs.length
    · obtain ⟨g1, rfl, _, b0, b1, b2, b3⟩ := (H1.out.below HB.out) k hlt
      obtain ⟨g2, rfl, _, d0, d1, d2, d3⟩ := (H2.out.below HB.out) k hlt
      have he := equal_item xs[k].blk ⟨xs[k].p, 0, none⟩ ⟨xs[k].l, 0, none⟩ xs[k].k
      generalize xs[k] = x at *
      go_upto_region 6 with fail
      go_quiet (fail)
      go_wp2
      go_roundg (xs.length - (k + 1))
      case measure => omega
      case rel => exact ⟨k + 1, by omega, by omega, by go_num, below_drewN HB.out _⟩
    · go_wp2
      go_ret
      exact ⟨rfl, HB.out⟩
end Go.Proofs.Ybulkbayg
