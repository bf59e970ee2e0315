/-
  The law's map of kinds.
-/
import Derived.Test.YbulkbaygTops
import Derived.Maps.Own
import Derived.Maps.Views
namespace Go.Proofs.Ybulkbayg
open Go.RowKit Go.Maps Go.WideMaps

/-- The twelve names that zzs2606abuild may list. -/
def keyAt (j : Nat) : ByteArray := if j < 3 then nameOf j else nameOf ((j - 3) / 3) ++ ⟨#[46]⟩ ++ nameOf ((j - 3) % 3)
def litAt (j : Nat) : Lit := .string (keyAt j).data.toList

theorem nameOf_size (n : Nat) : (nameOf n).size = 1 := by unfold nameOf; split <;> rfl
theorem keyAt_size (j : Nat) : (keyAt j).size ≤ maxLen := by
  have h : ∀ n, (nameOf n).size = 1 := fun n => by unfold nameOf; split <;> rfl
  unfold keyAt
  have h46 : (⟨#[46]⟩ : ByteArray).size = 1 := rfl
  split
  · rw [h]; unfold maxLen; omega
  · rw [ByteArray.size_append, ByteArray.size_append, h, h, h46]; unfold maxLen; omega

theorem keyAt_ne : ∀ i : Fin 12, ∀ j : Fin 12, i ≠ j → (keyAt i).data.toList ≠ (keyAt j).data.toList := by decide +kernel
theorem litAt_ne (i : Nat) (hi : i < 12) (j : Nat) (hj : j < 12) (h : i ≠ j) : litAt i ≠ litAt j := fun e => by
  unfold litAt at e
  injection e with e
  exact keyAt_ne ⟨i, hi⟩ ⟨j, hj⟩ (fun q => h (by simpa using q)) e

theorem law9 : Keyed Yba.prog 9 := string_keyed Yba.underlying9
theorem zero34 (w : World) : (zeroValue 34).run Yba.prog w = .ok (.int .i64 0) w := by kernel_rfl
theorem keyOf_at (j : Nat) : keyOf Yba.prog 9 (.string (keyAt j)) = some (litAt j) := keyOf_string_mk Yba.underlying9 (keyAt_size j)

/-- Block mb is a map of at most n entries that lists f at the twelve names. -/
def Kinds (w : World) (mb n : Nat) (f : Nat → Int) : Prop :=
  ∃ D : DataW Unit, w.ownsMap Yba.prog 9 (plainElem Yba.prog 34) mb n D ∧ IsMap D ∧ ∀ j, j < 12 → D.atKey (litAt j) (.lit (.int .i64 0)) = .lit (.int .i64 (f j))

theorem Kinds.made (w : World) : Kinds (w.alloc (.map #[] 0)) w.heap.size 0 (fun _ => 0) :=
  ⟨.map [], World.ownsMap_made _ _ _ _, isMap_empty, fun _ _ => rfl⟩

theorem Kinds.lt {w : World} {mb n : Nat} {f : Nat → Int} (h : Kinds w mb n f) : mb < w.heap.size := by
  obtain ⟨D, h, _⟩ := h; exact h.lt

theorem Kinds.below {w w' : World} {mb n : Nat} {f : Nat → Int} (h : Kinds w mb n f) (hb : Below w.heap.size w w') : Kinds w' mb n f := by
  obtain ⟨D, ⟨es, clock, hh, r⟩, h2⟩ := h
  exact ⟨D, ⟨es, clock, (hb.block _ (lt_of_heap hh)).trans hh, r⟩, h2⟩

theorem Kinds.drew {w : World} {mb n : Nat} {f : Nat → Int} (h : Kinds w mb n f) : Kinds w.drew mb n f := by
  obtain ⟨D, h, r⟩ := h; exact ⟨D, h.drew, r⟩

theorem Kinds.look {w : World} {mb n : Nat} {f : Nat → Int} (h : Kinds w mb n f) (j : Nat) (hj : j < 12) :
    (Instr.lookup 26 (.map (some mb)) (.string (keyAt j)) false).run Yba.prog w = .ok (.int .i64 (f j)) w := by
  obtain ⟨D, h, _, hf⟩ := h
  obtain ⟨c, hrun, hat, _⟩ := h.lookup_int law9 Yba.underlying26 Yba.underlying34 (zero34 w) (keyOf_at j)
  have := (hf j hj).symm.trans hat
  simp at this
  rw [this]; exact hrun

theorem Kinds.put {w : World} {mb n : Nat} {f : Nat → Int} (h : Kinds w mb n f) (hn : n < 1000) (j : Nat) (hj : j < 12) (x : Int) (h0 : 0 ≤ x) (h7 : x ≤ 7) :
    ∃ w', (Instr.mapUpdate 26 (.map (some mb)) (.string (keyAt j)) (.int .i64 x)).run Yba.prog w = .ok () w' ∧ Kinds w' mb (n + 1) (fun i => if i = j then x else f i) ∧ w.grownBy w' (some mb) := by
  obtain ⟨D, h, hm, hf⟩ := h
  obtain ⟨w', hrun, h2, h3⟩ := h.update law9 Yba.underlying26 (by unfold maxLen; omega) (keyOf_at j) (plainElem_int (H := Unit) Yba.underlying34 (a := x) (WalkArith.wf_i64 (by omega)))
  refine ⟨w', hrun, ⟨_, h2, hm.put _ _, fun i hi => ?_⟩, h3⟩
  by_cases e : i = j
  · subst e
    rw [atKey_put_same hm (show WideAt.IsKeyLit (litAt i) from trivial)]
    simp
  · rw [atKey_put_other (litAt_ne i hi j hj e), hf i hi]
    simp [e]

theorem Kinds.cong {w : World} {mb n : Nat} {f g : Nat → Int} (h : Kinds w mb n f) (hg : ∀ j, j < 12 → f j = g j) : Kinds w mb n g := by
  obtain ⟨D, h1, h2, h3⟩ := h
  exact ⟨D, h1, h2, fun j hj => by rw [h3 j hj, hg j hj]⟩
theorem Kinds.mono {w : World} {mb n n' : Nat} {f : Nat → Int} (h : Kinds w mb n f) (hn : n ≤ n') : Kinds w mb n' f := by
  obtain ⟨D, h1, h2⟩ := h
  exact ⟨D, h1.mono hn, h2⟩

/-- propertyPath of a block's property. -/
theorem path_sub (b n : Nat) (hb : b < 3) (hn : n < 3) (w : World) : Calls Yba.prog 22 #[.string (nameOf b), .string (nameOf n)] w fun e w' => e = .returned (.string (keyAt (3 + 3 * b + n))) ∧ w' = w := by
  have h1 : keyAt (3 + 3 * b + n) = nameOf b ++ ⟨#[46]⟩ ++ nameOf n := by
    unfold keyAt
    rw [if_neg (by omega), show (3 + 3 * b + n - 3) / 3 = b by omega, show (3 + 3 * b + n - 3) % 3 = n by omega]
  have h2 : (nameOf b).toList.isEmpty = false := by
    have : b = 0 ∨ b = 1 ∨ b = 2 := by omega
    rcases this with rfl | rfl | rfl <;> decide +kernel
  have h3 := nameOf_size b
  have h4 := nameOf_size n
  rw [h1]
  clear h1
  generalize nameOf b = x at *
  generalize nameOf n = y at *
  go_enter Yba.func22, Yba.ntmps22
  go_wp2
  go_ret
  exact ⟨rfl, rfl⟩
end Go.Proofs.Ybulkbayg
