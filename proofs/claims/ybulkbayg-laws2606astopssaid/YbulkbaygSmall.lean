/-
  The law's small functions: names, kinds, parities.
-/
import Derived.Test.YbulkbaygRows
import Derived.WalkKit
import Derived.WalkSpells
import Derived.WalkLawsBesides
import Derived.Deep.LoopGhost
namespace Go.Proofs.Ybulkbayg
open Go.RowKit

theorem hide {p : Prop} (h : p) : Hid p := h
theorem ret_int {k : IntKind} {a b : Int} (h : a = b) : Ending.returned (.int k a) = .returned (.int k b) := by rw [h]
theorem ret_bool {a b : Bool} (h : a = b) : Ending.returned (.bool a) = .returned (.bool b) := by rw [h]

/-- "a", "b", "c". -/
def nameOf : Nat → ByteArray
  | 0 => ⟨#[97]⟩
  | 1 => ⟨#[98]⟩
  | _ => ⟨#[99]⟩

set_option maxHeartbeats 400000 in
theorem name_any (i : Nat) (hi : i ≤ 1000) (w : World) :
    Calls Yba.prog 13 #[.int .i64 i] w fun e w' => e = .returned (.string (nameOf (i % 3))) ∧ w' = w := by
  have h3 : i % 3 = 0 ∨ i % 3 = 1 ∨ i % 3 = 2 := by omega
  rcases h3 with h | h | h
  · have h1 : ((i : Int) % 3 == 0) = true := by simp; omega
    have H := hide h
    clear h
    go_enter Yba.func13, Yba.ntmps13
    go_wp2
    go_ret
    rw [H.out]; exact ⟨rfl, rfl⟩
  · have h1 : ((i : Int) % 3 == 0) = false := by simp; omega
    have h2 : ((i : Int) % 3 == 1) = true := by simp; omega
    have H := hide h
    clear h
    go_enter Yba.func13, Yba.ntmps13
    go_wp2
    go_ret
    rw [H.out]; exact ⟨rfl, rfl⟩
  · have h1 : ((i : Int) % 3 == 0) = false := by simp; omega
    have h2 : ((i : Int) % 3 == 1) = false := by simp; omega
    have H := hide h
    clear h
    go_enter Yba.func13, Yba.ntmps13
    go_wp2
    go_ret
    rw [H.out]; exact ⟨rfl, rfl⟩

/-- A slice of bytes. -/
def Ints (w : World) (v : Value) (es : List Int) : Prop :=
  (∀ x ∈ es, 0 ≤ x ∧ x ≤ 255) ∧
  ((v = .slice none 0 0 ∧ es = []) ∨ ∃ (ad : Addr) (c : Nat), v = .slice (some ad) es.length c ∧ es.length ≤ c ∧ ∀ j, j < es.length → w.cell? (ad.add j) = some (.int .u8 (es.getD j 0)))

theorem Ints.shape {w : World} {v : Value} {es : List Int} (h : Ints w v es) : ∃ a c, v = .slice a es.length c := by
  rcases h.2 with ⟨rfl, rfl⟩ | ⟨ad, c, rfl, _⟩
  · exact ⟨_, _, rfl⟩
  · exact ⟨_, _, rfl⟩

theorem Ints.at {w : World} {a : Option Addr} {c : Nat} {es : List Int} (h : Ints w (.slice a es.length c) es) (hp : 0 < es.length) :
    ∃ b off, a = some ⟨b, off, none⟩ ∧ b < w.heap.size ∧ ∀ j, j < es.length → w.cell? ⟨b, off + j, none⟩ = some (.int .u8 (es.getD j 0)) := by
  rcases h.2 with ⟨_, rfl⟩ | ⟨⟨b, off, spot⟩, c', e, _, g⟩
  · simp at hp
  · cases e
    have h0 := g 0 hp
    have hspot : spot = none := by simpa [Addr.add] using World.cell?_spot h0
    subst hspot
    refine ⟨b, off, rfl, by simpa [Addr.add] using World.block_lt_of_cell? _ _ h0, fun j hj => ?_⟩
    rw [← Go.WideShapes.add_plain]
    exact g j hj

theorem Ints.bound {w : World} {v : Value} {es : List Int} (h : Ints w v es) (j : Nat) : 0 ≤ es.getD j 0 ∧ es.getD j 0 ≤ 255 := by
  by_cases hj : j < es.length
  · have : es.getD j 0 = es[j] := by simp [List.getD, hj]
    rw [this]; exact h.1 _ (List.getElem_mem hj)
  · have : es.getD j 0 = 0 := by simp [List.getD, hj]
    omega

theorem Ints.below {w w' : World} {v : Value} {es : List Int} (h : Ints w v es) (hb : Below w.heap.size w w') : Ints w' v es := by
  refine ⟨h.1, ?_⟩
  rcases h.2 with h | ⟨ad, c, rfl, hc, g⟩
  · exact .inl h
  · refine .inr ⟨ad, c, rfl, hc, fun j hj => ?_⟩
    have := g j hj
    exact (hb.cell (World.block_lt_of_cell? _ _ this)).trans this

/-- The kind that k lists at place i. -/
def kindAt (ks : List Int) (i : Nat) : Int := if i < ks.length then ks.getD i 0 % 8 else 0
theorem kindAt_range {w : World} {v : Value} {ks : List Int} (h : Ints w v ks) (i : Nat) : 0 ≤ kindAt ks i ∧ kindAt ks i ≤ 7 := by
  unfold kindAt
  have := h.bound i
  split <;> omega

theorem kind_at (ka : Option Addr) (kc : Nat) (ks : List Int) (w : World) (hk : Ints w (.slice ka ks.length kc) ks) (i : Nat) (b n : Int) (hn0 : 0 ≤ n) (hn2 : n ≤ 2) (hb : b ≤ 2) (hb1 : -1 ≤ b)
    (hi : (i : Int) = if 0 ≤ b then 3 + 3 * b + n else n) :
    Calls Yba.prog 16 #[.slice ka ks.length kc, .int .i64 b, .int .i64 n] w fun e w' => e = .returned (.int .i64 (kindAt ks i)) ∧ w' = w := by
  have hbd := hk.bound i
  by_cases hb0 : 0 ≤ b
  · rw [if_pos hb0] at hi
    by_cases hl : i < ks.length
    · obtain ⟨bb, off, rfl, _, g⟩ := hk.at (by omega)
      have g1 := g i hl
      have hki : kindAt ks i = ks.getD i 0 % 8 := by simp [kindAt, hl]
      have HK := hide hki
      have hie : ((i : Int)).toNat = i := by omega
      have hi2 : 3 + 3 * b + n = (i : Int) := by omega
      clear hk g hki hi
      generalize ks.getD i 0 = x at *
      go_enter Yba.func16, Yba.ntmps16
      go_wp2
      go_ret
      rw [HK.out]
      exact ⟨rfl, rfl⟩
    · have hki : kindAt ks i = 0 := by simp [kindAt, hl]
      have HK := hide hki
      have hi2 : 3 + 3 * b + n = (i : Int) := by omega
      have hl' : ¬ (i : Int) < ks.length := by omega
      clear hk hki hi
      go_enter Yba.func16, Yba.ntmps16
      go_wp2
      go_ret
      rw [HK.out]
      exact ⟨rfl, rfl⟩
  · rw [if_neg hb0] at hi
    obtain rfl : n = (i : Int) := hi.symm
    by_cases hl : i < ks.length
    · obtain ⟨bb, off, rfl, _, g⟩ := hk.at (by omega)
      have g1 := g i hl
      have hki : kindAt ks i = ks.getD i 0 % 8 := by simp [kindAt, hl]
      have HK := hide hki
      clear hk g hki hi
      generalize ks.getD i 0 = x at *
      go_enter Yba.func16, Yba.ntmps16
      go_wp2
      go_ret
      rw [HK.out]
      exact ⟨rfl, rfl⟩
    · have hki : kindAt ks i = 0 := by simp [kindAt, hl]
      have HK := hide hki
      have hl' : ¬ (i : Int) < ks.length := by omega
      clear hk hki hi
      go_enter Yba.func16, Yba.ntmps16
      go_wp2
      go_ret
      rw [HK.out]
      exact ⟨rfl, rfl⟩

/-- A kind of lists of strings. -/
def listKind (k : Int) : Bool := k == 3 || k == 5 || k == 6

theorem list_kind (k : Int) (w : World) : Calls Yba.prog 17 #[.int .i64 k] w fun e w' => e = .returned (.bool (listKind k)) ∧ w' = w := by
  unfold listKind
  cases h3 : k == 3
  · cases h5 : k == 5
    · go_enter Yba.func17, Yba.ntmps17
      go_wp2
      go_ret
      exact ⟨ret_bool (by simp), rfl⟩
    · go_enter Yba.func17, Yba.ntmps17
      go_wp2
      go_ret
      exact ⟨rfl, rfl⟩
  · go_enter Yba.func17, Yba.ntmps17
    go_wp2
    go_ret
    exact ⟨rfl, rfl⟩

/-- Every byte is even. -/
def allEven (es : List Int) : Bool := es.all fun x => x % 2 == 0

theorem allEven_take (es : List Int) (k : Nat) (hk : k < es.length) : allEven (es.take (k + 1)) = (allEven (es.take k) && (es.getD k 0 % 2 == 0)) := by
  unfold allEven
  rw [List.take_succ_eq_append_getElem hk, List.all_append]
  have : es.getD k 0 = es[k] := by simp [List.getD, hk]
  rw [this, List.all_cons, List.all_nil, Bool.and_true]

set_option maxHeartbeats 400000 in
theorem all_str (ea : Option Addr) (ec : Nat) (es : List Int) (w : World) (he : Ints w (.slice ea es.length ec) es) (hl : es.length ≤ 256) :
    Calls Yba.prog 18 #[.slice ea es.length ec] w fun e w' => e = .returned (.bool (allEven es)) ∧ w' = w := by
  have HE := hide he
  clear he
  go_enter Yba.func18, Yba.ntmps18
  go_wp2
  go_loopg [7] es.length (fun g s7 wr => ∃ k : Nat, k ≤ es.length ∧ es.length - k ≤ g ∧ s7 = .int .i64 k ∧ wr = w ∧ Hid (allEven (es.take k) = true))
  case atStart => exact ⟨0, Nat.zero_le _, by omega, rfl, rfl, rfl⟩
  case round =>
    obtain ⟨k, hk, hg, rfl, rfl, A⟩ := hrel
    by_cases hlt : k < es.length
    · obtain ⟨bb, off, rfl, _, g⟩ := HE.out.at (by omega)
      have g1 := g k hlt
      have hbd := HE.out.bound k
      have HS := hide (allEven_take es k hlt)
      clear g
      generalize es.getD k 0 = x at *
      by_cases hx : x % 2 = 0
      · have hx1 : (x % 2 != 0) = false := by simp [hx]
        have HX := hide hx
        clear hx
        go_wp2
        go_roundg (es.length - (k + 1))
        case measure => omega
        case rel => exact ⟨k + 1, by omega, by omega, by go_num, rfl, by rw [HS.out, A.out, HX.out]; rfl⟩
      · have hx1 : (x % 2 != 0) = true := by simp [hx]
        have HX := hide hx
        clear hx
        go_wp2
        go_ret
        refine ⟨ret_bool ?_, rfl⟩
        have h2 : allEven (es.take (k + 1)) = false := by
          rw [HS.out]
          have : (x % 2 == 0) = false := by simpa using HX.out
          rw [this]; simp
        have h3 : allEven es = false := by
          rw [← List.take_append_drop (k + 1) es]
          unfold allEven at h2 ⊢
          rw [List.all_append, h2]; rfl
        exact h3.symm
    · go_wp2
      go_ret
      refine ⟨ret_bool ?_, rfl⟩
      have := A.out
      rw [List.take_of_length_le (by omega)] at this
      exact this.symm

theorem path_top (nm : ByteArray) (w : World) : Calls Yba.prog 22 #[.string ⟨#[]⟩, .string nm] w fun e w' => e = .returned (.string nm) ∧ w' = w := by
  go_enter Yba.func22, Yba.ntmps22
  go_wp2
  go_ret
  exact ⟨rfl, rfl⟩

/-! ### Type assertions with 'ok' -/
theorem as80_yes (x : Value) (w : World) : (Instr.typeAssert (.iface 80 x) 63 80 true).run Yba.prog w = .ok (.tuple #[x, .bool true]) w := by kernel_rfl
theorem as80_nil (w : World) : (Instr.typeAssert .nilIface 63 80 true).run Yba.prog w = .ok (.tuple #[.pointer none, .bool false]) w := by kernel_rfl
theorem as80_83 (x : Value) (w : World) : (Instr.typeAssert (.iface 83 x) 63 80 true).run Yba.prog w = .ok (.tuple #[.pointer none, .bool false]) w := by kernel_rfl
theorem as80_35 (x : Value) (w : World) : (Instr.typeAssert (.iface 35 x) 63 80 true).run Yba.prog w = .ok (.tuple #[.pointer none, .bool false]) w := by kernel_rfl
theorem as80_65 (x : Value) (w : World) : (Instr.typeAssert (.iface 65 x) 63 80 true).run Yba.prog w = .ok (.tuple #[.pointer none, .bool false]) w := by kernel_rfl
theorem as35_yes (x : Value) (w : World) : (Instr.typeAssert (.iface 35 x) 63 35 true).run Yba.prog w = .ok (.tuple #[x, .bool true]) w := by kernel_rfl
theorem as35_nil (w : World) : (Instr.typeAssert .nilIface 63 35 true).run Yba.prog w = .ok (.tuple #[.pointer none, .bool false]) w := by kernel_rfl
theorem as35_80 (x : Value) (w : World) : (Instr.typeAssert (.iface 80 x) 63 35 true).run Yba.prog w = .ok (.tuple #[.pointer none, .bool false]) w := by kernel_rfl
theorem as35_83 (x : Value) (w : World) : (Instr.typeAssert (.iface 83 x) 63 35 true).run Yba.prog w = .ok (.tuple #[.pointer none, .bool false]) w := by kernel_rfl
theorem as35_65 (x : Value) (w : World) : (Instr.typeAssert (.iface 65 x) 63 35 true).run Yba.prog w = .ok (.tuple #[.pointer none, .bool false]) w := by kernel_rfl
theorem as65_yes (x : Value) (w : World) : (Instr.typeAssert (.iface 65 x) 63 65 true).run Yba.prog w = .ok (.tuple #[x, .bool true]) w := by kernel_rfl
theorem as65_nil (w : World) : (Instr.typeAssert .nilIface 63 65 true).run Yba.prog w = .ok (.tuple #[.pointer none, .bool false]) w := by kernel_rfl
theorem as65_80 (x : Value) (w : World) : (Instr.typeAssert (.iface 80 x) 63 65 true).run Yba.prog w = .ok (.tuple #[.pointer none, .bool false]) w := by kernel_rfl
theorem as65_83 (x : Value) (w : World) : (Instr.typeAssert (.iface 83 x) 63 65 true).run Yba.prog w = .ok (.tuple #[.pointer none, .bool false]) w := by kernel_rfl
theorem as65_35 (x : Value) (w : World) : (Instr.typeAssert (.iface 35 x) 63 65 true).run Yba.prog w = .ok (.tuple #[.pointer none, .bool false]) w := by kernel_rfl

set_option maxHeartbeats 400000 in
theorem not_string (T : TypeId) (p : Option Addr) (w : World) (hT : T = 80 ∨ T = 83) : Calls Yba.prog 24 #[.iface T (.pointer p)] w fun e w' => e = .returned (.bool (T != 80)) ∧ w' = w := by
  have h1 := as80_yes
  have h2 := as80_83
  rcases hT with rfl | rfl
  · go_enter Yba.func24, Yba.ntmps24
    go_wp2
    go_ret
    exact ⟨rfl, rfl⟩
  · go_enter Yba.func24, Yba.ntmps24
    go_wp2
    go_ret
    exact ⟨rfl, rfl⟩
end Go.Proofs.Ybulkbayg
