/-
  The walks that both C laws share: zzs2603cvlen, encoding/binary.PutUvarint, uvarintLen, promisesPer.
-/
import Derived.Test.YbulkbawqRows
import Derived.WalkKit
import Derived.WalkSpells
import Derived.WalkLawsBesides
import Derived.Lib.VarintMem
import Derived.Lib.Walk
import Derived.Lib.EndianMore
namespace Go.Proofs.Ybulkbawq
open Go.RowKit

/-- The length of n's varint. -/
def vl (y : Int) : Nat := (Lib.uvarint y.toNat).length

theorem vl_pos (y : Int) : 1 ≤ vl y := Lib.uvarint_pos _
theorem vl_le (y : Int) (h : y < 18446744073709551616) : vl y ≤ 10 := Lib.uvarint_length64 (by omega)
theorem vl_big (k : Nat) (h : 128 ≤ k) : vl k = vl ((k / 128 : Nat) : Int) + 1 := by
  unfold vl
  rw [Int.toNat_natCast, Int.toNat_natCast, Lib.uvarint_big h]; simp
theorem vl_small (k : Nat) (h : k < 128) : vl k = 1 := by
  unfold vl
  rw [Int.toNat_natCast, Lib.uvarint_small h]; simp

theorem ret_int {k : IntKind} {a b : Int} (h : a = b) : Ending.returned (.int k a) = .returned (.int k b) := by rw [h]

set_option maxHeartbeats 400000 in
set_option maxRecDepth 100000 in
theorem vlen_any (y : Int) (h0 : 0 ≤ y) (h1 : y < 18446744073709551616) (w : World) :
    Calls Yba.prog 8 #[.int .u64 y] w fun e w' => e = .returned (.int .i64 (vl y)) ∧ w' = w := by
  obtain ⟨x, rfl⟩ := Int.eq_ofNat_of_zero_le h0
  have hle := vl_le x h1
  have HV : Hid (vl (x : Int) ≤ 10) := hle
  clear hle h0 h1
  go_enter Yba.func8, Yba.ntmps8
  go_wp2
  go_loop [0, 3] (fun vn vc => ∃ (k c : Nat), vn = .int .u64 k ∧ vc = .int .i64 c ∧ 1 ≤ c ∧ Hid (c + vl k = vl x + 1)) (fun vn _ => (intOf vn).toNat)
  case atStart => exact ⟨x, 1, rfl, rfl, by omega, Nat.add_comm _ _⟩
  case round =>
    obtain ⟨k, c, rfl, rfl, hc, HK⟩ := hrel
    have hcb : c ≤ 10 := by have := HK.out; have := HV.out; have := vl_pos k; omega
    by_cases h128 : 128 ≤ k
    · go_wp2
      go_round
      case rel => exact ⟨k / 128, c + 1, by go_num, by go_num, by omega, (by have := HK.out; have := vl_big k h128; show _ = _; omega)⟩
      case measure => simp [intOf]; omega
    · go_wp2
      go_ret
      refine ⟨ret_int ?_, rfl⟩
      have := HK.out; have := vl_small k (by omega); omega


set_option maxHeartbeats 8000000 in
set_option maxRecDepth 100000 in
/-- binary.PutUvarint into a row with room: the varint's length comes back; the row's cells are written and nothing else (after the shelf's contract). -/
theorem put_any (g o n c x : Nat) (hx : x < 18446744073709551616) (w : World) (hn : (Lib.uvarint x).length ≤ n)
    (hcell : ∀ j, j < (Lib.uvarint x).length → (w.cell? ⟨g, o + j, none⟩).isSome = true ∧ w.frozen? ⟨g, o + j, none⟩ = false) :
    Calls Yba.prog 27 #[.slice (some ⟨g, o, none⟩) n c, .int .u64 x] w fun e w' => e = .returned (.int .i64 (Lib.uvarint x).length) ∧ w' = w.setCells g o (Lib.byteCells (Lib.uvarint x)) := by
  have hlen := Lib.uvarint_length64 hx
  go_enter Yba.func27, Yba.ntmps27
  go_wp2
  go_loopw [1, 5] (fun vx vi wr => ∃ (y : Nat) (pre : List UInt8), vx = .int .u64 y ∧ vi = .int .i64 pre.length ∧ y ≤ x ∧ Lib.uvarint x = pre ++ Lib.uvarint y ∧ wr = w.setCells g o (Lib.byteCells pre))
    (fun vx _ _ => (intOf vx).toNat)
  case atStart => exact ⟨x, [], rfl, rfl, Nat.le_refl _, rfl, rfl⟩
  case round =>
    obtain ⟨y, pre, rfl, rfl, hy, hsplit, rfl⟩ := hrel
    have hpl : pre.length + (Lib.uvarint y).length = (Lib.uvarint x).length := by
      have h2 := congrArg List.length hsplit
      rw [List.length_append] at h2
      omega
    have hyp := Lib.uvarint_pos y
    by_cases h128 : 128 ≤ y
    · have hor : bits .or .u8 ((y : Int) % 256) 128 = ((y % 128 + 128 : Nat) : Int) := by
        rw [Lib.u8_or128_any _ (by omega) (by omega)]
        omega
      have hcx := hcell pre.length (by omega)
      obtain ⟨u0, hu0⟩ := Option.isSome_iff_exists.1 hcx.1
      have hc1 : (w.setCells g o (Lib.byteCells pre)).cell? ⟨g, o + pre.length, none⟩ = some u0 := by
        rw [World.cell?_setCells_out g _ o w _ (fun _ _ => Or.inr (by rw [Lib.byteCells_length]; exact Nat.le_refl _))]; exact hu0
      have hf1 : (w.setCells g o (Lib.byteCells pre)).frozen? ⟨g, o + pre.length, none⟩ = false := by rw [World.frozen?_setCells]; exact hcx.2
      have hsn : (w.setCells g o (Lib.byteCells pre)).setCell ⟨g, o + pre.length, none⟩ (Value.int .u8 ((y % 128 + 128 : Nat) : Int)) = w.setCells g o (Lib.byteCells (pre ++ [(y % 128 + 128).toUInt8])) := by
        have h3 := Lib.setCells_snoc_w g (Value.int .u8 ((y % 128 + 128 : Nat) : Int)) (Lib.byteCells pre) o w
        rw [Lib.byteCells_length] at h3
        rw [h3, Lib.byteCells_snoc pre (by omega)]
      go_wp2
      go_roundw
      case rel =>
        refine ⟨y / 128, pre ++ [(y % 128 + 128).toUInt8], by go_num, by simp, by omega, by rw [hsplit, Lib.uvarint_big h128]; simp, ?_⟩
        rw [← hsn]
        first | rfl | (congr 2; push_cast; omega)
      case measure => simp [intOf]; omega
    · have hsm : Lib.uvarint y = [y.toUInt8] := Lib.uvarint_small (by omega)
      have hcx := hcell pre.length (by omega)
      obtain ⟨u0, hu0⟩ := Option.isSome_iff_exists.1 hcx.1
      have hc1 : (w.setCells g o (Lib.byteCells pre)).cell? ⟨g, o + pre.length, none⟩ = some u0 := by
        rw [World.cell?_setCells_out g _ o w _ (fun _ _ => Or.inr (by rw [Lib.byteCells_length]; exact Nat.le_refl _))]; exact hu0
      have hf1 : (w.setCells g o (Lib.byteCells pre)).frozen? ⟨g, o + pre.length, none⟩ = false := by rw [World.frozen?_setCells]; exact hcx.2
      have hsn : (w.setCells g o (Lib.byteCells pre)).setCell ⟨g, o + pre.length, none⟩ (Value.int .u8 (y : Int)) = w.setCells g o (Lib.byteCells (pre ++ [y.toUInt8])) := by
        have h3 := Lib.setCells_snoc_w g (Value.int .u8 (y : Int)) (Lib.byteCells pre) o w
        rw [Lib.byteCells_length] at h3
        rw [h3, Lib.byteCells_snoc pre (by omega)]
      go_wp2
      go_ret
      refine ⟨?_, ?_⟩
      · rw [hsplit, hsm]; simp
      · rw [hsplit, hsm, ← hsn]

set_option maxHeartbeats 400000 in
theorem ulen_any (y : Int) (h0 : 0 ≤ y) (h1 : y < 18446744073709551616) (w : World) :
    Calls Yba.prog 14 #[.int .u64 y] w fun e w' => e = .returned (.int .i64 (vl y)) ∧ Below w.heap.size w w' := by
  obtain ⟨x, rfl⟩ := Int.eq_ofNat_of_zero_le h0
  have hl : (Lib.uvarint x).length ≤ 10 := Lib.uvarint_length64 (by omega)
  have hv : vl (x : Int) = (Lib.uvarint x).length := rfl
  rw [hv]
  clear hv
  go_enter Yba.func14, Yba.ntmps14
  go_wp2_with fail
  refine (put_any w.heap.size 0 10 10 x (by omega) _ hl ?_).mono ?_
  · intro j hj
    have hj' : j < 10 := by omega
    clear hl hj
    constructor
    · simp only [Nat.zero_add]
      simp
      omega
    · simp only [Nat.zero_add]
      simp
  rintro e w' ⟨rfl, rfl⟩
  go_wp2
  go_ret
  exact ⟨rfl, ((Below.refl _ w).alloc (Nat.le_refl _) _).trans (Lib.below_setCells_w (Nat.le_refl _) _ _ _)⟩


/-- What both laws hand to the two length functions. -/
theorem arg_range (a : Int) : 0 ≤ IntKind.u64.wrap (wrap64 (a - 1)) ∧ IntKind.u64.wrap (wrap64 (a - 1)) < 18446744073709551616 := by
  generalize wrap64 (a - 1) = b
  simp [IntKind.wrap, IntKind.signed, IntKind.bits]
  omega

set_option maxHeartbeats 400000 in
theorem per_any (a0 a1 : Int) (v : Int) (hv : (vl (IntKind.u64.wrap (wrap64 (a0 - 1))) : Int) = v) (hv1 : 1 ≤ v) (hv2 : v ≤ 10) (w : World) :
    Calls Yba.prog 9 #[.int .i64 a0, .int .i64 a1] w fun e w' => e = .returned (.int .i64 (max 1 (wrap64 ((wrap64 (a1 - (2 + v + 4))).tdiv (v + 4 + 30))))) ∧ Below w.heap.size w w' := by
  have hr := arg_range a0
  have hu : ∀ W, Calls Yba.prog 14 #[.int .u64 (IntKind.u64.wrap (wrap64 (a0 - 1)))] W fun e w' => e = .returned (.int .i64 v) ∧ Below W.heap.size W w' := by
    intro W
    rw [← hv]
    exact ulen_any _ hr.1 hr.2 W
  clear hv hr
  go_enter Yba.func9, Yba.ntmps9
  go_wp2_with fail
  refine (hu _).mono ?_
  rintro e w1 ⟨rfl, hb1⟩
  go_wp2_with fail
  refine (hu _).mono ?_
  rintro e w2 ⟨rfl, hb2⟩
  go_wp2
  go_ret
  exact ⟨rfl, hb1.trans (hb2.mono hb1.size)⟩

end Go.Proofs.Ybulkbawq
