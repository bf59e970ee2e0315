/-
  (*Member).grow, (*detector).grow at a member whose lists are nil.
-/
import Derived.Test.YbulkbawqExt
import Derived.RegionCalls
import Derived.Deep.QuietTactic
import Derived.Deep.RegionWith
import Derived.BigQuiet
import Derived.Laws.LoneSync
import Derived.Laws.IdiomRangeMap
import Derived.LoopN
namespace Go.Proofs.Ybulkbawq
open Go.RowKit

theorem hide {p : Prop} (h : p) : Hid p := h

theorem cell_of_block {w w' : World} {b : Nat} (h : w'.heap[b]? = w.heap[b]?) (o : Nat) : w'.cell? ⟨b, o, none⟩ = w.cell? ⟨b, o, none⟩ := by
  simp [World.cell?, h]
theorem frozen_of_block {w w' : World} {b : Nat} (h : w'.heap[b]? = w.heap[b]?) (o : Nat) : w'.frozen? ⟨b, o, none⟩ = w.frozen? ⟨b, o, none⟩ := by
  simp [World.frozen?, h]

/-- Of the blocks that were there only block mb may have turned. -/
structure But (mb : Nat) (w w' : World) : Prop where
  os : w'.os = w.os
  tape : w'.tape = w.tape
  output : w'.output = w.output
  size : w.heap.size ≤ w'.heap.size
  block : ∀ k, k < w.heap.size → k ≠ mb → w'.heap[k]? = w.heap[k]?

theorem But.refl (mb : Nat) (w : World) : But mb w w := ⟨rfl, rfl, rfl, Nat.le_refl _, fun _ _ _ => rfl⟩
theorem But.trans {mb : Nat} {a b c : World} (h : But mb a b) (k : But mb b c) : But mb a c :=
  ⟨k.os.trans h.os, k.tape.trans h.tape, k.output.trans h.output, Nat.le_trans h.size k.size, fun i hi hn => (k.block i (Nat.lt_of_lt_of_le hi h.size) hn).trans (h.block i hi hn)⟩
theorem But.of_below {mb : Nat} {w w' : World} (h : Below w.heap.size w w') : But mb w w' := ⟨h.os, h.tape, h.output, h.size, fun k hk _ => h.block k hk⟩
theorem But.set (mb : Nat) (w : World) (o : Nat) (v : Value) : But mb w (w.setCell ⟨mb, o, none⟩ v) := by
  have hz : (w.setCell ⟨mb, o, none⟩ v).heap.size = w.heap.size := by simp
  exact ⟨by simp [World.setCell], by simp [World.setCell], by simp [World.setCell], by omega, fun k _ hn => by simp [World.setCell, Array.getElem?_modify, Ne.symm hn]⟩
theorem But.drew {mb : Nat} {w w' : World} (h : But mb w w') : But mb w w'.drew := ⟨h.os, h.tape, h.output, h.size, h.block⟩
theorem But.below {mb : Nat} {w w' : World} (h : But mb w w') (hm : mb ≤ w.heap.size) : Below mb w w' := ⟨h.os, h.tape, h.output, h.size, fun k hk => h.block k (by omega) (by omega)⟩

/-- The member's block: cell i holds f i. -/
structure Mem (w : World) (mb : Nat) (f : Nat → Value) : Prop where
  cell : ∀ i, i < 69 → w.cell? ⟨mb, i, none⟩ = some (f i)
  free : ∀ i, w.frozen? ⟨mb, i, none⟩ = false
  lt : mb < w.heap.size

def upd (f : Nat → Value) (i : Nat) (v : Value) : Nat → Value := fun j => if j = i then v else f j

theorem upd_same (f : Nat → Value) (i : Nat) (v : Value) : upd f i v i = v := by simp [upd]
theorem upd_other (f : Nat → Value) (i j : Nat) (v : Value) (h : j ≠ i) : upd f i v j = f j := by simp [upd, h]

theorem Mem.below {w w' : World} {mb : Nat} {f : Nat → Value} (h : Mem w mb f) (hb : Below w.heap.size w w') : Mem w' mb f :=
  ⟨fun i hi => (cell_of_block (hb.block _ h.lt) i).trans (h.cell i hi), fun i => (frozen_of_block (hb.block _ h.lt) i).trans (h.free i), Nat.lt_of_lt_of_le h.lt hb.size⟩
theorem Mem.set {w : World} {mb : Nat} {f : Nat → Value} (h : Mem w mb f) (i : Nat) (hi : i < 69) (v : Value) : Mem (w.setCell ⟨mb, i, none⟩ v) mb (upd f i v) := by
  refine ⟨fun j hj => ?_, fun j => by simpa using h.free j, by simpa using h.lt⟩
  by_cases e : j = i
  · subst e
    rw [upd_same]
    have := h.cell j hj
    exact World.cell?_setCell_same' w _ v (by rw [this]; rfl)
  · rw [upd_other _ _ _ _ e, ← h.cell j hj]
    exact World.cell?_setCell_other w _ _ v (fun q => e (by simpa using q.symm))
theorem Mem.drew {w : World} {mb : Nat} {f : Nat → Value} (h : Mem w mb f) : Mem w.drew mb f := ⟨h.cell, h.free, h.lt⟩


/-- What the member holds before grow. -/
structure Fresh (f : Nat → Value) : Prop where
  c4 : f 4 = .int .i64 0
  c7 : f 7 = .pointer none
  c24 : f 24 = .map none
  c41 : f 41 = .int .u64 0
  nils : ∀ i, i ∈ [9, 29, 31, 35, 36, 39, 40, 45, 46, 57, 58, 59] → f i = .slice none 0 0


set_option maxHeartbeats 1000000 in
set_option maxRecDepth 100000 in
theorem det_any (n : Nat) (hn : n ≤ 2048) (mb : Nat) (f : Nat → Value) (w : World) (hM : Mem w mb f) (h57 : f 57 = .slice none 0 0) (h58 : f 58 = .slice none 0 0) (h59 : f 59 = .slice none 0 0) :
    Calls Yba.prog 23 #[.pointer (some ⟨mb, 54, none⟩), .int .i64 n] w fun e w' => e = .returned (.tuple #[]) ∧ (∃ a1 c1 a2 c2 a3 c3, Mem w' mb (upd (upd (upd f 57 (.slice a1 n c1)) 58 (.slice a2 n c2)) 59 (.slice a3 n c3))) ∧ But mb w w' := by
  have HM : Hid (Mem w mb f) := hM
  have k0 : w.cell? ⟨mb, 57, none⟩ = some (.slice none 0 0) := (hM.cell 57 (by decide)).trans (congrArg some h57)
  have H58 : Hid (f 58 = .slice none 0 0) := h58
  have H59 : Hid (f 59 = .slice none 0 0) := h59
  clear hM h57 h58 h59
  go_enter Yba.func23, Yba.ntmps23
  go_wp2_with fail
  refine (ext22 n hn 0 _).mono ?_
  rintro e w1 ⟨⟨a1, c1, rfl⟩, hb1⟩
  have HM1 : Hid (Mem w1 mb f) := HM.out.below hb1
  have HB1 : Hid (But mb w w1) := But.of_below hb1
  clear HM k0 hb1
  have z1 : w1.frozen? ⟨mb, 57, none⟩ = false := HM1.out.free 57
  obtain ⟨u1, y1⟩ : ∃ u, w1.cell? ⟨mb, 57, none⟩ = some u := ⟨_, HM1.out.cell 57 (by decide)⟩
  have k1 : w1.cell? ⟨mb, 58, none⟩ = some (.slice none 0 0) := (HM1.out.cell 58 (by decide)).trans (congrArg some H58.out)
  go_wp2_with fail
  refine (ext22 n hn 0 _).mono ?_
  rintro e w2 ⟨⟨a2, c2, rfl⟩, hb2⟩
  have HM2 : Hid (Mem w2 mb (upd f 57 (.slice a1 n c1))) := (HM1.out.set 57 (by decide) _).below hb2
  have HB2 : Hid (But mb w w2) := (HB1.out.trans (But.set mb _ 57 _)).trans (But.of_below hb2)
  clear HM1 HB1 z1 y1 k1 hb2
  have z2 : w2.frozen? ⟨mb, 58, none⟩ = false := HM2.out.free 58
  obtain ⟨u2, y2⟩ : ∃ u, w2.cell? ⟨mb, 58, none⟩ = some u := ⟨_, HM2.out.cell 58 (by decide)⟩
  have k2 : w2.cell? ⟨mb, 59, none⟩ = some (.slice none 0 0) := (HM2.out.cell 59 (by decide)).trans (congrArg some H59.out)
  go_wp2_with fail
  refine (ext19 n hn _).mono ?_
  rintro e w3 ⟨⟨a3, c3, rfl⟩, hb3⟩
  have HM3 : Hid (Mem w3 mb (upd (upd f 57 (.slice a1 n c1)) 58 (.slice a2 n c2))) := (HM2.out.set 58 (by decide) _).below hb3
  have HB3 : Hid (But mb w w3) := (HB2.out.trans (But.set mb _ 58 _)).trans (But.of_below hb3)
  clear HM2 HB2 z2 y2 k2 hb3
  have z3 : w3.frozen? ⟨mb, 59, none⟩ = false := HM3.out.free 59
  obtain ⟨u3, y3⟩ : ∃ u, w3.cell? ⟨mb, 59, none⟩ = some u := ⟨_, HM3.out.cell 59 (by decide)⟩
  go_wp2
  go_end0
  exact ⟨rfl, ⟨a1, c1, a2, c2, a3, c3, HM3.out.set 59 (by decide) _⟩, HB3.out.trans (But.set mb _ 59 _)⟩

theorem named_nil (gv : Value) (s : Int) (w : World) : Calls Yba.prog 25 #[.pointer none, gv, .int .i64 s] w fun e w' => e = .returned (.tuple #[]) ∧ w' = w := by
  go_enter Yba.func25, Yba.ntmps25
  go_wp2
  first | go_end0 | refine bodyPost_ret (results_none rfl _ _ _) rfl ?_
  exact ⟨rfl, rfl⟩

theorem store_any (mb o : Nat) (u : Value) (y : Int) (w : World) (hc : w.cell? ⟨mb, o, none⟩ = some u) (hz : w.frozen? ⟨mb, o, none⟩ = false) :
    Calls Yba.prog 26 #[.pointer (some ⟨mb, o, none⟩), .int .i64 y] w fun e w' => e = .returned (.tuple #[]) ∧ w' = w.setCell ⟨mb, o, none⟩ (.int .i64 y) := by
  have hst := run_call_store (P := Yba.prog) Yba.func32 (by kernel_rfl) (by kernel_rfl) (by kernel_rfl) (by kernel_rfl) (k := .i64) (y := y) hc hz
  go_enter Yba.func26, Yba.ntmps26
  go_wp2
  go_end0
  exact ⟨rfl, rfl⟩

set_option maxHeartbeats 4000000 in
set_option maxRecDepth 100000 in
theorem grow_any (n : Nat) (hn : n ≤ 2048) (mb : Nat) (f : Nat → Value) (w : World) (hM : Mem w mb f) (hf : Fresh f) (ga : Option Addr) (gn gc : Nat) (sf : Int) (h0 : f 0 = .slice ga gn gc) (h1 : f 1 = .int .i64 sf) :
    Calls Yba.prog 13 #[.pointer (some ⟨mb, 0, none⟩), .int .i64 n] w fun e w' => e = .returned (.tuple #[]) ∧ (∃ f', Mem w' mb f' ∧ f' 0 = f 0 ∧ f' 1 = f 1 ∧ f' 2 = f 2 ∧ ∀ i, i ∈ [9, 29, 31, 39, 46, 57] → ∃ a c, f' i = .slice a n c) ∧ But mb w w' := by
  obtain ⟨f4, f7, f24, f41, fn⟩ := hf
  have HF0 := hide h0
  have HF1 := hide h1
  clear h0 h1
  have HM : Hid (Mem w mb f) := hM
  have HF : Hid (∀ i, i ∈ [9, 29, 31, 35, 36, 39, 40, 45, 46, 57, 58, 59] → f i = .slice none 0 0) := fn
  have HF4 : Hid (f 4 = .int .i64 0) := f4
  have HF7 : Hid (f 7 = .pointer none) := f7
  have HF24 : Hid (f 24 = .map none) := f24
  have HF41 : Hid (f 41 = .int .u64 0) := f41
  have HB0 : Hid (But mb w w) := But.refl _ _
  clear hM f4 f7 f24 f41 fn
  have k9 : w.cell? ⟨mb, 9, none⟩ = some (.slice none 0 0) := (HM.out.cell 9 (by decide)).trans (congrArg some (HF.out 9 (by decide)))
  go_enter Yba.func13, Yba.ntmps13
  go_wp2_with fail
  refine (ext15 n hn _ rfl rfl _).mono ?_
  rintro e w1 ⟨⟨a1, c1, rfl⟩, hb1⟩
  have HM1 : Hid (Mem w1 mb f) := HM.out.below hb1
  have HB1 : Hid (But mb w w1) := HB0.out.trans (But.of_below hb1)
  clear HM HB0 k9 hb1
  have z1 : w1.frozen? ⟨mb, 9, none⟩ = false := HM1.out.free 9
  have y1 : ∃ u, w1.cell? ⟨mb, 9, none⟩ = some u := ⟨_, HM1.out.cell 9 (by decide)⟩
  obtain ⟨u1, y1⟩ := y1
  have k1 : w1.cell? ⟨mb, 29, none⟩ = some (.slice none 0 0) := (HM1.out.cell 29 (by decide)).trans (congrArg some (by first | exact HF.out 29 (by decide) | (simp only [upd]; exact HF.out 29 (by decide))))
  go_wp2_with fail
  refine (ext16 n hn _ rfl rfl _).mono ?_
  rintro e w2 ⟨⟨a2, c2, rfl⟩, hb2⟩
  have HM2 : Hid (Mem w2 mb (upd f 9 (.slice a1 n c1))) := (HM1.out.set 9 (by decide) _).below hb2
  have HB2 : Hid (But mb w w2) := (HB1.out.trans (But.set mb _ 9 _)).trans (But.of_below hb2)
  clear HM1 HB1 z1 y1 k1 hb2
  have z2 : w2.frozen? ⟨mb, 29, none⟩ = false := HM2.out.free 29
  have y2 : ∃ u, w2.cell? ⟨mb, 29, none⟩ = some u := ⟨_, HM2.out.cell 29 (by decide)⟩
  obtain ⟨u2, y2⟩ := y2
  have k2 : w2.cell? ⟨mb, 31, none⟩ = some (.slice none 0 0) := (HM2.out.cell 31 (by decide)).trans (congrArg some (by first | exact HF.out 31 (by decide) | (simp only [upd]; exact HF.out 31 (by decide))))
  go_wp2_with fail
  refine (ext17 n hn _ rfl rfl _).mono ?_
  rintro e w3 ⟨⟨a3, c3, rfl⟩, hb3⟩
  have HM3 : Hid (Mem w3 mb (upd (upd f 9 (.slice a1 n c1)) 29 (.slice a2 n c2))) := (HM2.out.set 29 (by decide) _).below hb3
  have HB3 : Hid (But mb w w3) := (HB2.out.trans (But.set mb _ 29 _)).trans (But.of_below hb3)
  clear HM2 HB2 z2 y2 k2 hb3
  have z3 : w3.frozen? ⟨mb, 31, none⟩ = false := HM3.out.free 31
  have y3 : ∃ u, w3.cell? ⟨mb, 31, none⟩ = some u := ⟨_, HM3.out.cell 31 (by decide)⟩
  obtain ⟨u3, y3⟩ := y3
  have k3 : w3.cell? ⟨mb, 35, none⟩ = some (.slice none 0 0) := (HM3.out.cell 35 (by decide)).trans (congrArg some (by first | exact HF.out 35 (by decide) | (simp only [upd]; exact HF.out 35 (by decide))))
  go_wp2_with fail
  refine (ext18 n hn _ rfl rfl _).mono ?_
  rintro e w4 ⟨⟨a4, c4, rfl⟩, hb4⟩
  have HM4 : Hid (Mem w4 mb (upd (upd (upd f 9 (.slice a1 n c1)) 29 (.slice a2 n c2)) 31 (.slice a3 n c3))) := (HM3.out.set 31 (by decide) _).below hb4
  have HB4 : Hid (But mb w w4) := (HB3.out.trans (But.set mb _ 31 _)).trans (But.of_below hb4)
  clear HM3 HB3 z3 y3 k3 hb4
  have z4 : w4.frozen? ⟨mb, 35, none⟩ = false := HM4.out.free 35
  have y4 : ∃ u, w4.cell? ⟨mb, 35, none⟩ = some u := ⟨_, HM4.out.cell 35 (by decide)⟩
  obtain ⟨u4, y4⟩ := y4
  have k4 : w4.cell? ⟨mb, 36, none⟩ = some (.slice none 0 0) := (HM4.out.cell 36 (by decide)).trans (congrArg some (by first | exact HF.out 36 (by decide) | (simp only [upd]; exact HF.out 36 (by decide))))
  go_wp2_with fail
  refine (ext18 n hn _ rfl rfl _).mono ?_
  rintro e w5 ⟨⟨a5, c5, rfl⟩, hb5⟩
  have HM5 : Hid (Mem w5 mb (upd (upd (upd (upd f 9 (.slice a1 n c1)) 29 (.slice a2 n c2)) 31 (.slice a3 n c3)) 35 (.slice a4 n c4))) := (HM4.out.set 35 (by decide) _).below hb5
  have HB5 : Hid (But mb w w5) := (HB4.out.trans (But.set mb _ 35 _)).trans (But.of_below hb5)
  clear HM4 HB4 z4 y4 k4 hb5
  have z5 : w5.frozen? ⟨mb, 36, none⟩ = false := HM5.out.free 36
  have y5 : ∃ u, w5.cell? ⟨mb, 36, none⟩ = some u := ⟨_, HM5.out.cell 36 (by decide)⟩
  obtain ⟨u5, y5⟩ := y5
  have k5 : w5.cell? ⟨mb, 39, none⟩ = some (.slice none 0 0) := (HM5.out.cell 39 (by decide)).trans (congrArg some (by first | exact HF.out 39 (by decide) | (simp only [upd]; exact HF.out 39 (by decide))))
  go_wp2_with fail
  refine (ext19 n hn _).mono ?_
  rintro e w6 ⟨⟨a6, c6, rfl⟩, hb6⟩
  have HM6 : Hid (Mem w6 mb (upd (upd (upd (upd (upd f 9 (.slice a1 n c1)) 29 (.slice a2 n c2)) 31 (.slice a3 n c3)) 35 (.slice a4 n c4)) 36 (.slice a5 n c5))) := (HM5.out.set 36 (by decide) _).below hb6
  have HB6 : Hid (But mb w w6) := (HB5.out.trans (But.set mb _ 36 _)).trans (But.of_below hb6)
  clear HM5 HB5 z5 y5 k5 hb6
  have z6 : w6.frozen? ⟨mb, 39, none⟩ = false := HM6.out.free 39
  have y6 : ∃ u, w6.cell? ⟨mb, 39, none⟩ = some u := ⟨_, HM6.out.cell 39 (by decide)⟩
  obtain ⟨u6, y6⟩ := y6
  have k6 : w6.cell? ⟨mb, 40, none⟩ = some (.slice none 0 0) := (HM6.out.cell 40 (by decide)).trans (congrArg some (by first | exact HF.out 40 (by decide) | (simp only [upd]; exact HF.out 40 (by decide))))
  go_wp2_with fail
  refine (ext20 n hn _).mono ?_
  rintro e w7 ⟨⟨a7, c7, rfl⟩, hb7⟩
  have HM7 : Hid (Mem w7 mb (upd (upd (upd (upd (upd (upd f 9 (.slice a1 n c1)) 29 (.slice a2 n c2)) 31 (.slice a3 n c3)) 35 (.slice a4 n c4)) 36 (.slice a5 n c5)) 39 (.slice a6 n c6))) := (HM6.out.set 39 (by decide) _).below hb7
  have HB7 : Hid (But mb w w7) := (HB6.out.trans (But.set mb _ 39 _)).trans (But.of_below hb7)
  clear HM6 HB6 z6 y6 k6 hb7
  have z7 : w7.frozen? ⟨mb, 40, none⟩ = false := HM7.out.free 40
  have y7 : ∃ u, w7.cell? ⟨mb, 40, none⟩ = some u := ⟨_, HM7.out.cell 40 (by decide)⟩
  obtain ⟨u7, y7⟩ := y7
  have k7 : w7.cell? ⟨mb, 45, none⟩ = some (.slice none 0 0) := (HM7.out.cell 45 (by decide)).trans (congrArg some (by first | exact HF.out 45 (by decide) | (simp only [upd]; exact HF.out 45 (by decide))))
  go_wp2_with fail
  refine (ext21 n hn _).mono ?_
  rintro e w8 ⟨⟨a8, c8, rfl⟩, hb8⟩
  have HM8 : Hid (Mem w8 mb (upd (upd (upd (upd (upd (upd (upd f 9 (.slice a1 n c1)) 29 (.slice a2 n c2)) 31 (.slice a3 n c3)) 35 (.slice a4 n c4)) 36 (.slice a5 n c5)) 39 (.slice a6 n c6)) 40 (.slice a7 n c7))) := (HM7.out.set 40 (by decide) _).below hb8
  have HB8 : Hid (But mb w w8) := (HB7.out.trans (But.set mb _ 40 _)).trans (But.of_below hb8)
  clear HM7 HB7 z7 y7 k7 hb8
  have z8 : w8.frozen? ⟨mb, 45, none⟩ = false := HM8.out.free 45
  have y8 : ∃ u, w8.cell? ⟨mb, 45, none⟩ = some u := ⟨_, HM8.out.cell 45 (by decide)⟩
  obtain ⟨u8, y8⟩ := y8
  have k8 : w8.cell? ⟨mb, 46, none⟩ = some (.slice none 0 0) := (HM8.out.cell 46 (by decide)).trans (congrArg some (by first | exact HF.out 46 (by decide) | (simp only [upd]; exact HF.out 46 (by decide))))
  go_wp2_with fail
  have HM9 : Hid (Mem (w8.setCell ⟨mb, 45, none⟩ (.slice a8 n c8)) mb (upd (upd (upd (upd (upd (upd (upd (upd f 9 (.slice a1 n c1)) 29 (.slice a2 n c2)) 31 (.slice a3 n c3)) 35 (.slice a4 n c4)) 36 (.slice a5 n c5)) 39 (.slice a6 n c6)) 40 (.slice a7 n c7)) 45 (.slice a8 n c8))) := HM8.out.set 45 (by decide) _
  have HB9 : Hid (But mb w (w8.setCell ⟨mb, 45, none⟩ (.slice a8 n c8))) := HB8.out.trans (But.set mb _ 45 _)
  generalize (w8.setCell ⟨mb, 45, none⟩ (.slice a8 n c8)) = W9 at *
  have k9 : W9.cell? ⟨mb, 46, none⟩ = some (.slice none 0 0) := (HM9.out.cell 46 (by decide)).trans (congrArg some (by simp only [upd]; exact HF.out 46 (by decide)))
  have l9 : W9.cell? ⟨mb, 41, none⟩ = some (.int .u64 0) := (HM9.out.cell 41 (by decide)).trans (congrArg some (by simp only [upd]; exact HF41.out))
  clear HM8 HB8 z8 y8 k8
  go_region_with (go_at_call 22; refine (ext22 n hn 0 _).mono ?_; rintro e w9 ⟨⟨a9, c9, rfl⟩, hb9⟩; have HM10 := HM9.out.drew.below hb9; have HB10 := HB9.out.drew.trans (But.of_below hb9); have z9 := HM10.free 46; obtain ⟨u9, y9⟩ : ∃ u, w9.cell? ⟨mb, 46, none⟩ = some u := ⟨_, HM10.cell 46 (by decide)⟩; have HMX := hide HM10; have HBX := hide HB10; clear HM10 HB10)
  all_goals
    go_wp2_with fail
    obtain ⟨fx, HMy, e0, e1, e2, e4, e7, e24, e9, e29, e31, e39, e46, e57, e58, e59⟩ : ∃ fx, Hid (Mem (w9.setCell ⟨mb, 46, none⟩ (.slice a9 n c9)) mb fx) ∧ Hid (fx 0 = f 0) ∧ Hid (fx 1 = f 1) ∧ Hid (fx 2 = f 2) ∧ Hid (fx 4 = .int .i64 0) ∧ Hid (fx 7 = .pointer none) ∧ Hid (fx 24 = .map none) ∧ Hid (fx 9 = .slice a1 n c1) ∧ Hid (fx 29 = .slice a2 n c2) ∧ Hid (fx 31 = .slice a3 n c3) ∧ Hid (fx 39 = .slice a6 n c6) ∧ Hid (fx 46 = .slice a9 n c9) ∧ Hid (fx 57 = .slice none 0 0) ∧ Hid (fx 58 = .slice none 0 0) ∧ Hid (fx 59 = .slice none 0 0) :=
      ⟨_, HMX.out.set 46 (by decide) _, rfl, rfl, rfl, HF4.out, HF7.out, HF24.out, rfl, rfl, rfl, rfl, rfl, HF.out 57 (by decide), HF.out 58 (by decide), HF.out 59 (by decide)⟩
    have HBy : Hid (But mb w (w9.setCell ⟨mb, 46, none⟩ (.slice a9 n c9))) := HBX.out.trans (But.set mb _ 46 _)
    refine (det_any n hn mb fx _ HMy.out e57.out e58.out e59.out).mono ?_
    rintro e wd ⟨rfl, ⟨b1, d1, b2, d2, b3, d3, hMd⟩, hBd⟩
    have HMd := hide hMd
    have HBd := hide (HBy.out.trans hBd)
    clear hMd hBd HMy HBy HMX HBX z9 y9 HM9 HB9 k9 l9 HF HF4 HF7 HF24 HF41
    have q24 : wd.cell? ⟨mb, 24, none⟩ = some (.map none) := (HMd.out.cell 24 (by decide)).trans (congrArg some e24.out)
    have hrg := run_range_nilMap (P := Yba.prog) wd 50 9 122 Yba.underlying50
    have hnx : ∀ ty, (Instr.next (.pointer (some ⟨wd.heap.size, 0, none⟩)) false ty).run Yba.prog (wd.alloc (.mapIter none 0 #[] 0)) = _ := fun ty => run_next_nilMap wd ty 0 0 #[]
    go_wp2_with fail
    refine wp_loop_rounds 1 ?_
    rw [rounds_succ]
    go_wp2_with fail
    have hBi : But mb w (wd.alloc (.mapIter none 0 #[] 0)) := HBd.out.trans (But.of_below ((Below.refl _ wd).alloc (Nat.le_refl _) _))
    have hMi := HMd.out.below ((Below.refl _ wd).alloc (Nat.le_refl _) (.mapIter none 0 #[] 0))
    clear hrg hnx q24 HBd HMd
    generalize wd.alloc (.mapIter none 0 #[] 0) = wi at *
    have HBi := hide hBi
    have HMi := hide hMi
    have p7 : wi.cell? ⟨mb, 7, none⟩ = some (.pointer none) := (hMi.cell 7 (by decide)).trans (congrArg some e7.out)
    have p0 : wi.cell? ⟨mb, 0, none⟩ = some (.slice ga gn gc) := (hMi.cell 0 (by decide)).trans (congrArg some (e0.out.trans HF0.out))
    have p1 : wi.cell? ⟨mb, 1, none⟩ = some (.int .i64 sf) := (hMi.cell 1 (by decide)).trans (congrArg some (e1.out.trans HF1.out))
    clear hMi hBi
    go_quiet ((go_at_call 25; exact Calls.quiet_of_same (named_nil _ _ _)))
    go_wp2_with fail
    have hqb := below_drewN (Below.refl wi.heap.size wi) nq
    have HMq := hide (HMi.out.below hqb)
    have HBq := hide (HBi.out.trans (But.of_below hqb))
    clear hqb HMi HBi p7 p0 p1
    refine (store_any mb 4 _ n _ (HMq.out.cell 4 (by decide)) (HMq.out.free 4)).mono ?_
    rintro e wz ⟨rfl, rfl⟩
    go_wp2
    go_end0
    refine ⟨rfl, ⟨_, HMq.out.set 4 (by decide) _, e0.out, e1.out, e2.out, ?_⟩, HBq.out.trans (But.set mb _ 4 _)⟩
    intro i hi
    simp only [List.mem_cons, List.not_mem_nil, or_false] at hi
    rcases hi with rfl | rfl | rfl | rfl | rfl | rfl
    · exact ⟨a1, c1, e9.out⟩
    · exact ⟨a2, c2, e29.out⟩
    · exact ⟨a3, c3, e31.out⟩
    · exact ⟨a6, c6, e39.out⟩
    · exact ⟨a9, c9, e46.out⟩
    · exact ⟨b1, d1, rfl⟩

end Go.Proofs.Ybulkbawq
