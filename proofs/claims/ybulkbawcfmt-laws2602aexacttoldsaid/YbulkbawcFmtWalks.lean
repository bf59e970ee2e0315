/-
  The walks over der.LawS2602AExact: (Value).Boolean, fmt.Errorf over the calling stop, the law itself. For every F.
-/
import Derived.Test.YbulkbawcFmtRows
import Derived.WalkKit
import Derived.WalkSpells
import Derived.BigCall
import Derived.Stop.CallBack
import Derived.Stop.IfaceNil
namespace Go.Proofs.YbulkbawcFmt
open Go.RowKit Go.Extern.Stop Go.Stop Go.Extern

/-- "BOOLEAN of %d bytes, not 1" -/
abbrev fmtText : ByteArray := ⟨#[66, 79, 79, 76, 69, 65, 78, 32, 111, 102, 32, 37, 100, 32, 98, 121, 116, 101, 115, 44, 32, 110, 111, 116, 32, 49]⟩

theorem call9 (args : Array Value) (w : World) : (callFunc 9 args).run Ybaf.prog w = (FmtCalls.errorf #[9, 39] #[29] args).run Ybaf.prog w :=
  run_callFunc_next Ybaf.func9 (by kernel_rfl) (by kernel_rfl) (by kernel_rfl) args w
theorem fguard (name : String) (w : World) : (FmtStop.guard name).run Ybaf.prog w = .ok () w := by kernel_rfl
theorem nextTurns : Extern.next FmtCalls.turnsRow = some (FmtCalls.begun #[] #[]) := by kernel_rfl
theorem fmt0 : FmtStop.printed? ⟨#[66, 79, 79, 76, 69, 65, 78, 32, 111, 102, 32, 37, 100, 32, 98, 121, 116, 101, 115, 44, 32, 110, 111, 116, 32, 49]⟩ 1 = some [(0, 100, false)] := by kernel_rfl
theorem fmt0r (w : World) : (FmtDoors.printed ⟨#[66, 79, 79, 76, 69, 65, 78, 32, 111, 102, 32, 37, 100, 32, 98, 121, 116, 101, 115, 44, 32, 110, 111, 116, 32, 49]⟩ 1).run Ybaf.prog w = .ok [(0, 100, false)] w := by kernel_rfl
def shape3 : List UInt8 := [5, 3, 0, 0, 0, 0, 0, 0, 0, 105, 110, 116]
theorem act3_100w (name : String) (x : Value) (w : World) : (FmtCalls.act name true 100 false (.iface 3 x)).run Ybaf.prog w = .ok (.closed true) w := by kernel_rfl
theorem op3_100w (name : String) (x : Int) (w : World) : (FmtStop.operand name true 100 false (.iface 3 (.int .i64 x))).run Ybaf.prog w = .ok (shape3, Go.Extern.Stop.digits 8 (x % 2 ^ 64).toNat) w := by kernel_rfl
theorem ptr46 (w : World) : (FmtStop.ptrTo "errors.errorString").run Ybaf.prog w = .ok 46 w := by kernel_rfl
theorem elem46 (w : World) : (elemOf 46).run Ybaf.prog w = .ok 48 w := by kernel_rfl

attribute [local go_sem] call9 fguard fmt0 fmt0r act3_100w op3_100w ptr46 elem46

/-- What fmt is asked. -/
def reading (n : Int) : List (List UInt8) := [[66, 79, 79, 76, 69, 65, 78, 32, 111, 102, 32, 37, 100, 32, 98, 121, 116, 101, 115, 44, 32, 110, 111, 116, 32, 49], shape3, digits 8 (n % 18446744073709551616).toNat]

set_option maxHeartbeats 800000 in
theorem errorf_any (F : Interp) (n : Int) (blk : Nat) (w : World) (hF : F.answers w.tape)
    (hc0 : w.cell? ⟨blk, 0, none⟩ = some (.iface 3 (.int .i64 n))) :
    Calls Ybaf.prog 7 #[.string fmtText, .slice (some ⟨blk, 0, none⟩) 1 1] w fun e w' =>
      e = .returned (.iface 46 (.pointer (some ⟨w.heap.size, 0, none⟩))) ∧ w' = (w.alloc (.cells #[.string (FmtStop.textOf (F "fmt.errorf" (reading n) 0))] 48)).drew := by
  have hF' := answers_open hF
  go_enter Ybaf.func7, Ybaf.ntmps7
  go_wp2
  apply rows_value nextTurns
  case hr =>
    go_simp
    exact ⟨rfl, rfl⟩
  case h =>
    go_wp2
    go_ret
    exact ⟨rfl, rfl⟩

set_option maxHeartbeats 800000 in
theorem boolean_bad (F : Interp) (k : Value) (ct : Value) (m : Value) (a0 : Option Addr) (len cap : Nat) (raw : Value) (w : World) (hF : F.answers w.tape)
    (hl : ((len : Int) != 1) = true) :
    Calls Ybaf.prog 5 #[.agg #[k, ct, m, .slice a0 len cap, raw]] w fun e w' =>
      (∃ N, e = .returned (.tuple #[.bool false, .iface 46 (.pointer (some ⟨N, 0, none⟩))])) ∧ Below w.heap.size w w' := by
  have hF' := answers_open hF
  go_enter Ybaf.func5, Ybaf.ntmps5
  go_wp2_with fail
  refine (errorf_any F (len : Int) (w.heap.size + 1) _ (by exact hF) ?_).mono ?_
  · go_simp
  rintro e w' ⟨rfl, rfl⟩
  go_wp2
  go_ret2
  exact ⟨⟨_, rfl⟩, by repeat (first | exact Below.refl _ _ | refine Below.drew ?_ | refine Below.alloc ?_ (by first | (simp; done) | (simp; omega)) _)⟩

set_option maxHeartbeats 800000 in
theorem boolean_ok (k : Value) (ct : Value) (m : Value) (b off cap : Nat) (raw : Value) (z : Int) (w : World)
    (hc : w.cell? ⟨b, off, none⟩ = some (.int .u8 z)) :
    Calls Ybaf.prog 5 #[.agg #[k, ct, m, .slice (some ⟨b, off, none⟩) 1 cap, raw]] w fun e w' =>
      e = .returned (.tuple #[.bool (z != 0), .nilIface]) ∧ Below w.heap.size w w' := by
  have hb := World.block_lt_of_cell? _ _ hc
  have hc' : ∀ o, (w.alloc o).cell? ⟨b, off, none⟩ = some (.int .u8 z) := fun o => cell_later ((Below.refl _ w).alloc (Nat.le_refl _) o) hc
  go_enter Ybaf.func5, Ybaf.ntmps5
  go_wp2
  go_ret2
  exact ⟨rfl, by repeat (first | exact Below.refl _ _ | refine Below.drew ?_ | refine Below.alloc ?_ (by first | (simp; done) | (simp; omega)) _)⟩

/-- More than 1024 bytes in the first slice. -/
theorem law_long0 (a0 a1 : Option Addr) (n0 c0 n1 c1 : Nat) (w : World) (h : (1024 : Int) < n0) :
    Calls Ybaf.prog 3 #[.slice a0 n0 c0, .slice a1 n1 c1] w fun e w' => e = .returned (.bool true) ∧ Below w.heap.size w w' := by
  go_enter Ybaf.func3, Ybaf.ntmps3
  go_wp2
  go_ret
  exact ⟨rfl, Below.refl _ _⟩

/-- .. in the second. -/
theorem law_long1 (a0 a1 : Option Addr) (n0 c0 n1 c1 : Nat) (w : World) (h0 : ¬ (1024 : Int) < n0) (h : (1024 : Int) < n1) :
    Calls Ybaf.prog 3 #[.slice a0 n0 c0, .slice a1 n1 c1] w fun e w' => e = .returned (.bool true) ∧ Below w.heap.size w w' := by
  go_enter Ybaf.func3, Ybaf.ntmps3
  go_wp2
  go_ret
  exact ⟨rfl, Below.refl _ _⟩

set_option maxHeartbeats 800000 in
theorem law_bad (F : Interp) (a0 a1 : Option Addr) (n0 c0 n1 c1 : Nat) (w : World) (hF : F.answers w.tape) (h0 : ¬ (1024 : Int) < n0) (h1 : ¬ (1024 : Int) < n1)
    (hl : ((n0 : Int) != 1) = true) :
    Calls Ybaf.prog 3 #[.slice a0 n0 c0, .slice a1 n1 c1] w fun e w' => e = .returned (.bool true) ∧ Below w.heap.size w w' := by
  go_enter Ybaf.func3, Ybaf.ntmps3
  go_wp2_with fail
  refine (boolean_bad F _ _ _ _ _ _ _ _ (by exact hF) hl).mono ?_
  rintro e w' ⟨⟨N, rfl⟩, hb⟩
  go_wp2
  go_ret
  exact ⟨rfl, ((Below.refl _ w).alloc (Nat.le_refl _) _).trans (hb.mono (by simp))⟩

set_option maxHeartbeats 800000 in
theorem law_ok (b off : Nat) (a1 : Option Addr) (c0 n1 c1 : Nat) (z : Int) (w : World) (h1 : ¬ (1024 : Int) < n1)
    (hc : w.cell? ⟨b, off, none⟩ = some (.int .u8 z)) (hz : 0 ≤ z) :
    Calls Ybaf.prog 3 #[.slice (some ⟨b, off, none⟩) 1 c0, .slice a1 n1 c1] w fun e w' => e = .returned (.bool true) ∧ Below w.heap.size w w' := by
  have hb := World.block_lt_of_cell? _ _ hc
  have hc' : ∀ o, (w.alloc o).cell? ⟨b, off, none⟩ = some (.int .u8 z) := fun o => cell_later ((Below.refl _ w).alloc (Nat.le_refl _) o) hc
  by_cases hz0 : 1 ≤ z
  · have hq : (z != 0) = true := by rw [bne_iff_ne]; omega
    go_enter Ybaf.func3, Ybaf.ntmps3
    go_wp2_with fail
    refine (boolean_ok _ _ _ _ _ _ _ z _ (hc' _)).mono ?_
    rintro e w' ⟨rfl, hb'⟩
    have hcz : w'.cell? ⟨b, off, none⟩ = some (.int .u8 z) := (hb'.cell (p := ⟨b, off, none⟩) (by simp at hb ⊢; omega)).trans (hc' _)
    go_wp2
    go_ret
    exact ⟨rfl, ((Below.refl _ w).alloc (Nat.le_refl _) _).trans (hb'.mono (by simp))⟩
  · have hq : (z != 0) = false := by simp; omega
    go_enter Ybaf.func3, Ybaf.ntmps3
    go_wp2_with fail
    refine (boolean_ok _ _ _ _ _ _ _ z _ (hc' _)).mono ?_
    rintro e w' ⟨rfl, hb'⟩
    have hcz : w'.cell? ⟨b, off, none⟩ = some (.int .u8 z) := (hb'.cell (p := ⟨b, off, none⟩) (by simp at hb ⊢; omega)).trans (hc' _)
    go_wp2
    go_ret
    exact ⟨rfl, ((Below.refl _ w).alloc (Nat.le_refl _) _).trans (hb'.mono (by simp))⟩

end Go.Proofs.YbulkbawcFmt
