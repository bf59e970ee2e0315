/-
  (*Member).takeNames by its three outcomes.
-/
import Derived.Test.YbulkbawqGrow
import Derived.Test.YbulkbawqStrs
namespace Go.Proofs.Ybulkbawq
open Go.RowKit

/-- As 'Reads', the cells lying below block B. -/
def ReadsB (w : World) (B : Nat) (v : Value) (ss : List ByteArray) : Prop :=
  ∃ (a : Option Addr) (c : Nat), v = .slice a ss.length c ∧ ss.length ≤ c ∧
    (ss = [] ∨ ∃ b off, b < B ∧ a = some ⟨b, off, none⟩ ∧ ∀ j, j < ss.length → w.cell? ⟨b, off + j, none⟩ = some (.string (ss.getD j ByteArray.empty)))

theorem ReadsB.reads {w : World} {B : Nat} {v : Value} {ss : List ByteArray} (h : ReadsB w B v ss) : Reads w v ss := by
  obtain ⟨a, c, rfl, hc, r⟩ := h
  refine ⟨a, c, rfl, hc, ?_⟩
  rcases r with rfl | ⟨b, off, _, rfl, g⟩
  · exact .inl rfl
  · exact .inr ⟨b, off, rfl, g⟩
theorem ReadsB.below {w w' : World} {B : Nat} {v : Value} {ss : List ByteArray} (h : ReadsB w B v ss) (hb : Below B w w') : ReadsB w' B v ss := by
  obtain ⟨a, c, rfl, hc, r⟩ := h
  refine ⟨a, c, rfl, hc, ?_⟩
  rcases r with rfl | ⟨b, off, hlt, rfl, g⟩
  · exact .inl rfl
  · exact .inr ⟨b, off, hlt, rfl, fun j hj => (cell_of_block (hb.block b hlt) _).trans (g j hj)⟩
/-- The first strings alone. -/
theorem ReadsB.take {w : World} {B : Nat} {a : Option Addr} {c : Nat} {ss : List ByteArray} (k : Nat) (h : ReadsB w B (.slice a ss.length c) ss) (hk : k ≤ ss.length) : ReadsB w B (.slice a k c) (ss.take k) := by
  obtain ⟨a', c', e, hc, r⟩ := h
  cases e
  have hl : (ss.take k).length = k := by simp; omega
  refine ⟨a, c, by rw [hl], by omega, ?_⟩
  rcases r with rfl | ⟨b, off, hlt, rfl, g⟩
  · exact .inl (by simp)
  · refine .inr ⟨b, off, hlt, rfl, fun j hj => ?_⟩
    rw [hl] at hj
    rw [g j (by omega)]
    simp [List.getD, hj]

set_option maxHeartbeats 1000000 in
theorem take_short (mb : Nat) (f : Nat → Value) (w : World) (ga na : Option Addr) (gc nc gn nn : Nat) (hM : Mem w mb f) (h0 : f 0 = .slice ga gn gc) (hl : nn < gn) :
    Calls Yba.prog 6 #[.pointer (some ⟨mb, 0, none⟩), .slice na nn nc] w fun e w' => e = .returned (.bool false) ∧ ∃ q, w' = w.drewN q := by
  have k0 : w.cell? ⟨mb, 0, none⟩ = some (.slice ga gn gc) := (hM.cell 0 (by decide)).trans (congrArg some h0)
  have hd : decide ((nn : Int) < gn) = true := by simp; omega
  clear hM h0
  go_enter Yba.func6, Yba.ntmps6
  go_wp2_with fail
  go_quiet (fail)
  go_wp2
  go_ret
  exact ⟨rfl, nq, rfl⟩

/-- slices.Equal(names[:len(m.group)], m.group), met inside the region. -/
theorem eql_first (w : World) (B1 B2 : Nat) (ga na : Option Addr) (gc nc : Nat) (G NS : List ByteArray) (hG : ReadsB w B1 (.slice ga G.length gc) G) (hN : ReadsB w B2 (.slice na NS.length nc) NS) (hg : G.length ≤ 2048) (hl : G.length ≤ NS.length) (q : Nat) :
    Calls Yba.prog 10 #[.slice na G.length nc, .slice ga G.length gc] (w.drewN q) fun e w' => e = .returned (.bool (decide (NS.take G.length = G))) ∧ ∃ m, w' = (w.drewN q).drewN m := by
  have hG' : ReadsB (w.drewN q) B1 (.slice ga G.length gc) G := hG.below (below_drewN (Below.refl _ _) q)
  have hN' : ReadsB (w.drewN q) B2 (.slice na NS.length nc) NS := hN.below (below_drewN (Below.refl _ _) q)
  exact eql_any _ _ (NS.take G.length) G (w.drewN q) (hN'.take _ hl).reads hG'.reads (by simp; omega) hg

set_option maxHeartbeats 1000000 in
theorem take_other (mb : Nat) (f : Nat → Value) (w : World) (B1 B2 : Nat) (ga na : Option Addr) (gc nc : Nat) (G NS : List ByteArray) (hM : Mem w mb f) (h0 : f 0 = .slice ga G.length gc)
    (hG : ReadsB w B1 (.slice ga G.length gc) G) (hN : ReadsB w B2 (.slice na NS.length nc) NS) (hg : G.length ≤ 1024) (hl : G.length ≤ NS.length) (hne : ¬ NS.take G.length = G) :
    Calls Yba.prog 6 #[.pointer (some ⟨mb, 0, none⟩), .slice na NS.length nc] w fun e w' => e = .returned (.bool false) ∧ ∃ q, w' = w.drewN q := by
  have k0 : w.cell? ⟨mb, 0, none⟩ = some (.slice ga G.length gc) := (hM.cell 0 (by decide)).trans (congrArg some h0)
  have hcap : NS.length ≤ nc := by obtain ⟨a, c, e, hc, _⟩ := hN; cases e; exact hc
  have HE := fun q => eql_first w B1 B2 ga na gc nc G NS hG hN (by omega) hl q
  rw [decide_eq_false hne] at HE
  have hd : decide (NS.length < G.length) = false := by simp; omega
  have hcap' : G.length ≤ nc := by omega
  have HX := hide HE
  clear hM h0 hG hN HE hne
  go_enter Yba.func6, Yba.ntmps6
  go_wp2_with fail
  go_quiet ((go_at_call 10; exact Calls.quiet_of (HX.out _)))
  go_wp2
  go_ret
  exact ⟨rfl, nq, rfl⟩

set_option maxHeartbeats 1000000 in
theorem take_lost (mb : Nat) (f : Nat → Value) (w : World) (B1 B2 : Nat) (ga na : Option Addr) (gc nc : Nat) (G NS : List ByteArray) (sf : Int) (nm : ByteArray) (hM : Mem w mb f) (h0 : f 0 = .slice ga G.length gc) (h1 : f 1 = .int .i64 sf) (h2 : f 2 = .string nm)
    (hG : ReadsB w B1 (.slice ga G.length gc) G) (hN : ReadsB w B2 (.slice na NS.length nc) NS) (hg : G.length ≤ 1024) (hn : NS.length ≤ 2048) (hl : G.length ≤ NS.length) (heq : NS.take G.length = G) (hs : sf < 0) (hi : Lib.idxOfS NS nm < 0) :
    Calls Yba.prog 6 #[.pointer (some ⟨mb, 0, none⟩), .slice na NS.length nc] w fun e w' => e = .returned (.bool false) ∧ ∃ q, w' = (w.drewN q).setCell ⟨mb, 1, none⟩ (.int .i64 (Lib.idxOfS NS nm)) := by
  have k0 : w.cell? ⟨mb, 0, none⟩ = some (.slice ga G.length gc) := (hM.cell 0 (by decide)).trans (congrArg some h0)
  have k1 : w.cell? ⟨mb, 1, none⟩ = some (.int .i64 sf) := (hM.cell 1 (by decide)).trans (congrArg some h1)
  have k2 : w.cell? ⟨mb, 2, none⟩ = some (.string nm) := (hM.cell 2 (by decide)).trans (congrArg some h2)
  have z1 := hM.free 1
  have hcap : NS.length ≤ nc := by obtain ⟨a, c, e, hc, _⟩ := hN; cases e; exact hc
  have HE := fun q => eql_first w B1 B2 ga na gc nc G NS hG hN (by omega) hl q
  rw [decide_eq_true heq] at HE
  have HI := hide (fun q => idx_any _ NS nm (w.drewN q) (hN.below (below_drewN (Below.refl _ _) q)).reads hn)
  have hd : decide (NS.length < G.length) = false := by simp; omega
  have hcap' : G.length ≤ nc := by omega
  have HX := hide HE
  clear hM h0 h1 h2 hG hN HE heq
  generalize Lib.idxOfS NS nm = ix at *
  go_enter Yba.func6, Yba.ntmps6
  go_wp2_with fail
  go_quiet ((go_at_call 10; exact Calls.quiet_of (HX.out _)))
  go_wp2_with fail
  refine (HI.out _).mono ?_
  rintro e w' ⟨rfl, rfl⟩
  go_wp2
  go_ret
  exact ⟨rfl, nq, rfl⟩

theorem Holds.but {w w' : World} {mb B : Nat} {v : Value} {ss : List ByteArray} (h : Holds w B v ss) (hb : But mb w w') (hm : mb < B) : Holds w' B v ss := by
  obtain ⟨a, c, rfl, hc, r⟩ := h
  refine ⟨a, c, rfl, hc, ?_⟩
  rcases r with rfl | ⟨b, h1, h2, rfl, g⟩
  · exact .inl rfl
  · exact .inr ⟨b, h1, Nat.lt_of_lt_of_le h2 hb.size, rfl, fun j hj => (cell_of_block (hb.block b h2 (by omega)) _).trans (g j hj)⟩

theorem Seat.but {w w' : World} {mb B : Nat} {v : Value} {ss : List ByteArray} (h : Seat w B v ss) (hb : But mb w w') (hm : mb < B) : Seat w' B v ss := by
  rcases h with h | ⟨b, c, cur, rfl, hB, hg⟩
  · exact .inl h
  · exact .inr ⟨b, c, cur, rfl, hB, (hb.block b (Array.getElem?_eq_some_iff.1 hg).1 (by omega)).trans hg⟩

/-- What the member holds behind a takeNames that answers true. -/
def Taken (w w' : World) (mb : Nat) (NS : List ByteArray) (self : Int) : Prop :=
  ∃ f', Mem w' mb f' ∧ (Holds w' w.heap.size (f' 0) NS ∧ Seat w' w.heap.size (f' 0) NS) ∧ f' 1 = .int .i64 self ∧ ∀ i, i ∈ [9, 29, 31, 39, 46, 57] → ∃ a c, f' i = .slice a NS.length c

theorem taken_of {w w1 w' : World} {mb : Nat} {f f' : Nat → Value} {NS : List ByteArray} {self : Int} {v : Value} (hlt : mb < w.heap.size) (hH : Holds w1 w.heap.size v NS ∧ Seat w1 w.heap.size v NS) (hb : But mb w1 w') (hM : Mem w' mb f') (e0 : f' 0 = f 0) (e1 : f' 1 = f 1) (hv : f 0 = v) (hs : f 1 = .int .i64 self)
    (hl : ∀ i, i ∈ [9, 29, 31, 39, 46, 57] → ∃ a c, f' i = .slice a NS.length c) : Taken w w' mb NS self :=
  ⟨f', hM, by rw [e0, hv]; exact ⟨hH.1.but hb hlt, hH.2.but hb hlt⟩, by rw [e1, hs], hl⟩

theorem Fresh.upd {f : Nat → Value} (h : Fresh f) (i : Nat) (hi : i < 4) (v : Value) : Fresh (upd f i v) := by
  refine ⟨?_, ?_, ?_, ?_, ?_⟩
  · rw [upd_other _ _ _ _ (by omega)]; exact h.c4
  · rw [upd_other _ _ _ _ (by omega)]; exact h.c7
  · rw [upd_other _ _ _ _ (by omega)]; exact h.c24
  · rw [upd_other _ _ _ _ (by omega)]; exact h.c41
  · intro j hj
    have h4 : 4 < j := by
      simp only [List.mem_cons, List.not_mem_nil, or_false] at hj
      omega
    rw [upd_other _ _ _ _ (by omega)]; exact h.nils j hj

set_option maxHeartbeats 1000000 in
theorem take_known (mb : Nat) (f : Nat → Value) (w : World) (B1 B2 : Nat) (ga na : Option Addr) (gc nc : Nat) (G NS : List ByteArray) (sf : Int) (hM : Mem w mb f) (hF : Fresh f) (h0 : f 0 = .slice ga G.length gc) (h1 : f 1 = .int .i64 sf)
    (hG : ReadsB w B1 (.slice ga G.length gc) G) (hN : ReadsB w B2 (.slice na NS.length nc) NS) (hg : G.length ≤ 1024) (hn : NS.length ≤ 2048) (hl : G.length ≤ NS.length) (heq : NS.take G.length = G) (hs : ¬ sf < 0) :
    Calls Yba.prog 6 #[.pointer (some ⟨mb, 0, none⟩), .slice na NS.length nc] w fun e w' => e = .returned (.bool true) ∧ Taken w w' mb NS sf ∧ But mb w w' := by
  have k0 : w.cell? ⟨mb, 0, none⟩ = some (.slice ga G.length gc) := (hM.cell 0 (by decide)).trans (congrArg some h0)
  have k1 : w.cell? ⟨mb, 1, none⟩ = some (.int .i64 sf) := (hM.cell 1 (by decide)).trans (congrArg some h1)
  have hcap : NS.length ≤ nc := by obtain ⟨a, c, e, hc, _⟩ := hN; cases e; exact hc
  have HE := fun q => eql_first w B1 B2 ga na gc nc G NS hG hN (by omega) hl q
  rw [decide_eq_true heq] at HE
  have HC := hide (fun q => clone_any _ NS (w.drewN q) (hN.below (below_drewN (Below.refl _ _) q)).reads hn)
  have hd : decide (NS.length < G.length) = false := by simp; omega
  have hcap' : G.length ≤ nc := by omega
  have HX := hide HE
  have HM := hide hM
  have H1 := hide h1
  clear hM h0 h1 hG hN HE heq
  go_enter Yba.func6, Yba.ntmps6
  go_wp2_with fail
  go_quiet ((go_at_call 10; exact Calls.quiet_of (HX.out _)))
  go_wp2_with fail
  refine (HC.out _).mono ?_
  rintro e w1 ⟨v', rfl, hH, hb1⟩
  obtain ⟨a', c', rfl⟩ : ∃ a c, v' = .slice a NS.length c := by obtain ⟨⟨a, c, e, _⟩, _⟩ := hH; exact ⟨a, c, e⟩
  have hb1' : Below w.heap.size w w1 := (below_drewN (Below.refl _ _) nq).trans hb1
  have HH : Hid (Holds w1 w.heap.size (.slice a' NS.length c') NS ∧ Seat w1 w.heap.size (.slice a' NS.length c') NS) := hH
  have HM1 : Hid (Mem w1 mb f) := HM.out.below hb1'
  have HB1 : Hid (But mb w w1) := But.of_below hb1'
  have z0 := HM1.out.free 0
  obtain ⟨u0, y0⟩ : ∃ u, w1.cell? ⟨mb, 0, none⟩ = some u := ⟨_, HM1.out.cell 0 (by decide)⟩
  clear k0 k1 hH hb1 hb1' HX HC
  go_wp2_with fail
  have hM2 := HM1.out.set 0 (by decide) (.slice a' NS.length c')
  refine (grow_any NS.length hn mb _ _ hM2 (hF.upd 0 (by omega) _) a' NS.length c' sf rfl H1.out).mono ?_
  rintro e w2 ⟨rfl, ⟨f', hM3, e0, e1, _, hlens⟩, hb2⟩
  have hT : Taken w w2 mb NS sf := taken_of HM.out.lt HH.out ((But.set mb _ 0 _).trans hb2) hM3 e0 e1 rfl H1.out hlens
  have HT := hide hT
  have HB := hide ((HB1.out.trans (But.set mb _ 0 _)).trans hb2)
  clear hT hM3 e0 e1 hlens hb2 hM2
  go_wp2
  go_ret
  exact ⟨rfl, HT.out, HB.out⟩

set_option maxHeartbeats 1000000 in
theorem take_found (mb : Nat) (f : Nat → Value) (w : World) (B1 B2 : Nat) (hB2 : B2 ≤ mb) (ga na : Option Addr) (gc nc : Nat) (G NS : List ByteArray) (sf : Int) (nm : ByteArray) (hM : Mem w mb f) (hF : Fresh f) (h0 : f 0 = .slice ga G.length gc) (h1 : f 1 = .int .i64 sf) (h2 : f 2 = .string nm)
    (hG : ReadsB w B1 (.slice ga G.length gc) G) (hN : ReadsB w B2 (.slice na NS.length nc) NS) (hg : G.length ≤ 1024) (hn : NS.length ≤ 2048) (hl : G.length ≤ NS.length) (heq : NS.take G.length = G) (hs : sf < 0) (hi : ¬ Lib.idxOfS NS nm < 0) :
    Calls Yba.prog 6 #[.pointer (some ⟨mb, 0, none⟩), .slice na NS.length nc] w fun e w' => e = .returned (.bool true) ∧ Taken w w' mb NS (Lib.idxOfS NS nm) ∧ But mb w w' := by
  have k0 : w.cell? ⟨mb, 0, none⟩ = some (.slice ga G.length gc) := (hM.cell 0 (by decide)).trans (congrArg some h0)
  have k1 : w.cell? ⟨mb, 1, none⟩ = some (.int .i64 sf) := (hM.cell 1 (by decide)).trans (congrArg some h1)
  have k2 : w.cell? ⟨mb, 2, none⟩ = some (.string nm) := (hM.cell 2 (by decide)).trans (congrArg some h2)
  have z1 := hM.free 1
  have hcap : NS.length ≤ nc := by obtain ⟨a, c, e, hc, _⟩ := hN; cases e; exact hc
  have HE := fun q => eql_first w B1 B2 ga na gc nc G NS hG hN (by omega) hl q
  rw [decide_eq_true heq] at HE
  have HI := hide (fun q => idx_any _ NS nm (w.drewN q) (hN.below (below_drewN (Below.refl _ _) q)).reads hn)
  have HC := hide (fun q x => clone_any _ NS ((w.drewN q).setCell ⟨mb, 1, none⟩ (.int .i64 x)) ((hN.below (below_drewN (Below.refl _ _) q)).below (((But.set mb (w.drewN q) 1 (.int .i64 x)).below (Nat.le_of_lt hM.lt)).mono hB2)).reads hn)
  have hd : decide (NS.length < G.length) = false := by simp; omega
  have hcap' : G.length ≤ nc := by omega
  have HX := hide HE
  have HM := hide hM
  clear hM h0 h1 h2 hG hN HE heq
  generalize Lib.idxOfS NS nm = ix at *
  go_enter Yba.func6, Yba.ntmps6
  go_wp2_with fail
  go_quiet ((go_at_call 10; exact Calls.quiet_of (HX.out _)))
  go_wp2_with fail
  refine (HI.out _).mono ?_
  rintro e w' ⟨rfl, rfl⟩
  go_wp2_with fail
  refine (HC.out _ _).mono ?_
  rintro e w1 ⟨v', rfl, hH, hb1⟩
  obtain ⟨a', c', rfl⟩ : ∃ a c, v' = .slice a NS.length c := by obtain ⟨⟨a, c, e, _⟩, _⟩ := hH; exact ⟨a, c, e⟩
  have hdr : Below w.heap.size w (w.drewN nq) := below_drewN (Below.refl _ _) nq
  have hMs : Mem ((w.drewN nq).setCell ⟨mb, 1, none⟩ (.int .i64 ix)) mb (upd f 1 (.int .i64 ix)) := (HM.out.below hdr).set 1 (by decide) _
  have hbs : But mb w ((w.drewN nq).setCell ⟨mb, 1, none⟩ (.int .i64 ix)) := (But.of_below hdr).trans (But.set mb _ 1 _)
  have HH : Hid (Holds w1 w.heap.size (.slice a' NS.length c') NS ∧ Seat w1 w.heap.size (.slice a' NS.length c') NS) := by
    have e : ((w.drewN nq).setCell ⟨mb, 1, none⟩ (.int .i64 ix)).heap.size = w.heap.size := by simp
    rw [e] at hH
    exact hH
  have HM1 : Hid (Mem w1 mb (upd f 1 (.int .i64 ix))) := hMs.below hb1
  have HB1 : Hid (But mb w w1) := hbs.trans (But.of_below hb1)
  have z0 := HM1.out.free 0
  obtain ⟨u0, y0⟩ : ∃ u, w1.cell? ⟨mb, 0, none⟩ = some u := ⟨_, HM1.out.cell 0 (by decide)⟩
  clear k0 k1 k2 z1 hH hb1 HX HC HI hdr hMs hbs
  go_wp2_with fail
  have hM2 := HM1.out.set 0 (by decide) (.slice a' NS.length c')
  refine (grow_any NS.length hn mb _ _ hM2 ((hF.upd 1 (by omega) _).upd 0 (by omega) _) a' NS.length c' ix rfl rfl).mono ?_
  rintro e w2 ⟨rfl, ⟨f', hM3, e0, e1, _, hlens⟩, hb2⟩
  have hT : Taken w w2 mb NS ix := taken_of HM.out.lt HH.out ((But.set mb _ 0 _).trans hb2) hM3 e0 e1 rfl rfl hlens
  have HT := hide hT
  have HB := hide ((HB1.out.trans (But.set mb _ 0 _)).trans hb2)
  clear hT hM3 e0 e1 hlens hb2 hM2
  go_wp2
  go_ret
  exact ⟨rfl, HT.out, HB.out⟩
end Go.Proofs.Ybulkbawq
