/-
  LawS2611BInsert.
-/
import Derived.Test.YbulkbbayPrep
import Derived.Deep.CutRange
import Derived.Deep.CutBlock
import Derived.Deep.DeepCutAuto
namespace Go.Proofs.Ybulkbbay
open Go.RowKit

/-- A slice of counters that came in. -/
def Cnts (w : World) (v : Value) (zs : List Int) : Prop :=
  (∀ z ∈ zs, 0 ≤ z ∧ z ≤ 18446744073709551615) ∧
  ((v = .slice none 0 0 ∧ zs = []) ∨ ∃ (a : Addr) (c : Nat), v = .slice (some a) zs.length c ∧ ∀ j, j < zs.length → w.cell? (a.add j) = some (.int .u64 (zs.getD j 0)))
theorem Cnts.shape {w : World} {v : Value} {zs : List Int} (h : Cnts w v zs) : ∃ a c, v = .slice a zs.length c := by
  rcases h.2 with ⟨rfl, rfl⟩ | ⟨a, c, rfl, _⟩
  · exact ⟨_, _, rfl⟩
  · exact ⟨_, _, rfl⟩
theorem Cnts.cells {w : World} {a : Option Addr} {c : Nat} {zs : List Int} (h : Cnts w (.slice a zs.length c) zs) (hp : 0 < zs.length) :
    ∃ b off, a = some ⟨b, off, none⟩ ∧ b < w.heap.size ∧ ∀ j, j < zs.length → w.cell? ⟨b, off + j, none⟩ = some (.int .u64 (zs.getD j 0)) := by
  rcases h.2 with ⟨_, rfl⟩ | ⟨⟨b, off, spot⟩, c', e, g⟩
  · simp at hp
  · cases e
    have h0 := g 0 hp
    have hspot : spot = none := by simpa [Addr.add] using World.cell?_spot h0
    subst hspot
    refine ⟨b, off, rfl, by simpa [Addr.add] using World.block_lt_of_cell? _ _ h0, fun j hj => ?_⟩
    rw [← Go.WideShapes.add_plain]
    exact g j hj

/-- The k-th counter. -/
def cnt (zs : List Int) (k : Nat) : Int := if zs.length = 0 then (k : Int) + 1 else zs.getD (k % zs.length) 0
def cnts (zs : List Int) (m : Nat) : List Value := (List.range m).map fun k => .int .u64 (cnt zs k)
theorem cnts_length (zs : List Int) (m : Nat) : (cnts zs m).length = m := by simp [cnts]
theorem cnts_at (zs : List Int) (m k : Nat) (h : k < m) : (cnts zs m)[k]? = some (.int .u64 (cnt zs k)) := by simp [cnts, h]
theorem cnts_one (zs : List Int) (m : Nat) : ∀ v ∈ cnts zs m, v.oneCell' = true := by
  intro v hv
  obtain ⟨k, _, rfl⟩ := List.mem_map.1 hv
  rfl

theorem cnts_step {zs : List Int} {k m cg : Nat} {wr : World} (hk : k < m) (h : Row wr cg m 24 (cnts zs k)) (v : Value) (hv : v = .int .u64 (cnt zs k)) : Row (wr.setCell ⟨cg, k, none⟩ v) cg m 24 (cnts zs (k + 1)) := by
  refine h.stored k [v] (by simp; omega) _ (by rw [cnts_length]; exact hk) (fun j hj => ?_) (fun j hj ho => ?_)
  · have : j = 0 := by simpa using hj
    subst this
    show (cnts zs (k + 1))[k]? = _
    rw [cnts_at zs (k + 1) k (by omega), hv]; rfl
  · rw [cnts_length] at hj
    simp at ho
    rw [cnts_at _ _ _ hj, cnts_at _ _ _ (by omega)]

/-- The hosts as the law has them. -/
def sortedOf (L : List Str) : List Str := Lib.compact (L.mergeSort fun x y => decide (x ≤ y))
theorem sortedOf_lt (L : List Str) : (sortedOf L).Pairwise (fun x y => x < y) := compact_lt _ (sorted_ms L)
theorem sortedOf_le (L : List Str) : (sortedOf L).length ≤ L.length := by
  have := Lib.compact_length_le (L.mergeSort fun x y => decide (x ≤ y))
  unfold sortedOf
  simpa using this

/-- What stands when the clock is made. -/
structure Made (w W : World) (L : List Str) (zs : List Int) (own : Bool) (h sg sc cg pg pc cb : Nat) : Prop where
  below : Below w.heap.size w W
  box : Box W cb (.slice (some ⟨h, 0, none⟩) (sortedOf L).length (L.length + 4)) (.slice (some ⟨cg, 0, none⟩) (sortedOf L).length (sortedOf L).length) own
  hosts : Row W h (L.length + 4) 9 ((sortedOf L).map str)
  snap : Row W sg sc 9 ((sortedOf L).map str)
  counts : Row W cg (sortedOf L).length 24 (cnts zs (sortedOf L).length)
  csnap : Row W pg pc 24 (cnts zs (sortedOf L).length)
  hs : w.heap.size ≤ h
  cs : w.heap.size ≤ cb
  apart : sg ≠ h ∧ sg ≠ cb ∧ pg ≠ h ∧ pg ≠ cb

theorem bts_toList (x : ByteArray) : bts x.toList = x := by unfold bts; rw [ByteArray.toList_eq]
theorem str_of (x : ByteArray) : str x.toList = .string x := congrArg Value.string (bts_toList x)
theorem ins_map {α β : Type} (f : α → β) (i : Nat) (x : α) (L : List α) : ins i (f x) (L.map f) = (ins i x L).map f := by simp [ins]

theorem drewN_add (w : World) (a b : Nat) : (w.drewN a).drewN b = w.drewN (a + b) := by simp [World.drewN, Nat.add_assoc]

/-- With x at its place the list still ascends strictly. -/
theorem ins_lt {D : List Str} (hD : D.Pairwise (fun x y => x < y)) (x : Str) (hx : x ∉ D) : (ins (place D x) x D).Pairwise (fun x y => x < y) := by
  obtain ⟨p1, p2, p3⟩ := place_spec hD x
  have hlo : ∀ a ∈ D.take (place D x), a < x := fun a ha => by
    obtain ⟨t, ht, rfl⟩ := List.getElem_of_mem ha
    simp at ht
    rw [List.getElem_take]
    exact p2 t (by omega) (by omega)
  have hhi : ∀ a ∈ D.drop (place D x), x < a := fun a ha => by
    have hm := List.mem_of_mem_drop ha
    obtain ⟨t, ht, rfl⟩ := List.getElem_of_mem ha
    simp at ht
    rw [List.getElem_drop] at hm ⊢
    have h1 := p3 (place D x + t) (by omega) (by omega)
    rcases List.le_iff_lt_or_eq.1 (List.not_lt.1 h1) with h | h
    · exact h
    · rw [h] at hx
      exact absurd hm hx
  unfold ins
  rw [List.pairwise_append]
  refine ⟨hD.sublist (List.take_sublist _ _), ?_, ?_⟩
  · rw [List.pairwise_cons]
    exact ⟨hhi, hD.sublist (List.drop_sublist _ _)⟩
  · intro a ha b hb
    rcases List.mem_cons.1 hb with rfl | hb
    · exact hlo a ha
    · exact List.lt_trans (hlo a ha) (hhi b hb)

set_option maxHeartbeats 4000000 in
set_option maxRecDepth 100000 in
theorem law_any (hv cv : Value) (L : List Str) (zs : List Int) (x : ByteArray) (y : Int) (own : Bool) (w : World) (hH : Strs w hv L) (hC : Cnts w cv zs) (hl : L.length ≤ 1024) (hz : zs.length ≤ 1024) :
    Calls Yba.prog 3 #[hv, cv, .string x, .int .u64 y, .bool own] w fun e w' => e = .returned (.bool true) ∧ Below w.heap.size w w' := by
  obtain ⟨i0, hi0, hz0, hzs, hzb⟩ := info_parts info9
  obtain ⟨M, hM⟩ : ∃ M : Array Value, M = madeCells (Value.string ⟨#[]⟩).cells ((L.length + 4) * 1) := ⟨_, rfl⟩
  have hMs : M.size = L.length + 4 := by rw [hM]; simp [madeCells]
  have hmk : (Instr.makeSlice 22 (.int .i64 0) (.int .i64 ((L.length : Int) + 4))).run Yba.prog w = .ok (.slice (some ⟨w.heap.size, 0, none⟩) 0 (L.length + 4)) (w.alloc (.cells M 9)) := by
    have h := run_make (P := Yba.prog) w 22 9 i0 _ Yba.underlying22 hi0 hz0 .i64 .i64 0 ((L.length : Int) + 4) (Int.le_refl _) (by omega) (by rw [hzb]; omega) (by omega)
    rw [hzs, show ((L.length : Int) + 4).toNat = L.length + 4 by omega, ← hM] at h
    exact h
  obtain ⟨W2, hap, HR2, HB2⟩ := append_hosts w hv L M hH hl hMs
  obtain ⟨ha, hc, rfl⟩ := hH.shape
  obtain ⟨ca, cc, rfl⟩ := hC.shape
  have HR2' := hide HR2
  have HB2' := hide HB2
  have HC := hide hC
  clear HR2 HB2 hH hC hM hMs
  have hl1 : ¬ (1024 : Int) < (L.length : Int) := by omega
  have hz1 : ¬ (1024 : Int) < (zs.length : Int) := by omega
  go_enter Yba.func3, Yba.ntmps3
  go_wp2_with (at_builtin; refine Lib.wpList_append_run _ rfl _ _ _ _ rfl _ _ rfl rfl _ _ (hap _) ?_)
  refine (sort_row w.heap.size (L.length + 4) L W2 hl HR2'.out).mono ?_
  rintro e W3 ⟨rfl, r3, gr3⟩
  obtain ⟨S, hS⟩ : ∃ S, S = L.mergeSort fun x y => decide (x ≤ y) := ⟨_, rfl⟩
  have hSl : S.length = L.length := by rw [hS]; simp
  rw [← hS] at r3
  have hcr := compact_row w.heap.size (L.length + 4) S W3 (by omega) r3
  obtain ⟨D, hD⟩ : ∃ D, D = sortedOf L := ⟨_, rfl⟩
  have hDe : Lib.compact S = D := by rw [hD, hS]; rfl
  rw [hSl, hDe] at hcr
  have HDL : Hid (D.Pairwise (fun x y => x < y)) := by show List.Pairwise _ _; rw [hD]; exact sortedOf_lt L
  have hDl : D.length ≤ L.length := by rw [hD]; exact sortedOf_le L
  have HD := hide hD
  have HCR := hide hcr
  have HB3 : Hid (Below w.heap.size w W3) := HB2'.out.grown gr3 HB2'.out.size (fun k e => by cases e; exact Nat.le_refl _)
  clear r3 gr3 hcr hDe hSl hS hD HR2' HB2' hap hmk hi0 hz0 hzs hzb
  go_wp2_with fail
  refine HCR.out.mono ?_
  rintro e W4 ⟨rfl, r4, gr4⟩
  have HR4 := hide r4
  have HB4 : Hid (Below w.heap.size w W4) := HB3.out.grown gr4 HB3.out.size (fun k e => by cases e; exact Nat.le_refl _)
  have HCL := hide (cloneS w.heap.size (L.length + 4) D W4 (by omega) r4)
  clear r4 gr4 HCR HB3
  go_wp2_with fail
  refine HCL.out.mono ?_
  rintro e W5 ⟨sg, sc, rfl, hsg, r5, b5⟩
  have hhlt := HR4.out.lt
  have HR5 := hide r5
  have HH5 := hide (HR4.out.below b5 HR4.out.lt)
  have HB5 : Hid (Below w.heap.size w W5) := HB4.out.trans (b5.mono HB4.out.size)
  have hsg1 : w.heap.size < sg := by omega
  have hmk2 := run_make_row' (P := Yba.prog) 23 24 (.int .u64 0) 8 Yba.underlying23 info24 rfl .i64 .i64 D.length (by omega) (by omega) W5
  clear r5 b5 HCL HB4 HR4
  generalize hDn : D.length = m at *
  have HDn := hide hDn
  clear hDn
  go_upto_block 0 with fail
  obtain ⟨W6, hW6⟩ : ∃ W6, W6 = W5.alloc (.cells (madeCells #[.int .u64 0] m) 24) := ⟨_, rfl⟩
  have HR6 : Hid (Row W6 W5.heap.size m 24 (cnts zs 0)) := by
    show Row _ _ _ _ _
    have hs : (madeCells #[Value.int .u64 0] m).size = m := by simp [madeCells]
    have := Row.new W5 (madeCells #[Value.int .u64 0] m) 24 [] (by simp) (by simp)
    rw [hs, ← hW6] at this
    exact this
  have HB56 : Hid (Below W5.heap.size W5 W6) := by show Below _ _ _; rw [hW6]; exact (Below.refl _ _).alloc (Nat.le_refl _) _
  have HB6 : Hid (Below w.heap.size w W6) := HB5.out.trans (HB56.out.mono HB5.out.size)
  have hcg : w.heap.size ≤ W5.heap.size := HB5.out.size
  have hcg2 := HB56.out.size
  have hcgl := HR6.out.lt
  rw [← hW6]
  clear hW6 hmk2
  generalize hcge : W5.heap.size = cg at *
  have HCG := hide hcge
  clear hcge
  go_cut [15] (fun s15 wx => Hid (Row wx cg m 24 (cnts zs m)) ∧ Hid (W6.grownBy wx (some cg)))
  case first =>
    go_wp2_with fail
    go_loopg [15] m (fun g s15 wr => ∃ k : Nat, k ≤ m ∧ m - k ≤ g ∧ s15 = .int .i64 k ∧ Hid (Row wr cg m 24 (cnts zs k)) ∧ Hid (W6.grownBy wr (some cg)))
    case atStart => exact ⟨0, Nat.zero_le _, by omega, rfl, HR6, (⟨rfl, rfl, rfl, Nat.le_refl _, fun _ _ _ => rfl⟩ : World.grownBy _ _ _)⟩
    case round =>
      obtain ⟨k, hk, hg, rfl, HRK, HGK⟩ := hrel
      by_cases hlt : k < m
      · obtain ⟨u, hu⟩ : ∃ u, wr.cell? ⟨cg, k, none⟩ = some u := Option.isSome_iff_exists.1 (HRK.out.some_ k hlt)
        have hfz := HRK.out.frozen k
        have hk1 : (0 : Int) ≤ (k : Int) := by omega
        have hk2 : (k : Int) < (m : Int) := by omega
        by_cases hz0 : zs.length = 0
        · have HST : Hid (Row (wr.setCell ⟨cg, k, none⟩ (.int .u64 ((k : Int) + 1))) cg m 24 (cnts zs (k + 1))) := cnts_step hlt HRK.out _ (by simp [cnt, hz0])
          have HG1 : Hid (W6.grownBy (wr.setCell ⟨cg, k, none⟩ (.int .u64 ((k : Int) + 1))) (some cg)) := grown_trans HGK.out (grown_setCell _ _ _ _)
          have hw1 : IntKind.u64.wrap (k : Int) = (k : Int) := by rw [IntKind.wrap_u64]; omega
          have hw2 : IntKind.u64.wrap ((k : Int) + 1) = (k : Int) + 1 := by rw [IntKind.wrap_u64]; omega
          go_wp2
          go_roundg (m - (k + 1))
          case measure => omega
          case rel => exact ⟨k + 1, by omega, by omega, by go_num, HST, HG1⟩
        · obtain ⟨cbk, coff, rfl, hcb, hcell⟩ := HC.out.cells (by omega)
          obtain ⟨r, hr⟩ : ∃ r, r = k % zs.length := ⟨_, rfl⟩
          have hrl : r < zs.length := by rw [hr]; exact Nat.mod_lt _ (by omega)
          have HST : Hid (Row (wr.setCell ⟨cg, k, none⟩ (.int .u64 (zs.getD r 0))) cg m 24 (cnts zs (k + 1))) := cnts_step hlt HRK.out _ (by simp [cnt, hz0, hr])
          have HG1 : Hid (W6.grownBy (wr.setCell ⟨cg, k, none⟩ (.int .u64 (zs.getD r 0))) (some cg)) := grown_trans HGK.out (grown_setCell _ _ _ _)
          have hld : wr.cell? ⟨cbk, coff + r, none⟩ = some (.int .u64 (zs.getD r 0)) := by
            have hB : Below w.heap.size w wr := HB6.out.grown HGK.out HB6.out.size (fun j e => by cases e; exact hcg)
            exact (hB.cell (p := ⟨cbk, coff + r, none⟩) hcb).trans (hcell r hrl)
          have hrem : IntKind.i64.wrap ((k : Int).tmod (zs.length : Int)) = (r : Int) := by
            rw [Int.tmod_eq_emod_of_nonneg (by omega), hr, IntKind.wrap_i64]
            omega
          have hnz : ¬ ((zs.length : Int) = 0) := by omega
          have hr1 : (0 : Int) ≤ (r : Int) := by omega
          have hr2 : (r : Int) < (zs.length : Int) := by omega
          generalize zs.getD r 0 = z at *
          subst hr
          clear hcell
          go_wp2
          go_roundg (m - (k + 1))
          case measure => omega
          case rel => exact ⟨k + 1, by omega, by omega, by go_num, HST, HG1⟩
      · obtain rfl : k = m := by omega
        go_wp2
        go_meet
        case rel => exact ⟨HRK, HGK⟩
  case rest =>
    obtain ⟨HRC, HGC⟩ := hcut
    have hhl5 := HH5.out.lt
    have hsl5 := HR5.out.lt
    have hhc : w.heap.size ≠ cg := by have := HCG.out; omega
    have hsc : sg ≠ cg := by have := HCG.out; omega
    have HHc : Hid (Row wc w.heap.size (L.length + 4) 9 (D.map str)) := (HH5.out.below HB56.out (by have := HCG.out; omega)).grown HGC.out (by simpa using hhc)
    have HSc : Hid (Row wc sg sc 9 (D.map str)) := (HR5.out.below HB56.out (by have := HCG.out; omega)).grown HGC.out (by simpa using hsc)
    have HBc : Hid (Below w.heap.size w wc) := HB6.out.grown HGC.out HB6.out.size (fun j e => by cases e; exact hcg)
    have hcu := cloneU cg m (cnts zs m) wc (by rw [cnts_length]; omega) (cnts_one zs m) HRC.out
    rw [cnts_length] at hcu
    have HCU := hide hcu
    clear hcu HH5 HR5 HB56 HB6 HR6 HGC HB5 hsl5 hhl5
    go_wp2_with fail
    refine HCU.out.mono ?_
    rintro e W8 ⟨pg, pc, rfl, hpg, r8, b8⟩
    have hh1 := HHc.out.lt
    have hs1 := HSc.out.lt
    have hc1 := HRC.out.lt
    have HH8 := hide (HHc.out.below b8 hh1)
    have HS8 := hide (HSc.out.below b8 hs1)
    have HC8 := hide (HRC.out.below b8 hc1)
    have HP8 := hide r8
    have HB8 : Hid (Below w.heap.size w W8) := HBc.out.trans (b8.mono HBc.out.size)
    have hpgl := r8.lt
    have hsz8 := b8.size
    clear r8 b8 HHc HSc HRC HBc HCU
    go_wp2_with fail
    have hcb8 : w.heap.size ≤ W8.heap.size := HB8.out.size
    have hh8 := HH8.out.lt
    have hs8 := HS8.out.lt
    have hc8 := HC8.out.lt
    obtain ⟨W9, hW9⟩ : ∃ W9, W9 = W8.alloc (.cells #[.slice (some ⟨w.heap.size, 0, none⟩) m (L.length + 4), .slice (some ⟨cg, 0, none⟩) m m, .bool own] 29) := ⟨_, rfl⟩
    have hB89 : Below W8.heap.size W8 W9 := by rw [hW9]; exact (Below.refl _ _).alloc (Nat.le_refl _) _
    have hbox : Box W9 W8.heap.size (.slice (some ⟨w.heap.size, 0, none⟩) m (L.length + 4)) (.slice (some ⟨cg, 0, none⟩) m m) own := by rw [hW9]; exact heap_alloc_new W8 _
    have HH9 := hide (HH8.out.below hB89 hh8)
    have HS9 := hide (HS8.out.below hB89 hs8)
    have HC9 := hide (HC8.out.below hB89 hc8)
    have HP9 := hide (HP8.out.below hB89 hpgl)
    have HB9 : Hid (Below w.heap.size w W9) := HB8.out.trans (hB89.mono hcb8)
    have HBX := hide hbox
    have hfd := find_any W8.heap.size w.heap.size (L.length + 4) D HDL.out (by have := HDn.out; omega) x (.slice (some ⟨cg, 0, none⟩) m m) own W9 (by rw [HDn.out]; exact hbox) HH9.out
    have HFD := hide hfd
    rw [← hW9]
    clear hW9 hB89 hbox HH8 HS8 HC8 HP8 HB8 hfd
    have hcbne : W8.heap.size ≠ w.heap.size ∧ sg ≠ W8.heap.size ∧ pg ≠ W8.heap.size ∧ pg ≠ w.heap.size ∧ sg ≠ w.heap.size := by omega
    have HNE := hide hcbne
    clear hcbne
    generalize W8.heap.size = cb at *
    refine HFD.out.mono ?_
    clear HFD
    rintro e W10 ⟨rfl, q0, rfl⟩
    obtain ⟨i, hi⟩ : ∃ i, i = place D x.toList := ⟨_, rfl⟩
    have hil : i ≤ m := by rw [hi, ← HDn.out]; exact (place_spec HDL.out x.toList).1
    rw [← hi]
    have HI := hide hi
    clear hi
    by_cases hin : x.toList ∈ D
    · rw [decide_eq_true hin]
      have HE : Hid (Below w.heap.size w (W9.drewN q0)) := below_drewN HB9.out q0
      clear hin
      go_wp2
      go_ret
      exact ⟨rfl, HE.out⟩
    · rw [decide_eq_false hin]
      have HIN := hide hin
      have hml : (D.map str).length = m := by rw [List.length_map]; exact HDn.out
      have hins := insert_any cb w.heap.size (L.length + 4) cg own (D.map str) (cnts zs m) (strs_one D) (cnts_one zs m) (by omega) (by rw [cnts_length, hml]) (by omega) (by omega) i (by omega) x y (W9.drewN q0)
        (by rw [hml, cnts_length]; exact HBX.out) (HH9.out.same rfl) (by rw [cnts_length]; exact HC9.out.same rfl)
      have HINS := hide hins
      clear hins hin hml
      go_wp2_with fail
      refine HINS.out.mono ?_
      clear HINS
      rintro e W11 ⟨⟨v, rfl⟩, IN⟩
      obtain ⟨⟨h2, cap2, g2, c2, bx, rh, rc⟩, kp⟩ := IN
      rw [List.length_map, HDn.out, cnts_length] at bx
      obtain ⟨H2, hH2⟩ : ∃ H2, H2 = ins i x.toList D := ⟨_, rfl⟩
      rw [← str_of x, ins_map, ← hH2] at rh
      have HLT : Hid (H2.Pairwise (fun x y => x < y)) := by show List.Pairwise _ _; rw [hH2, HI.out]; exact ins_lt HDL.out _ HIN.out
      have hH2l : H2.length = m + 1 := by rw [hH2, ins_length, HDn.out]
      have hbad : ∀ k, k ≠ cb → k ≠ w.heap.size → ¬ (k = cb ∨ (own = true ∧ k = w.heap.size)) := fun k h1 h2 h => h.elim h1 (fun h => h2 h.2)
      obtain ⟨n1, n2, n3, n4, n5⟩ := HNE.out
      have HS11 : Hid (Row W11 sg sc 9 (D.map str)) := (HS9.out.same (W' := W9.drewN q0) rfl).same (kp.block sg HS9.out.lt (hbad sg n2 n5))
      have HP11 : Hid (Row W11 pg pc 24 (cnts zs m)) := (HP9.out.same (W' := W9.drewN q0) rfl).same (kp.block pg HP9.out.lt (hbad pg n3 n4))
      have HH11 : Hid (own = false → Row W11 w.heap.size (L.length + 4) 9 (D.map str)) := fun ho => (HH9.out.same (W' := W9.drewN q0) rfl).same (kp.block w.heap.size HH9.out.lt (fun h => h.elim (fun h => n1 h.symm) (fun h => by rw [ho] at h; cases h.1)))
      have HB11 : Hid (Below w.heap.size w W11) := by
        have hb := HB9.out
        refine ⟨kp.os.trans hb.os, kp.tape.trans hb.tape, kp.output.trans hb.output, Nat.le_trans hb.size kp.size, fun k hk => ?_⟩
        exact (kp.block k (Nat.lt_of_lt_of_le hk hb.size) (hbad k (by omega) (by omega))).trans (hb.block k hk)
      have HRH := hide rh
      have HRC2 := hide rc
      have HHD := hide hH2
      have HHL := hide hH2l
      have d0 := bx.c0
      have d1 := bx.c1
      have d2 := bx.c2
      clear bx rh rc kp hH2 hH2l hbad n1 n2 n3 n4 n5 HS9 HP9 HH9 HB9 HC9 HBX HNE HIN HDL HC HCG
      have hi1 : ¬ ((i : Int) < 0) := by omega
      have hi2 : ¬ ((m : Int) < (i : Int)) := by omega
      have hi3 : decide ((i : Int) < 0) = false := by simp
      have hi4 : decide ((m : Int) < (i : Int)) = false := by simp; omega
      have hi5 : decide (m < i) = false := by simp; omega
      go_wp2_with fail
      go_loopg [20] (m + 1) (fun g s20 wr => ∃ k : Nat, k ≤ m + 1 ∧ m + 1 - k ≤ g ∧ s20 = .int .i64 k ∧ ∃ q, wr = W11.drewN q)
      case atStart => exact ⟨0, Nat.zero_le _, by omega, rfl, 0, rfl⟩
      case round =>
        obtain ⟨k, hk, hg, rfl, q, rfl⟩ := hrel
        by_cases hlt : k ≤ m
        · have hkl : k < H2.length := by have := HHL.out; omega
          have hAt : ∀ j (hj : j < H2.length), W11.cell? ⟨h2, j, none⟩ = some (.string (bts H2[j])) := fun j hj => HRH.out.at_ j _ (by simp [hj]; rfl)
          have a0 := hAt k hkl
          have HAT := hide hAt
          have hil2 : i ≤ D.length := by rw [HDn.out]; exact hil
          have hic : i ≤ (cnts zs m).length := by rw [cnts_length]; exact hil
          clear hAt
          cases k with
          | zero =>
            have k1 : (0 : Int) ≤ (0 : Int) := by omega
            have k2 : (0 : Int) < (m : Int) + 1 := by omega
            have k3 : (0 : Int) ≤ (m : Int) := by omega
            go_upto_block 4 with fail
            go_cut [20] from 114 to 205 (fun s20 wx => s20 = .int .i64 (0 : Int) ∧ ∃ q, wx = W11.drewN q)
            case first =>
              rcases Nat.eq_zero_or_pos i with hki0 | hki
              · have hki : 0 = i := hki0.symm
                clear hki0
                have eD : H2[0]? = some x.toList := by rw [HHD.out, hki]; exact ins_at hil2
                have eD2 : H2[0] = x.toList := by simpa [hkl] using eD
                have g0 : W11.cell? ⟨g2, 0, none⟩ = some (.int .u64 y) := HRC2.out.at_ 0 _ (by rw [hki]; exact ins_at hic)
                rw [eD2, bts_toList] at a0
                have j1 : ¬ ((0 : Int) < (i : Int)) := by omega
                have j1' : ((0 : Int) == (i : Int)) = true := by simp; omega
                have Hhk := hide hki
                clear eD eD2 hki
                go_wp2
                go_meet
                case rel => exact ⟨rfl, _, rfl⟩
              · have hkD : 0 < D.length := by omega
                have eD : H2[0]? = D[0]? := by rw [HHD.out]; exact ins_lo hki hil2
                have eD2 : H2[0] = D[0] := by simpa [hkl, hkD] using eD
                have s0 : W11.cell? ⟨sg, 0, none⟩ = some (.string (bts H2[0])) := HS11.out.at_ 0 _ (by rw [eD2]; simp [hkD]; rfl)
                have g0 : W11.cell? ⟨g2, 0, none⟩ = some (.int .u64 (cnt zs 0)) := HRC2.out.at_ 0 _ ((ins_lo hki hic).trans (cnts_at zs m 0 (by omega)))
                have p0 : W11.cell? ⟨pg, 0, none⟩ = some (.int .u64 (cnt zs 0)) := HP11.out.at_ 0 _ (cnts_at zs m 0 (by omega))
                have j1 : (0 : Int) < (i : Int) := by omega
                have j2 : (0 : Int) < (m : Int) := by omega
                clear eD eD2
                generalize bts H2[0] = A at *
                generalize cnt zs 0 = z at *
                go_upto_region 30 with fail
                go_quiet (fail)
                go_wp2
                go_meet
                case rel => exact ⟨rfl, by first | exact ⟨_, rfl⟩ | exact ⟨_, drewN_add _ _ _⟩⟩
            case rest =>
              obtain ⟨rfl, q2, rfl⟩ := hcut
              go_upto_region 35 with fail
              go_quiet (fail)
              go_wp2
              go_roundg (m + 1 - 1)
              case measure => omega
              case rel => exact ⟨1, by omega, by omega, rfl, by first | exact ⟨_, rfl⟩ | exact ⟨_, drewN_add _ _ _⟩⟩
          | succ j =>
            have k1 : (0 : Int) ≤ ((j : Int) + 1) := by omega
            have k2 : ((j : Int) + 1) < (m : Int) + 1 := by omega
            have k3 : ((j : Int) + 1) ≤ (m : Int) := by omega
            go_upto_block 4 with fail
            go_cut [20] from 114 to 205 (fun s20 wx => s20 = .int .i64 ((j : Int) + 1) ∧ ∃ q, wx = W11.drewN q)
            case first =>
              rcases Nat.lt_trichotomy (j + 1) i with hki | hki | hki
              · have hkD : (j + 1) < D.length := by omega
                have eD : H2[(j + 1)]? = D[(j + 1)]? := by rw [HHD.out]; exact ins_lo hki hil2
                have eD2 : H2[(j + 1)] = D[(j + 1)] := by simpa [hkl, hkD] using eD
                have s0 : W11.cell? ⟨sg, (j + 1), none⟩ = some (.string (bts H2[(j + 1)])) := HS11.out.at_ (j + 1) _ (by rw [eD2]; simp [hkD]; rfl)
                have g0 : W11.cell? ⟨g2, (j + 1), none⟩ = some (.int .u64 (cnt zs (j + 1))) := HRC2.out.at_ (j + 1) _ ((ins_lo hki hic).trans (cnts_at zs m (j + 1) (by omega)))
                have p0 : W11.cell? ⟨pg, (j + 1), none⟩ = some (.int .u64 (cnt zs (j + 1))) := HP11.out.at_ (j + 1) _ (cnts_at zs m (j + 1) (by omega))
                have j1 : ((j : Int) + 1) < (i : Int) := by omega
                have j2 : ((j : Int) + 1) < (m : Int) := by omega
                clear eD eD2
                generalize bts H2[(j + 1)] = A at *
                generalize cnt zs (j + 1) = z at *
                go_upto_region 30 with fail
                go_quiet (fail)
                go_wp2
                go_meet
                case rel => exact ⟨rfl, by first | exact ⟨_, rfl⟩ | exact ⟨_, drewN_add _ _ _⟩⟩
              · have eD : H2[(j + 1)]? = some x.toList := by rw [HHD.out, hki]; exact ins_at hil2
                have eD2 : H2[(j + 1)] = x.toList := by simpa [hkl] using eD
                have g0 : W11.cell? ⟨g2, (j + 1), none⟩ = some (.int .u64 y) := HRC2.out.at_ (j + 1) _ (by rw [hki]; exact ins_at hic)
                rw [eD2, bts_toList] at a0
                have j1 : ¬ (((j : Int) + 1) < (i : Int)) := by omega
                have j1' : (((j : Int) + 1) == (i : Int)) = true := by simp; omega
                have Hhk := hide hki
                clear eD eD2 hki
                go_wp2
                go_meet
                case rel => exact ⟨rfl, _, rfl⟩
              · have hjD : j < D.length := by have := HDn.out; omega
                have eD : H2[j + 1]? = D[j]? := by rw [HHD.out]; exact ins_hi (by omega) hil2
                have eD2 : H2[j + 1] = D[j] := by simpa [hkl, hjD] using eD
                have s0 : W11.cell? ⟨sg, j, none⟩ = some (.string (bts H2[j + 1])) := HS11.out.at_ j _ (by rw [eD2]; simp [hjD]; rfl)
                have g0 : W11.cell? ⟨g2, j + 1, none⟩ = some (.int .u64 (cnt zs j)) := HRC2.out.at_ (j + 1) _ ((ins_hi (by omega) hic).trans (cnts_at zs m j (by omega)))
                have p0 : W11.cell? ⟨pg, j, none⟩ = some (.int .u64 (cnt zs j)) := HP11.out.at_ j _ (cnts_at zs m j (by omega))
                have j1 : ¬ (((j : Int) + 1) < (i : Int)) := by omega
                have j1' : (((j : Int) + 1) == (i : Int)) = false := by simp; omega
                have Hhk := hide hki
                clear hki
                have j2 : (j : Int) < (m : Int) := by omega
                have j3 : (0 : Int) ≤ (j : Int) := by omega
                clear eD eD2
                generalize bts H2[j + 1] = A at *
                generalize cnt zs j = z at *
                go_upto_region 27 with fail
                go_quiet (fail)
                go_wp2
                go_meet
                case rel => exact ⟨rfl, by first | exact ⟨_, rfl⟩ | exact ⟨_, drewN_add _ _ _⟩⟩
            case rest =>
              obtain ⟨rfl, q2, rfl⟩ := hcut
              have hjl : j < H2.length := by omega
              have b0 := HAT.out j hjl
              have hlt2 : Op.bytesLess (bts H2[j]).toList (bts H2[j + 1]).toList = true := by
                rw [bytesLess_eq]
                have := List.pairwise_iff_getElem.1 HLT.out j (j + 1) hjl hkl (by omega)
                simp only [decide_eq_true_eq]
                unfold bts
                rw [str_toList, str_toList]
                exact this
              have j2 : (j : Int) < (m : Int) + 1 := by omega
              have j3 : (0 : Int) ≤ (j : Int) := by omega
              have j4 : (0 : Int) < (j : Int) + 1 := by omega
              generalize bts H2[j] = B at *
              generalize bts H2[j + 1] = A at *
              go_upto_region 35 with fail
              go_quiet (fail)
              go_wp2
              go_roundg (m + 1 - (j + 1 + 1))
              case measure => omega
              case rel => exact ⟨j + 1 + 1, by omega, by omega, by go_num, by first | exact ⟨_, rfl⟩ | exact ⟨_, drewN_add _ _ _⟩⟩
        · clear HRH HRC2 HLT HP11
          have hk1 : ¬ ((k : Int) ≤ (m : Int)) := by omega
          cases own
          · have hE := equalS w.heap.size sg (L.length + 4) sc D (W11.drewN q) (by have := HDn.out; omega) ((HH11.out rfl).same rfl) (HS11.out.same rfl)
            rw [HDn.out] at hE
            have HE := hide hE
            clear hE
            go_wp2_with fail
            refine HE.out.mono ?_
            rintro e W12 ⟨rfl, q3, rfl⟩
            go_wp2
            go_ret
            exact ⟨rfl, by first | exact below_drewN HB11.out _ | exact below_drewN (below_drewN HB11.out _) _⟩
          · have HF : Hid (Below w.heap.size w (W11.drewN q)) := below_drewN HB11.out q
            go_wp2
            go_ret
            exact ⟨rfl, HF.out⟩
end Go.Proofs.Ybulkbbay
