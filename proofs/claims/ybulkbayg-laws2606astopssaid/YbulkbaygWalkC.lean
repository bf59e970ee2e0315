/-
  walkStringLists: yield is the closure of LawS2606AStops.
-/
import Derived.Test.YbulkbaygWalkPre
namespace Go.Proofs.Ybulkbayg
open Go.RowKit

set_option maxHeartbeats 4000000 in
set_option maxRecDepth 100000 in
/-- Within a block. -/
theorem sub_walkC (gb tb : Nat) (S0 : World) (mb : Nat) (K : Nat → Int) (hK : Kinds S0 mb 12 K) (N : Nat) (J Jx : List Item → World → Prop) (hA : ∀ xs W n, J xs W → J xs (World.drewN W n))
    (hY : ∀ pre x W, J pre W → pre.length < N → Calls Yba.prog 11 #[x.agg, .pointer (some ⟨gb, 0, none⟩), .pointer (some ⟨tb, 0, none⟩)] W fun e W' => ∃ r : Bool, e = .returned (.bool r) ∧ Hid ((r = true → J (pre ++ [x]) W' ∧ Below S0.heap.size W W') ∧ (r = false → Jx (pre ++ [x]) W')))
    (b : Nat) (hb : b < 3) (sb : Nat) (ss : List SubN) (hrow : RowIn S0 sb ss) (pre : List Item) (W : World) (hW : Below S0.heap.size S0 W) (hJ : J pre W) (hN : pre.length + (subItems K b ss).length ≤ N) :
    Calls Yba.prog 20 #[.slice (some ⟨sb, 0, none⟩) ss.length ss.length, .string (nameOf b), .map (some mb), (.func (.func 11) #[] #[.pointer (some ⟨gb, 0, none⟩), .pointer (some ⟨tb, 0, none⟩)])] W fun e W' => ∃ r : Bool, e = .returned (.bool r) ∧
      Hid ((r = true → J (pre ++ subItems K b ss) W' ∧ Below S0.heap.size S0 W') ∧ (r = false → ∃ q, q <+: subItems K b ss ∧ Jx (pre ++ q) W')) := by
  have HK := hide hK
  have HR := hide hrow
  have HY := hide hY
  have HJ := hide hJ
  have HA := hide hA
  have HW := hide hW
  have hs256 := hrow.le
  clear hK hrow hY hJ hW hA
  have ne := ne_empty b
  have t1 := as35_yes
  have t2 := as35_nil
  have t3 := as35_80
  have t4 := as35_83
  have t5 := as35_65
  have t6 := as65_yes
  have t7 := as65_nil
  have t8 := as65_80
  have t9 := as65_83
  have t10 := as65_35
  go_enter Yba.func20, Yba.ntmps20
  go_wp2_with fail
  go_loopg [18] ss.length (fun g s18 wr => ∃ k : Nat, k ≤ ss.length ∧ ss.length - k ≤ g ∧ s18 = .int .i64 k ∧ Hid (J (pre ++ subItems K b (ss.take k)) wr) ∧ Hid (Below S0.heap.size S0 wr))
  case atStart => exact ⟨0, Nat.zero_le _, by omega, rfl, by simpa [subItems] using HJ, HW⟩
  case round =>
    obtain ⟨k, hk, hg, rfl, HJk, HB⟩ := hrel
    obtain ⟨W0, e0⟩ : ∃ W0, W0 = wr := ⟨wr, rfl⟩
    subst e0
    by_cases hlt : k < ss.length
    · have HIT := hide (subItems_take K b ss k hlt)
      have HPRE := hide (subItems_pre K b ss (k + 1))
      have HLE : Hid ((subItems K b (ss.take (k + 1))).length ≤ (subItems K b ss).length) := HPRE.out.length_le
      have c0 : W0.cell? ⟨sb, k, none⟩ = some (ptr ss[k].p) := (HB.out.cell (p := ⟨sb, k, none⟩) (lt_of_heap HR.out.row)).trans ((cell_of_heap HR.out.row k).trans (by simp [subPtrs, hlt]))
      have HS := hide (HR.out.subs ss[k] (List.getElem_mem hlt))
      have hsn := HS.out.1
      obtain ⟨v, HH, HV⟩ : ∃ v, Hid (S0.heap[ss[k].p]? = some (.cells (propCells ss[k].n v) 71 (0, 0))) ∧ Hid (SubVal S0 v ss[k].l) := HS.out.2
      generalize ss[k] = s at *
      have hpl := lt_of_heap HH.out
      have c1 : W0.cell? ⟨s.p, 0, none⟩ = some (.string (nameOf s.n)) := (HB.out.cell (p := ⟨s.p, 0, none⟩) hpl).trans ((cell_of_heap HH.out 0).trans rfl)
      have c2 : W0.cell? ⟨s.p, 4, none⟩ = some v := (HB.out.cell (p := ⟨s.p, 4, none⟩) hpl).trans ((cell_of_heap HH.out 4).trans rfl)
      have hlook := (HK.out.below HB.out).look (3 + 3 * b + s.n) (by omega)
      obtain ⟨ki, HKI⟩ : ∃ ki, Hid (K (3 + 3 * b + s.n) = ki) := ⟨_, rfl⟩
      rw [HKI.out] at hlook
      unfold ptr at c0
      go_wp2_with fail
      refine (path_sub b s.n hb hsn _).mono ?_
      rintro e w' ⟨rfl, hw⟩
      obtain rfl : W0 = w' := hw.symm
      go_upto_if 31 with fail
      clear hlook c0
      go_cut [31, 30, 18] from 18 to 91 (fun s31 s30 s18 wx => s31 = .bool (listKind ki) ∧ s30 = .int .i64 ki ∧ s18 = .int .i64 k ∧ wx = W0)
      case first =>
        cases h3 : ki == 3
        · have h56 := listKind_5 h3
          cases h5 : ki == 5
          · have H := hide (h56.trans (by rw [h5]; rfl) : listKind ki = (ki == 6))
            clear h56
            go_wp2
            go_meet
            case rel => exact ⟨congrArg Value.bool H.out.symm, rfl, rfl, rfl⟩
          · have H := hide (h56.trans (by rw [h5]; rfl) : listKind ki = true)
            clear h56
            go_wp2
            go_meet
            case rel => exact ⟨congrArg Value.bool H.out.symm, rfl, rfl, rfl⟩
        · have H : Hid (listKind ki = true) := by show _ = _; unfold listKind; rw [h3]; rfl
          go_wp2
          go_meet
          case rel => exact ⟨congrArg Value.bool H.out.symm, rfl, rfl, rfl⟩
      case rest =>
        obtain ⟨rfl, rfl, rfl, hw⟩ := hcut
        obtain rfl : W0 = wc := hw.symm
        cases hlk : listKind ki
        · have HSN : Hid (subItem K b s = []) := subItem_kind (by rw [HKI.out]; exact hlk)
          clear hlk
          cases h7 : ki == 7
          · go_wp2
            go_roundg (ss.length - (k + 1))
            case measure => omega
            case rel => exact ⟨k + 1, by omega, by omega, by go_num, (by show J _ _; rw [HIT.out, HSN.out, List.append_nil]; exact HJk.out), HB⟩
          · rcases HV.out.split with ⟨lb, all, hl, rfl, _⟩ | ⟨hl, (rfl | ⟨q, rfl⟩ | ⟨q, rfl⟩ | ⟨q, rfl⟩)⟩
            all_goals
              clear hl
              go_upto_region 14 with fail
              go_quiet (fail)
              go_wp2
              go_roundg (ss.length - (k + 1))
              case measure => omega
              case rel => exact ⟨k + 1, by omega, by omega, by go_num, (by show J _ _; rw [HIT.out, HSN.out, List.append_nil]; exact HA.out _ _ _ HJk.out), below_drewN HB.out _⟩
        · rcases HV.out.split with ⟨lb, all, hl, rfl, ⟨es, vb, cs, hes, hall, HL1, HL2, HL3⟩⟩ | ⟨hl, (rfl | ⟨q, rfl⟩ | ⟨q, rfl⟩ | ⟨q, rfl⟩)⟩
          · have l3 : W0.cell? ⟨lb, 3, none⟩ = some (.slice (some ⟨vb, 0, none⟩) es.length es.length) := (HB.out.cell (p := ⟨lb, 3, none⟩) (lt_of_heap HL1)).trans ((cell_of_heap HL1 3).trans rfl)
            have HCF := hide (contains_func vb cs es W0 ((HB.out.block _ (lt_of_heap HL2)).trans HL2) HL3 hes)
            clear HL1 HL2 HL3
            cases all
            · have HSN : Hid (subItem K b s = []) := subItem_other hl
              clear hl hlk
              go_wp2_with fail
              refine HCF.out.mono ?_
              rintro e w' ⟨rfl, hw⟩
              obtain rfl : W0 = w' := hw.symm
              rw [hall]
              go_wp2
              go_roundg (ss.length - (k + 1))
              case measure => omega
              case rel => exact ⟨k + 1, by omega, by omega, by go_num, (by show J _ _; rw [HIT.out, HSN.out, List.append_nil]; exact HJk.out), HB⟩
            · have HSN : Hid (subItem K b s = [⟨nameOf b, s.p, ki, lb⟩]) := by
                have := subItem_list (K := K) (b := b) hl (by rw [HKI.out]; exact hlk)
                rw [HKI.out] at this
                exact this
              have hlen : (pre ++ subItems K b (ss.take k)).length < N := by
                have h1 := HLE.out
                have h2 := HIT.out
                rw [HSN.out] at h2
                rw [h2, List.length_append, List.length_singleton] at h1
                rw [List.length_append]
                omega
              have HRR := hide (HY.out (pre ++ subItems K b (ss.take k)) ⟨nameOf b, s.p, ki, lb⟩ W0 HJk.out hlen)
              clear hl hlk hlen
              go_wp2_with fail
              refine HCF.out.mono ?_
              rintro e w' ⟨rfl, hw⟩
              obtain rfl : W0 = w' := hw.symm
              rw [hall]
              go_wp2_with fail
              refine HRR.out.mono ?_
              clear HRR HCF
              rintro e W1 ⟨r, rfl, HRJ⟩
              cases r
              · have HX : Hid (∃ q, q <+: subItems K b ss ∧ Jx (pre ++ q) W1) := by
                  refine ⟨subItems K b (ss.take (k + 1)), HPRE.out, ?_⟩
                  rw [HIT.out, HSN.out, ← List.append_assoc]
                  exact HRJ.out.2 rfl
                clear HRJ
                go_wp2
                go_ret
                exact ⟨false, rfl, And.intro (fun h => nomatch h) (fun _ => HX.out)⟩
              · have HX := hide (HRJ.out.1 rfl)
                clear HRJ
                go_wp2
                go_roundg (ss.length - (k + 1))
                case measure => omega
                case rel => exact ⟨k + 1, by omega, by omega, by go_num, (by show J _ _; rw [HIT.out, HSN.out, ← List.append_assoc]; exact HX.out.1), HB.out.trans HX.out.2⟩
          all_goals
            have HSN : Hid (subItem K b s = []) := subItem_none hl
            clear hl hlk
            go_wp2
            go_roundg (ss.length - (k + 1))
            case measure => omega
            case rel => exact ⟨k + 1, by omega, by omega, by go_num, (by show J _ _; rw [HIT.out, HSN.out, List.append_nil]; exact HJk.out), HB⟩
    · go_wp2
      go_ret
      refine ⟨true, rfl, And.intro (fun _ => ⟨?_, HB.out⟩) (fun h => nomatch h)⟩
      have : ss.take k = ss := List.take_of_length_le (by omega)
      rw [this] at HJk
      exact HJk.out

set_option maxHeartbeats 4000000 in
set_option maxRecDepth 100000 in
/-- At the top. -/
theorem top_walkC (gb tb : Nat) (S0 : World) (mb : Nat) (K : Nat → Int) (hK : Kinds S0 mb 12 K) (N : Nat) (J Jx : List Item → World → Prop) (hA : ∀ xs W n, J xs W → J xs (World.drewN W n))
    (hY : ∀ pre x W, J pre W → pre.length < N → Calls Yba.prog 11 #[x.agg, .pointer (some ⟨gb, 0, none⟩), .pointer (some ⟨tb, 0, none⟩)] W fun e W' => ∃ r : Bool, e = .returned (.bool r) ∧ Hid ((r = true → J (pre ++ [x]) W' ∧ Below S0.heap.size W W') ∧ (r = false → Jx (pre ++ [x]) W')))
    (va : Option Addr) (vc : Nat) (ts : List TopN) (hts : ts.length ≤ 256) (hrow : ∀ k (h : k < ts.length), ∃ g, va = some ⟨g, 0, none⟩ ∧ g < S0.heap.size ∧ S0.cell? ⟨g, k, none⟩ = some (ptr ts[k].p)) (htop : ∀ t ∈ ts, TopIn S0 t) (pre : List Item) (W : World) (hW : Below S0.heap.size S0 W) (hJ : J pre W) (hN : pre.length + (topItems K ts).length ≤ N) :
    Calls Yba.prog 20 #[.slice va ts.length vc, .string ⟨#[]⟩, .map (some mb), (.func (.func 11) #[] #[.pointer (some ⟨gb, 0, none⟩), .pointer (some ⟨tb, 0, none⟩)])] W fun e W' => ∃ r : Bool, e = .returned (.bool r) ∧
      Hid ((r = true → J (pre ++ topItems K ts) W' ∧ Below S0.heap.size S0 W') ∧ (r = false → ∃ q, q <+: topItems K ts ∧ Jx (pre ++ q) W')) := by
  have HK := hide hK
  have HR := hide hrow
  have HY := hide hY
  have HJ := hide hJ
  have HA := hide hA
  have HW := hide hW
  have HT := hide htop
  clear hK hrow hY hJ hW hA htop
  have t1 := as35_yes
  have t2 := as35_nil
  have t3 := as35_80
  have t4 := as35_83
  have t5 := as35_65
  have t6 := as65_yes
  have t7 := as65_nil
  have t8 := as65_80
  have t9 := as65_83
  have t10 := as65_35
  go_enter Yba.func20, Yba.ntmps20
  go_wp2_with fail
  go_loopg [18] ts.length (fun g s18 wr => ∃ k : Nat, k ≤ ts.length ∧ ts.length - k ≤ g ∧ s18 = .int .i64 k ∧ Hid (J (pre ++ topItems K (ts.take k)) wr) ∧ Hid (Below S0.heap.size S0 wr))
  case atStart => exact ⟨0, Nat.zero_le _, by omega, rfl, by simpa [topItems] using HJ, HW⟩
  case round =>
    obtain ⟨k, hk, hg, rfl, HJk, HB⟩ := hrel
    obtain ⟨W0, e0⟩ : ∃ W0, W0 = wr := ⟨wr, rfl⟩
    subst e0
    by_cases hlt : k < ts.length
    · obtain ⟨g, rfl, hg0, c0'⟩ := HR.out k hlt
      have HIT := hide (topItems_take K ts k hlt)
      have HPRE := hide (topItems_pre K ts (k + 1))
      have HLE : Hid ((topItems K (ts.take (k + 1))).length ≤ (topItems K ts).length) := HPRE.out.length_le
      have c0 : W0.cell? ⟨g, k, none⟩ = some (ptr ts[k].p) := (HB.out.cell (p := ⟨g, k, none⟩) hg0).trans c0'
      have HS := hide (HT.out ts[k] (List.getElem_mem hlt))
      have hsn := HS.out.1
      have HLM := hide HS.out.2.1
      obtain ⟨v, HH, HV⟩ : ∃ v, Hid (S0.heap[ts[k].p]? = some (.cells (propCells ts[k].n v) 71 (0, 0))) ∧ Hid (TopVal S0 v ts[k].l ts[k].m) := HS.out.2.2
      clear c0' hg0
      generalize ts[k] = s at *
      have hpl := lt_of_heap HH.out
      have c1 : W0.cell? ⟨s.p, 0, none⟩ = some (.string (nameOf s.n)) := (HB.out.cell (p := ⟨s.p, 0, none⟩) hpl).trans ((cell_of_heap HH.out 0).trans rfl)
      have c2 : W0.cell? ⟨s.p, 4, none⟩ = some v := (HB.out.cell (p := ⟨s.p, 4, none⟩) hpl).trans ((cell_of_heap HH.out 4).trans rfl)
      have hlook := (HK.out.below HB.out).look s.n (by omega)
      obtain ⟨ki, HKI⟩ : ∃ ki, Hid (K s.n = ki) := ⟨_, rfl⟩
      rw [HKI.out, ← keyAt_lo s.n hsn, Nat.mod_eq_of_lt hsn] at hlook
      unfold ptr at c0
      go_wp2_with fail
      refine (path_top (nameOf s.n) _).mono ?_
      rintro e w' ⟨rfl, hw⟩
      obtain rfl : W0 = w' := hw.symm
      go_upto_if 31 with fail
      clear hlook c0
      go_cut [31, 30, 18] from 18 to 91 (fun s31 s30 s18 wx => s31 = .bool (listKind ki) ∧ s30 = .int .i64 ki ∧ s18 = .int .i64 k ∧ wx = W0)
      case first =>
        cases h3 : ki == 3
        · have h56 := listKind_5 h3
          cases h5 : ki == 5
          · have H := hide (h56.trans (by rw [h5]; rfl) : listKind ki = (ki == 6))
            clear h56
            go_wp2
            go_meet
            case rel => exact ⟨congrArg Value.bool H.out.symm, rfl, rfl, rfl⟩
          · have H := hide (h56.trans (by rw [h5]; rfl) : listKind ki = true)
            clear h56
            go_wp2
            go_meet
            case rel => exact ⟨congrArg Value.bool H.out.symm, rfl, rfl, rfl⟩
        · have H : Hid (listKind ki = true) := by show _ = _; unfold listKind; rw [h3]; rfl
          go_wp2
          go_meet
          case rel => exact ⟨congrArg Value.bool H.out.symm, rfl, rfl, rfl⟩
      case rest =>
        obtain ⟨rfl, rfl, rfl, hw⟩ := hcut
        obtain rfl : W0 = wc := hw.symm
        cases hlk : listKind ki
        · cases h7 : ki == 7
          · have HSN : Hid (topItem K s = []) := topI_kind (by rw [HKI.out]; exact hlk) (by rw [HKI.out]; simpa using h7)
            clear hlk
            go_wp2
            go_roundg (ts.length - (k + 1))
            case measure => omega
            case rel => exact ⟨k + 1, by omega, by omega, by go_num, (by show J _ _; rw [HIT.out, HSN.out, List.append_nil]; exact HJk.out), HB⟩
          · have HK7 : Hid (K s.n = 7) := HKI.out.trans (by simpa using h7)
            clear hlk
            rcases HV.out.split with ⟨lb, all, hl, rfl, _⟩ | ⟨hl, (⟨sb, ss, bb, hm, rfl, HM, HRI⟩ | ⟨hm, (rfl | ⟨q, rfl⟩ | ⟨q, rfl⟩)⟩)⟩
            case inr.inl =>
              have HSN := hide (topI_blk HK7.out hm)
              have m3 : W0.cell? ⟨bb, 3, none⟩ = some (.slice (some ⟨sb, 0, none⟩) ss.length ss.length) := (HB.out.cell (p := ⟨bb, 3, none⟩) (lt_of_heap HM)).trans ((cell_of_heap HM 3).trans rfl)
              have HRW := hide HRI
              have hlen : (pre ++ topItems K (ts.take k)).length + (subItems K s.n ss).length ≤ N := by
                have h1 := HLE.out
                rw [HIT.out, HSN.out, List.length_append] at h1
                rw [List.length_append]
                omega
              have HSW := hide (sub_walkC gb tb S0 mb K HK.out N J Jx HA.out HY.out s.n hsn sb ss HRI (pre ++ topItems K (ts.take k)) W0.drew HB.out.drew (HA.out _ _ 1 HJk.out) hlen)
              clear HM HRI hlen hl hm
              go_upto_region 14 with fail
              refine wp_region_any (by kernel_rfl) ?_
              change wpAny _ _ _ _ _ _ _ (World.drew _)
              refine wpAny_take (i := 0) (v := (.bool true)) rfl (by kernel_rfl) (by kernel_rfl) (by kernel_rfl) (fun _ _ _ h => h) (Or.inl ⟨by rfl, by intro w; rfl⟩) ?_
              go_simp
              refine wpAny_take (i := 1) (v := (.bool true)) rfl (by kernel_rfl) (by kernel_rfl) (by kernel_rfl) (fun _ _ _ h => h) (Or.inl ⟨by rfl, by intro w; rfl⟩) ?_
              go_simp
              refine wpAny_take (i := 2) (v := (.string ⟨#[]⟩)) rfl (by kernel_rfl) (by kernel_rfl) (by kernel_rfl) (fun _ _ _ h => h) (Or.inl ⟨by rfl, by intro w; rfl⟩) ?_
              go_simp
              refine wpAny_take (i := 3) (v := (.bool true)) rfl (by kernel_rfl) (by kernel_rfl) (by kernel_rfl) (fun _ _ _ h => h) (Or.inl ⟨by rfl, by intro w; go_simp⟩) ?_
              go_simp
              refine wpAny_take (i := 4) (v := (.bool true)) rfl (by kernel_rfl) (by kernel_rfl) (by kernel_rfl) (fun _ _ _ h => h) (Or.inl ⟨by rfl, by intro w; rfl⟩) ?_
              go_simp
              refine wpAny_take (i := 5) (v := (.bool true)) rfl (by kernel_rfl) (by kernel_rfl) (by kernel_rfl) (fun _ _ _ h => h) (Or.inl ⟨by rfl, by intro w; rfl⟩) ?_
              go_simp
              refine wpAny_take (i := 6) (v := (.pointer (some ⟨bb, 0, none⟩))) rfl (by kernel_rfl) (by kernel_rfl) (by kernel_rfl) (fun _ _ _ h => h) (Or.inl ⟨by rfl, by intro w; rfl⟩) ?_
              go_simp
              refine wpAny_take (i := 7) (v := (.pointer (some ⟨bb, 0, none⟩))) rfl (by kernel_rfl) (by kernel_rfl) (by kernel_rfl) (fun _ _ _ h => h) (Or.inl ⟨by rfl, by intro w; go_simp⟩) ?_
              go_simp
              refine wpAny_take (i := 8) (v := (.pointer (some ⟨bb, 3, none⟩))) rfl (by kernel_rfl) (by kernel_rfl) (by kernel_rfl) (fun _ _ _ h => h) (Or.inl ⟨by rfl, by intro w; go_simp⟩) ?_
              go_simp
              refine wpAny_take (i := 10) (v := (.pointer (some ⟨s.p, 0, none⟩))) rfl (by kernel_rfl) (by kernel_rfl) (by kernel_rfl) (fun _ _ _ h => h) (Or.inl ⟨by rfl, by intro w; rfl⟩) ?_
              go_simp
              refine wpAny_take (i := 11) (v := (.pointer (some ⟨s.p, 0, none⟩))) rfl (by kernel_rfl) (by kernel_rfl) (by kernel_rfl) (fun _ _ _ h => h) (Or.inl ⟨by rfl, by intro w; go_simp⟩) ?_
              go_simp
              refine wpAny_take (i := 12) (v := (.pointer (some ⟨s.p, 0, none⟩))) rfl (by kernel_rfl) (by kernel_rfl) (by kernel_rfl) (fun _ _ _ h => h) (Or.inl ⟨by rfl, by intro w; go_simp⟩) ?_
              go_simp
              refine wpAny_take (i := 14) (v := (.map (some mb))) rfl (by kernel_rfl) (by kernel_rfl) (by kernel_rfl) (fun _ _ _ h => h) (Or.inl ⟨by rfl, by intro w; rfl⟩) ?_
              go_simp
              refine wpAny_take (i := 15) (v := (.func (.func 11) #[] #[.pointer (some ⟨gb, 0, none⟩), .pointer (some ⟨tb, 0, none⟩)])) rfl (by kernel_rfl) (by kernel_rfl) (by kernel_rfl) (fun _ _ _ h => h) (Or.inl ⟨by rfl, by intro w; rfl⟩) ?_
              go_simp
              refine wpAny_ready (rs := [9, 13]) (by kernel_rfl) (by simp) ?_
              refine AllReady.cons rfl (fun K hK => ?_) (AllReady.cons rfl (fun K hK => ?_) AllReady.nil)
              · go_simp
                refine hK _ _ ?_
                clear hK K
                go_simp
                refine wpAny_ready (rs := [13]) (by kernel_rfl) (by simp) ?_
                refine AllReady.cons rfl (fun K hK => ?_) AllReady.nil
                go_simp
                refine hK _ _ ?_
                clear hK K
                go_simp
                refine wpAny_ready (rs := [16]) (by kernel_rfl) (by simp) ?_
                refine AllReady.cons rfl (fun K hK => ?_) AllReady.nil
                go_simp
                refine HSW.out.mono ?_
                clear HSW
                rintro e W1 ⟨r, rfl, HRJ⟩
                refine hK _ _ ?_
                clear hK K
                go_simp
                refine wpAny_take (i := 17) (v := (.bool (!r))) rfl (by kernel_rfl) (by kernel_rfl) (by kernel_rfl) (fun _ _ _ h => h) (Or.inl ⟨by rfl, by intro w; rfl⟩) ?_
                go_simp
                refine wpAny_take (i := 18) (v := (.bool (!r))) rfl (by kernel_rfl) (by kernel_rfl) (by kernel_rfl) (fun _ _ _ h => h) (Or.inl ⟨by rfl, by intro w; rfl⟩) ?_
                go_simp
                refine wpAny_done (by kernel_rfl) ?_ _
                go_simp
                cases r
                · have HX : Hid (∃ q, q <+: topItems K ts ∧ Jx (pre ++ q) W1) := by
                    obtain ⟨q, ⟨q2, hq⟩, hj⟩ := HRJ.out.2 rfl
                    refine ⟨topItems K (ts.take k) ++ q, ?_, by rw [← List.append_assoc]; exact hj⟩
                    refine List.IsPrefix.trans ⟨q2, ?_⟩ HPRE.out
                    rw [HIT.out, HSN.out, List.append_assoc, hq]
                  clear HRJ
                  go_wp2
                  go_ret
                  exact Or.inl ⟨rfl, HX⟩
                · have HX := hide (HRJ.out.1 rfl)
                  clear HRJ
                  go_wp2
                  go_roundg (ts.length - (k + 1))
                  case measure => omega
                  case rel => exact ⟨k + 1, by omega, by omega, by go_num, (by show J _ _; rw [HIT.out, HSN.out, ← List.append_assoc]; exact HX.out.1), HX.out.2⟩
              · go_simp
                refine hK _ _ ?_
                clear hK K
                go_simp
                refine wpAny_ready (rs := [9]) (by kernel_rfl) (by simp) ?_
                refine AllReady.cons rfl (fun K hK => ?_) AllReady.nil
                go_simp
                refine hK _ _ ?_
                clear hK K
                go_simp
                refine wpAny_ready (rs := [16]) (by kernel_rfl) (by simp) ?_
                refine AllReady.cons rfl (fun K hK => ?_) AllReady.nil
                go_simp
                refine HSW.out.mono ?_
                clear HSW
                rintro e W1 ⟨r, rfl, HRJ⟩
                refine hK _ _ ?_
                clear hK K
                go_simp
                refine wpAny_take (i := 17) (v := (.bool (!r))) rfl (by kernel_rfl) (by kernel_rfl) (by kernel_rfl) (fun _ _ _ h => h) (Or.inl ⟨by rfl, by intro w; rfl⟩) ?_
                go_simp
                refine wpAny_take (i := 18) (v := (.bool (!r))) rfl (by kernel_rfl) (by kernel_rfl) (by kernel_rfl) (fun _ _ _ h => h) (Or.inl ⟨by rfl, by intro w; rfl⟩) ?_
                go_simp
                refine wpAny_done (by kernel_rfl) ?_ _
                go_simp
                cases r
                · have HX : Hid (∃ q, q <+: topItems K ts ∧ Jx (pre ++ q) W1) := by
                    obtain ⟨q, ⟨q2, hq⟩, hj⟩ := HRJ.out.2 rfl
                    refine ⟨topItems K (ts.take k) ++ q, ?_, by rw [← List.append_assoc]; exact hj⟩
                    refine List.IsPrefix.trans ⟨q2, ?_⟩ HPRE.out
                    rw [HIT.out, HSN.out, List.append_assoc, hq]
                  clear HRJ
                  go_wp2
                  go_ret
                  exact Or.inl ⟨rfl, HX⟩
                · have HX := hide (HRJ.out.1 rfl)
                  clear HRJ
                  go_wp2
                  go_roundg (ts.length - (k + 1))
                  case measure => omega
                  case rel => exact ⟨k + 1, by omega, by omega, by go_num, (by show J _ _; rw [HIT.out, HSN.out, ← List.append_assoc]; exact HX.out.1), HX.out.2⟩
            all_goals
              have HSN : Hid (topItem K s = []) := topI_free HK7.out (by first | exact HLM.out _ hl | exact hm)
              clear hl
              try clear hm
              go_upto_region 14 with fail
              go_quiet (fail)
              go_wp2
              go_roundg (ts.length - (k + 1))
              case measure => omega
              case rel => exact ⟨k + 1, by omega, by omega, by go_num, (by show J _ _; rw [HIT.out, HSN.out, List.append_nil]; exact HA.out _ _ _ HJk.out), below_drewN HB.out _⟩
        · rcases HV.out.split with ⟨lb, all, hl, rfl, ⟨es, vb, cs, hes, hall, HL1, HL2, HL3⟩⟩ | ⟨hl, (⟨sb, ss, bb, _, rfl, _, _⟩ | ⟨_, (rfl | ⟨q, rfl⟩ | ⟨q, rfl⟩)⟩)⟩
          · have l3 : W0.cell? ⟨lb, 3, none⟩ = some (.slice (some ⟨vb, 0, none⟩) es.length es.length) := (HB.out.cell (p := ⟨lb, 3, none⟩) (lt_of_heap HL1)).trans ((cell_of_heap HL1 3).trans rfl)
            have HCF := hide (contains_func vb cs es W0 ((HB.out.block _ (lt_of_heap HL2)).trans HL2) HL3 hes)
            clear HL1 HL2 HL3
            cases all
            · have HSN : Hid (topItem K s = []) := topI_other (by rw [HKI.out]; exact hlk) hl
              clear hl hlk
              go_wp2_with fail
              refine HCF.out.mono ?_
              rintro e w' ⟨rfl, hw⟩
              obtain rfl : W0 = w' := hw.symm
              rw [hall]
              go_wp2
              go_roundg (ts.length - (k + 1))
              case measure => omega
              case rel => exact ⟨k + 1, by omega, by omega, by go_num, (by show J _ _; rw [HIT.out, HSN.out, List.append_nil]; exact HJk.out), HB⟩
            · have HSN : Hid (topItem K s = [⟨⟨#[]⟩, s.p, ki, lb⟩]) := by
                have := topI_list (K := K) (by rw [HKI.out]; exact hlk) hl
                rw [HKI.out] at this
                exact this
              have hlen : (pre ++ topItems K (ts.take k)).length < N := by
                have h1 := HLE.out
                have h2 := HIT.out
                rw [HSN.out] at h2
                rw [h2, List.length_append, List.length_singleton] at h1
                rw [List.length_append]
                omega
              have HRR := hide (HY.out (pre ++ topItems K (ts.take k)) ⟨⟨#[]⟩, s.p, ki, lb⟩ W0 HJk.out hlen)
              clear hl hlk hlen
              go_wp2_with fail
              refine HCF.out.mono ?_
              rintro e w' ⟨rfl, hw⟩
              obtain rfl : W0 = w' := hw.symm
              rw [hall]
              go_wp2_with fail
              refine HRR.out.mono ?_
              clear HRR HCF
              rintro e W1 ⟨r, rfl, HRJ⟩
              cases r
              · have HX : Hid (∃ q, q <+: topItems K ts ∧ Jx (pre ++ q) W1) := by
                  refine ⟨topItems K (ts.take (k + 1)), HPRE.out, ?_⟩
                  rw [HIT.out, HSN.out, ← List.append_assoc]
                  exact HRJ.out.2 rfl
                clear HRJ
                go_wp2
                go_ret
                exact ⟨false, rfl, And.intro (fun h => nomatch h) (fun _ => HX.out)⟩
              · have HX := hide (HRJ.out.1 rfl)
                clear HRJ
                go_wp2
                go_roundg (ts.length - (k + 1))
                case measure => omega
                case rel => exact ⟨k + 1, by omega, by omega, by go_num, (by show J _ _; rw [HIT.out, HSN.out, ← List.append_assoc]; exact HX.out.1), HB.out.trans HX.out.2⟩
          all_goals
            have HSN : Hid (topItem K s = []) := topI_none (by rw [HKI.out]; exact hlk) hl
            clear hl hlk
            go_wp2
            go_roundg (ts.length - (k + 1))
            case measure => omega
            case rel => exact ⟨k + 1, by omega, by omega, by go_num, (by show J _ _; rw [HIT.out, HSN.out, List.append_nil]; exact HJk.out), HB⟩
    · go_wp2
      go_ret
      refine ⟨true, rfl, And.intro (fun _ => ⟨?_, HB.out⟩) (fun h => nomatch h)⟩
      have : ts.take k = ts := List.take_of_length_le (by omega)
      rw [this] at HJk
      exact HJk.out

end Go.Proofs.Ybulkbayg
