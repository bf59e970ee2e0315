/-
  LawS2603BTake: the group is a prefix of names; the index is looked up and found
-/
import Derived.Test.YbulkbawqPre
import Derived.Deep.DeepCutAuto
namespace Go.Proofs.Ybulkbawq
open Go.RowKit

set_option maxHeartbeats 4000000 in
set_option maxRecDepth 100000 in
theorem law_found (gv ev : Value) (G E : List ByteArray) (pre : Bool) (r : Int) (nm : ByteArray) (w : World) (hG : ArgStrs w gv G) (hE : ArgStrs w ev E) (lg : G.length ≤ 1024) (le : E.length ≤ 1024) (hr1 : -128 ≤ r) (hr2 : r ≤ 127)
    (hl : G.length ≤ (pfx pre G ++ E).length) (hcase : (pfx pre G ++ E).take G.length = G) (hrn : r < 0) (hi : ¬ Lib.idxOfS (pfx pre G ++ E) nm < 0) :
    Calls Yba.prog 3 #[gv, ev, .bool pre, .int .i8 r, .string nm] w fun e w' => e = .returned (.bool true) ∧ Below w.heap.size w w' := by
  obtain ⟨ga, gc, eg⟩ := hG.mem
  obtain ⟨ea, ec, ee⟩ := hE.mem
  subst eg ee
  obtain ⟨NS, hNS⟩ : ∃ NS, pfx pre G ++ E = NS := ⟨_, rfl⟩
  rw [hNS] at hcase hl hi
  have HNS := hide hNS
  have HX := hide hcase
  clear hNS hcase
  have HRN := hide hrn
  have HI := hide hi
  clear hrn hi
  have hmk := run_make_row' (P := Yba.prog) 22 9 (.string ByteArray.empty) 16 Yba.underlying22 info9 rfl .i64 .i64 G.length (by omega) (by omega) w
  obtain ⟨v1, w1, hcp, hH1, hb1, hs1⟩ := copy_strs w _ G hG 3
  have lp := pfx_le pre G
  have HG := hide hG
  have HE := hide hE
  have HH1 := hide hH1
  have HB1 := hide hb1
  have HS1 := hide hs1
  clear hG hE hH1 hb1 hs1
  have hd1 : ¬ (1024 : Int) < G.length := by omega
  have hd2 : ¬ (1024 : Int) < E.length := by omega
  go_enter Yba.func3, Yba.ntmps3
  go_upto_if 35 with fail
  go_cut [12] (fun s12 wc => ∃ na nc, s12 = .slice na (pfx pre G).length nc ∧ Hid (wc.ownsRow (w.heap.size + 1) 9 1 (.slice na (pfx pre G).length nc) (pfx pre G).length ((pfx pre G).map Value.string)) ∧ Hid (Below (w.heap.size + 1) w1 wc))
  case first =>
    cases pre
    · go_wp2
      go_meet
      case rel => exact ⟨none, 0, rfl, World.ownsRow_nil _ _ _ _, Below.refl _ _⟩
    · obtain ⟨v2, w2, ha2, ho2, hb2⟩ := append_strs w1 (w.heap.size + 1) _ _ [] G (World.ownsRow_nil _ _ _ _) (HG.out.below HB1.out) (by have := HS1.out; omega) (by simp; omega) 22
      simp only [List.nil_append] at ho2
      obtain ⟨na2, nc2, rfl⟩ := owns_shape ho2
      have HO2 := hide ho2
      have HB2 := hide hb2
      clear ho2 hb2
      go_wp2_with (at_builtin; refine wpList_append_eq rfl (.tmp 36) (.tmp 37) 22 22 rfl rfl _ _ rfl rfl _ _ ha2 ?_)
      go_meet
      case rel => exact ⟨na2, nc2, rfl, HO2.out, HB2.out⟩
  case rest =>
    obtain ⟨na, nc, rfl, HO, HB⟩ := hcut
    clear hmk hcp
    obtain ⟨v3, w3, ha3, ho3, hb3⟩ := append_strs wc (w.heap.size + 1) _ _ (pfx pre G) E HO.out (HE.out.below (HB1.out.trans (HB.out.mono (by omega)))) (by have := HS1.out; have := HB.out.size; omega) (by omega) 22
    obtain ⟨na3, nc3, rfl⟩ := owns_shape ho3
    have HB3 := hide (HB1.out.trans ((HB.out.trans hb3).mono (by omega)))
    have HC3 := hide (HB.out.trans hb3)
    have HO3 := hide ho3
    clear ho3 hb3 HO HB
    go_upto_if 43 with (at_builtin; refine wpList_append_eq rfl (.tmp 39) (.tmp 40) 22 22 rfl rfl _ _ rfl rfl _ _ ha3 ?_)
    clear ha3
    go_cut [13] (fun s13 wc => s13 = .int .i64 (selfOf r) ∧ wc = w3)
    case first =>
      by_cases hr0 : 0 ≤ r
      · go_wp2
        all_goals
          go_meet
          case rel => exact ⟨by simp [selfOf, hr0], rfl⟩
      · go_wp2
        all_goals
          go_meet
          case rel => exact ⟨by have hq : ¬ 0 ≤ r := by omega
                                simp [selfOf, hq], rfl⟩
    case rest =>
      obtain ⟨rfl, hw3⟩ := hcut
      subst hw3
      have hlen : (pfx pre G).length + E.length = NS.length := by rw [← HNS.out, List.length_append]
      have hNb : NS.length ≤ 2048 := by omega
      go_upto_region 12 with fail
      rw [hlen]
      rw [HNS.out] at HO3
      clear hlen lp
      apply wp_region_lit
      refine wpList_move_gen rfl (.tmp 11) rfl _ rfl ?_
      refine wpList_move_gen rfl (.tmp 13) rfl _ rfl ?_
      refine wpList_move_gen rfl (.tmp 4) rfl _ rfl ?_
      refine wpList_build_gen rfl 80 (.tmp 46) (.tmp 47) (.tmp 48) rfl _ _ _ rfl rfl rfl _ (build_member (some ⟨w.heap.size, 0, none⟩) G.length G.length (selfOf r) nm _) ?_
      go_upto_region 13 with fail
      have HR := hide (ready_of (sf := selfOf r) (nm := nm) HG.out HH1.out HS1.out HB3.out HC3.out HO3.out)
      clear HG HE HH1 HB1 HS1 HB3 HC3 HO3 HNS
      generalize (memAt (.slice (some ⟨w.heap.size, 0, none⟩) G.length G.length) (.int .i64 (selfOf r)) (.string nm)) = f at HR
      generalize (World.alloc _ (.cells (memCells (.slice (some ⟨w.heap.size, 0, none⟩) G.length G.length) (.int .i64 (selfOf r)) (.string nm)) 80)) = wm at *
      generalize wc.heap.size = mb at *

      have k1 : wm.cell? ⟨mb, 1, none⟩ = some (.int .i64 (selfOf r)) := (HR.out.mem.cell 1 (by decide)).trans (congrArg some HR.out.f1)
      have k0 : wm.cell? ⟨mb, 0, none⟩ = some (.slice (some ⟨w.heap.size, 0, none⟩) G.length G.length) := (HR.out.mem.cell 0 (by decide)).trans (congrArg some HR.out.f0)
      have hd : decide (G.length ≤ NS.length) = true := by simp; omega
      go_upto_if 56 with fail
      go_cut [15] (fun s15 wc => s15 = .bool true ∧ ∃ q, wc = wm.drewN q)
      case first =>
        by_cases hg0 : 0 < G.length
        · have mixed : Yba.prog.follows Departure.mixedOrders = true := by kernel_rfl
          obtain ⟨nb, no, rfl, gn⟩ : ∃ b off, na3 = some ⟨b, off, none⟩ ∧ ∀ j, j < NS.length → wm.cell? ⟨b, off + j, none⟩ = some (.string (NS.getD j ByteArray.empty)) := by
            obtain ⟨a, c, e, _, h⟩ := HR.out.names
            cases e
            rcases h with rfl | ⟨b, off, _, rfl, g⟩
            · exfalso; simp only [List.length_nil] at hl; omega
            · exact ⟨b, off, rfl, g⟩
          obtain ⟨gb, go, rfl, gg⟩ : ∃ b off, ga = some ⟨b, off, none⟩ ∧ ∀ j, j < G.length → wm.cell? ⟨b, off + j, none⟩ = some (.string (G.getD j ByteArray.empty)) := by
            obtain ⟨a, c, e, _, h⟩ := HR.out.group
            cases e
            rcases h with rfl | ⟨b, off, _, rfl, g⟩
            · exfalso; simp at hg0
            · exact ⟨b, off, rfl, g⟩
          have GN := hide gn
          have GG := hide gg
          clear gn gg
          go_wp2_with fail
          go_loopg [15, 59] G.length (fun g s15 s59 wr => ∃ k q : Nat, k ≤ G.length ∧ G.length - k ≤ g ∧ s15 = .bool true ∧ s59 = .int .i64 k ∧ wr = wm.drewN q)
          case atStart => exact ⟨0, 0, Nat.zero_le _, by omega, rfl, rfl, rfl⟩
          case round =>
            obtain ⟨k, q, hk, hgk, rfl, rfl, rfl⟩ := hrel
            by_cases hlt : k < G.length
            · have hkn : k < NS.length := by omega
              have g1 := GN.out k (by omega)
              have g2 := GG.out k hlt
              have hxy : NS.getD k ByteArray.empty = G.getD k ByteArray.empty := by
                have := congrArg (fun l : List ByteArray => l.getD k ByteArray.empty) HX.out
                simpa [List.getD, hlt] using this
              rw [hxy] at g1
              clear hxy
              generalize G.getD k ByteArray.empty = x at g1 g2
              go_wp2_with fail
              go_region_o
              go_wp2
              go_roundg (G.length - (k + 1))
              case measure => omega
              case rel => exact ⟨k + 1, q + 1, by omega, by omega, rfl, by go_num, rfl⟩
            · go_wp2
              go_meet
              case rel => exact ⟨rfl, q, rfl⟩
        · have HG0 := hide hg0
          clear hg0
          go_wp2_with fail
          go_loopg [15, 59] G.length (fun g s15 s59 wr => ∃ k q : Nat, k ≤ G.length ∧ G.length - k ≤ g ∧ s15 = .bool true ∧ s59 = .int .i64 k ∧ wr = wm.drewN q)
          case atStart => exact ⟨0, 0, Nat.zero_le _, by omega, rfl, rfl, rfl⟩
          case round =>
            obtain ⟨k, q, hk, hgk, rfl, rfl, rfl⟩ := hrel
            by_cases hlt : k < G.length
            · exfalso
              have := HG0.out
              omega
            · go_wp2
              go_meet
              case rel => exact ⟨rfl, q, rfl⟩
      case rest =>
        obtain ⟨rfl, q, rfl⟩ := hcut

        have hs0 : selfOf r < 0 := by have := HRN.out; unfold selfOf; split <;> omega
        have hsd : decide (selfOf r < 0) = true := by simpa using hs0
        go_upto_if 77 with fail
        go_cut [15, 17] (fun s15 s17 wc => s15 = .bool true ∧ s17 = .int .i64 (Lib.idxOfS NS nm) ∧ ∃ q', wc = wm.drewN q')
        case first =>
          by_cases hn0 : 0 < NS.length
          · obtain ⟨nb, no, rfl, gn⟩ : ∃ b off, na3 = some ⟨b, off, none⟩ ∧ ∀ j, j < NS.length → wm.cell? ⟨b, off + j, none⟩ = some (.string (NS.getD j ByteArray.empty)) := by
              obtain ⟨a, c, e, _, h⟩ := HR.out.names
              cases e
              rcases h with rfl | ⟨b, off, _, rfl, g⟩
              · exfalso; simp only [List.length_nil] at hn0; omega
              · exact ⟨b, off, rfl, g⟩
            have GN := hide gn
            clear gn
            go_wp2_with fail
            go_loopg [17, 80] NS.length (fun g s17 s80 wr => ∃ k : Nat, k ≤ NS.length ∧ NS.length - k ≤ g ∧ s17 = .int .i64 (-1) ∧ s80 = .int .i64 k ∧ wr = wm.drewN q ∧ Hid (∀ j, j < k → NS.getD j ByteArray.empty ≠ nm))
            case atStart => exact ⟨0, Nat.zero_le _, by omega, rfl, rfl, rfl, fun j hj => absurd hj (Nat.not_lt_zero _)⟩
            case round =>
              obtain ⟨k, hk, hgk, rfl, rfl, rfl, A⟩ := hrel
              by_cases hlt : k < NS.length
              · have g1 := GN.out k hlt
                have B : Hid (NS.getD k ByteArray.empty = NS.getD k ByteArray.empty) := rfl
                by_cases hxy : NS.getD k ByteArray.empty = nm
                · have HXY := hide hxy
                  rw [hxy] at g1
                  clear hxy
                  have hix : Lib.idxOfS NS nm = k := by
                    have := Lib.idxOfS_hit NS NS.length k nm hlt (Nat.le_refl _) HXY.out A.out
                    rwa [List.take_length] at this
                  have HIX := hide hix
                  clear hix
                  go_wp2
                  go_meet
                  case rel => exact ⟨rfl, by rw [HIX.out], q, rfl⟩
                · have HXY := hide hxy
                  have hxy' : ((NS.getD k ByteArray.empty).toList == nm.toList) = false := (Lib.bytes_beq_false_iff _ _).2 hxy
                  clear hxy
                  generalize hxk : NS.getD k ByteArray.empty = x at g1 hxy'
                  have B : Hid (NS.getD k ByteArray.empty = x) := hxk
                  clear hxk
                  go_wp2
                  go_roundg (NS.length - (k + 1))
                  case measure => omega
                  case rel =>
                    refine ⟨k + 1, by omega, by omega, rfl, by go_num, rfl, fun j hj => ?_⟩
                    by_cases e : j = k
                    · subst e; exact HXY.out
                    · exact A.out j (by omega)
              · have hix : Lib.idxOfS NS nm = -1 := by
                  have hkk : k = NS.length := by omega
                  have := Lib.idxOfS_miss NS NS.length nm (by rw [← hkk]; exact A.out)
                  rwa [List.take_length] at this
                have HIX := hide hix
                clear hix
                exfalso
                have := HI.out
                have := HIX.out
                omega
          · have HN0 := hide hn0
            clear hn0
            have hix : Lib.idxOfS NS nm = -1 := by
              have := Lib.idxOfS_miss NS NS.length nm (fun j hj => absurd hj (by have := HN0.out; omega))
              rwa [List.take_length] at this
            have HIX := hide hix
            clear hix
            exfalso
            have := HI.out
            have := HIX.out
            omega
        case rest =>
          obtain ⟨rfl, rfl, q', rfl⟩ := hcut

          have hs1 : selfOf r < 0 := by have := HRN.out; unfold selfOf; split <;> omega
          go_wp2_with fail
          have HRq := HR.out.drewN q'
          refine (take_found mb f _ mb mb (Nat.le_refl _) _ _ _ _ G NS (selfOf r) nm HRq.mem HRq.fresh HRq.f0 HRq.f1 HRq.f2 HRq.own HRq.names lg hNb hl HX.out hs1 (by have := HI.out; omega)).mono ?_
          rintro e w2 ⟨rfl, hT, hB⟩
          obtain ⟨f', hM', hH', h1', hl'⟩ := hT
          obtain ⟨⟨a0, c0, e0, hc0, hrest⟩, hseat⟩ := hH'
          rw [e0] at hseat
          obtain ⟨b9, d9, e9⟩ := hl' 9 (by decide)
          obtain ⟨b29, d29, e29⟩ := hl' 29 (by decide)
          obtain ⟨b31, d31, e31⟩ := hl' 31 (by decide)
          obtain ⟨b39, d39, e39⟩ := hl' 39 (by decide)
          obtain ⟨b46, d46, e46⟩ := hl' 46 (by decide)
          obtain ⟨b57, d57, e57⟩ := hl' 57 (by decide)
          have q0 := (hM'.cell 0 (by decide)).trans (congrArg some e0)
          have q1 := (hM'.cell 1 (by decide)).trans (congrArg some h1')
          have q9 := (hM'.cell 9 (by decide)).trans (congrArg some e9)
          have q29 := (hM'.cell 29 (by decide)).trans (congrArg some e29)
          have q31 := (hM'.cell 31 (by decide)).trans (congrArg some e31)
          have q39 := (hM'.cell 39 (by decide)).trans (congrArg some e39)
          have q46 := (hM'.cell 46 (by decide)).trans (congrArg some e46)
          have q57 := (hM'.cell 57 (by decide)).trans (congrArg some e57)
          have hlt1 := HRq.mem.lt
          have HN2 : Hid (ReadsB w2 mb (.slice na3 NS.length nc3) NS) := HRq.names.below (hB.below (by omega))
          have HH2 : Hid (Holds w2 (wm.drewN q').heap.size (.slice a0 NS.length c0) NS) := ⟨a0, c0, rfl, hc0, hrest⟩
          have hBW := hide (HRq.below.trans ((hB.below (by omega)).mono HRq.ge))
          have HSEP := hide (sep_of HRq hB hseat)
          clear hM' h1' hl' e0 hc0 hrest e9 e29 e31 e39 e46 e57 hB HRq k0 k1 hseat
          go_wp2_with fail
          refine (beq_any _ _ NS NS w2 HH2.out.reads HN2.out.reads hNb hNb).mono ?_
          rintro e w' ⟨rfl, q3, rfl⟩
          have hself : decide (NS = NS) = true := by simp
          rw [hself]
          rcases HSEP.out with hn0 | ⟨b, b', cur, cur', rfl, rfl, hbb, hcb, hcb'⟩
          · have hz : decide (0 < NS.length) = false := by rw [hn0]; rfl
            go_wp2_with fail
            go_quiet (fail)
            go_wp2
            go_ret
            exact ⟨rfl, below_drewN hBW.out _⟩
          · by_cases hn0 : 0 < NS.length
            · have hz : decide (0 < NS.length) = true := by simpa using hn0
              have hpe := eql_far w2 b b' cur cur' hbb hcb hcb'
              go_wp2_with fail
              go_quiet (fail)
              go_wp2
              go_ret
              exact ⟨rfl, below_drewN hBW.out _⟩
            · have hz : decide (0 < NS.length) = false := by simpa using hn0
              have HN0 := hide hn0
              clear hn0
              go_wp2_with fail
              go_quiet (fail)
              go_wp2
              go_ret
              exact ⟨rfl, below_drewN hBW.out _⟩

end Go.Proofs.Ybulkbawq
