/-
  LawS2603BTake: names shorter than the group
-/
import Derived.Test.YbulkbawqPre
import Derived.Deep.DeepCutAuto
namespace Go.Proofs.Ybulkbawq
open Go.RowKit

set_option maxHeartbeats 4000000 in
set_option maxRecDepth 100000 in
theorem law_short (gv ev : Value) (G E : List ByteArray) (pre : Bool) (r : Int) (nm : ByteArray) (w : World) (hG : ArgStrs w gv G) (hE : ArgStrs w ev E) (lg : G.length ≤ 1024) (le : E.length ≤ 1024) (hr1 : -128 ≤ r) (hr2 : r ≤ 127)
    (hcase : (pfx pre G ++ E).length < G.length) :
    Calls Yba.prog 3 #[gv, ev, .bool pre, .int .i8 r, .string nm] w fun e w' => e = .returned (.bool true) ∧ Below w.heap.size w w' := by
  obtain ⟨ga, gc, eg⟩ := hG.mem
  obtain ⟨ea, ec, ee⟩ := hE.mem
  subst eg ee
  obtain ⟨NS, hNS⟩ : ∃ NS, pfx pre G ++ E = NS := ⟨_, rfl⟩
  rw [hNS] at hcase
  have HNS := hide hNS
  clear hNS
  have hmk := run_make_row' (P := Yba.prog) 22 9 (.string ByteArray.empty) 16 Yba.underlying22 info9 rfl .i64 .i64 G.length (by omega) (by omega) w
  obtain ⟨v1, w1, hcp, hH1, hb1, hs1⟩ := copy_strs w _ G hG 3
  have lp := pfx_le pre G
  have HG := hide hG
  have HE := hide hE
  have HH1 := hide hH1
  have HB1 := hide hb1
  have HS1 := hide hs1
  clear hG hE hH1 hb1 hs1
  have hd1 : ¬ (1024 : Int) < G.length := by omega
  have hd2 : ¬ (1024 : Int) < E.length := by omega
  go_enter Yba.func3, Yba.ntmps3
  go_upto_if 35 with fail
  go_cut [12] (fun s12 wc => ∃ na nc, s12 = .slice na (pfx pre G).length nc ∧ Hid (wc.ownsRow (w.heap.size + 1) 9 1 (.slice na (pfx pre G).length nc) (pfx pre G).length ((pfx pre G).map Value.string)) ∧ Hid (Below (w.heap.size + 1) w1 wc))
  case first =>
    cases pre
    · go_wp2
      go_meet
      case rel => exact ⟨none, 0, rfl, World.ownsRow_nil _ _ _ _, Below.refl _ _⟩
    · obtain ⟨v2, w2, ha2, ho2, hb2⟩ := append_strs w1 (w.heap.size + 1) _ _ [] G (World.ownsRow_nil _ _ _ _) (HG.out.below HB1.out) (by have := HS1.out; omega) (by simp; omega) 22
      simp only [List.nil_append] at ho2
      obtain ⟨na2, nc2, rfl⟩ := owns_shape ho2
      have HO2 := hide ho2
      have HB2 := hide hb2
      clear ho2 hb2
      go_wp2_with (at_builtin; refine wpList_append_eq rfl (.tmp 36) (.tmp 37) 22 22 rfl rfl _ _ rfl rfl _ _ ha2 ?_)
      go_meet
      case rel => exact ⟨na2, nc2, rfl, HO2.out, HB2.out⟩
  case rest =>
    obtain ⟨na, nc, rfl, HO, HB⟩ := hcut
    clear hmk hcp
    obtain ⟨v3, w3, ha3, ho3, hb3⟩ := append_strs wc (w.heap.size + 1) _ _ (pfx pre G) E HO.out (HE.out.below (HB1.out.trans (HB.out.mono (by omega)))) (by have := HS1.out; have := HB.out.size; omega) (by omega) 22
    obtain ⟨na3, nc3, rfl⟩ := owns_shape ho3
    have HB3 := hide (HB1.out.trans ((HB.out.trans hb3).mono (by omega)))
    have HC3 := hide (HB.out.trans hb3)
    have HO3 := hide ho3
    clear ho3 hb3 HO HB
    go_upto_if 43 with (at_builtin; refine wpList_append_eq rfl (.tmp 39) (.tmp 40) 22 22 rfl rfl _ _ rfl rfl _ _ ha3 ?_)
    clear ha3
    go_cut [13] (fun s13 wc => s13 = .int .i64 (selfOf r) ∧ wc = w3)
    case first =>
      by_cases hr0 : 0 ≤ r
      · go_wp2
        go_meet
        case rel => exact ⟨by simp [selfOf, hr0], rfl⟩
      · go_wp2
        go_meet
        case rel => exact ⟨by have hq : ¬ 0 ≤ r := by omega
                              simp [selfOf, hq], rfl⟩
    case rest =>
      obtain ⟨rfl, hw3⟩ := hcut
      subst hw3
      have hlen : (pfx pre G).length + E.length = NS.length := by rw [← HNS.out, List.length_append]
      have hNb : NS.length ≤ 2048 := by omega
      go_upto_region 12 with fail
      rw [hlen]
      rw [HNS.out] at HO3
      clear hlen lp
      apply wp_region_lit
      refine wpList_move_gen rfl (.tmp 11) rfl _ rfl ?_
      refine wpList_move_gen rfl (.tmp 13) rfl _ rfl ?_
      refine wpList_move_gen rfl (.tmp 4) rfl _ rfl ?_
      refine wpList_build_gen rfl 80 (.tmp 46) (.tmp 47) (.tmp 48) rfl _ _ _ rfl rfl rfl _ (build_member (some ⟨w.heap.size, 0, none⟩) G.length G.length (selfOf r) nm _) ?_
      go_upto_region 13 with fail
      have HR := hide (ready_of (sf := selfOf r) (nm := nm) HG.out HH1.out HS1.out HB3.out HC3.out HO3.out)
      clear HG HE HH1 HB1 HS1 HB3 HC3 HO3 HNS
      generalize (memAt (.slice (some ⟨w.heap.size, 0, none⟩) G.length G.length) (.int .i64 (selfOf r)) (.string nm)) = f at HR
      generalize (World.alloc _ (.cells (memCells (.slice (some ⟨w.heap.size, 0, none⟩) G.length G.length) (.int .i64 (selfOf r)) (.string nm)) 80)) = wm at *
      generalize wc.heap.size = mb at *

      have k1 : wm.cell? ⟨mb, 1, none⟩ = some (.int .i64 (selfOf r)) := (HR.out.mem.cell 1 (by decide)).trans (congrArg some HR.out.f1)
      have k0 : wm.cell? ⟨mb, 0, none⟩ = some (.slice (some ⟨w.heap.size, 0, none⟩) G.length G.length) := (HR.out.mem.cell 0 (by decide)).trans (congrArg some HR.out.f0)
      have hd : decide (G.length ≤ NS.length) = false := by simp; omega
      go_wp2_with fail
      refine (take_short mb f wm _ _ _ _ _ _ HR.out.mem HR.out.f0 hcase).mono ?_
      rintro e w' ⟨rfl, q, rfl⟩
      go_wp2_with fail
      have hq : Below wm.heap.size wm (wm.drewN q) := below_drewN (Below.refl _ _) q
      have hmz := HR.out.mem.lt
      refine (beq_any _ _ G G _ (HR.out.own.below (hq.mono (by omega))).reads (HR.out.group.below (hq.mono (by have := HR.out.ge; omega))).reads (by omega) (by omega)).mono ?_
      rintro e w' ⟨rfl, q2, rfl⟩
      go_wp2
      go_ret
      exact ⟨ret_bool (by simp), below_drewN HR.out.below _⟩

end Go.Proofs.Ybulkbawq
