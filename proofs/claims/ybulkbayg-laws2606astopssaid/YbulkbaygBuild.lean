/-
  zzs2606abuild.
-/
import Derived.Test.YbulkbaygLay
import Derived.Deep.CutRange
import Derived.OwnWalk
namespace Go.Proofs.Ybulkbayg
open Go.RowKit

theorem base0 {w : World} {base e size n : Nat} {v : Value} {xs : List Value} (h : w.ownsRow base e size v n xs) : w.ownsRow 0 e size v n xs := by
  refine ⟨h.1, ?_⟩
  rcases h.2 with h | ⟨g, cap, cur, h1, _, h3⟩
  · exact .inl h
  · exact .inr ⟨g, cap, cur, h1, Nat.zero_le _, h3⟩

set_option maxHeartbeats 4000000 in
set_option maxRecDepth 100000 in
theorem build_any (v : Value) (ts : List TopG) (ka : Option Addr) (kc : Nat) (ks : List Int) (w : World) (h : Tops w v ts) (hk : Ints w (.slice ka ks.length kc) ks) (hs : Small ts) :
    Calls Yba.prog 8 #[v, .slice ka ks.length kc] w fun e w' => ∃ vp mb vw nodes, e = .returned (.tuple #[vp, .map (some mb), vw]) ∧ Built (kindAt ks) w vp mb vw nodes w' := by
  obtain ⟨a, c, rfl, hc, r⟩ := h
  have hmm := @run_makeMap Yba.prog
  have HR := hide r
  have HK := hide hk
  have HS := hide hs
  clear r hk hs
  go_enter Yba.func8, Yba.ntmps8
  go_upto_block 0 with fail
  go_cut [7] (fun s7 wc => s7 = .map (some w.heap.size) ∧ Hid (Kinds wc w.heap.size 12 (kindAt ks)) ∧ Hid (Below w.heap.size w wc))
  case first =>
    go_wp2_with fail
    go_loopg [8] 12 (fun g s8 wr => ∃ i : Nat, i ≤ 12 ∧ 12 - i ≤ g ∧ s8 = .int .i64 i ∧ Hid (Kinds wr w.heap.size i (fun j => if j < i then kindAt ks j else 0)) ∧ Hid (Below w.heap.size w wr))
    case atStart => exact ⟨0, by omega, by omega, rfl, (Kinds.made w).cong (fun j _ => by simp), (Below.refl _ w).alloc (Nat.le_refl _) _⟩
    case round =>
      obtain ⟨i, hi, hg, rfl, HKD, HB⟩ := hrel
      clear hmm
      by_cases h12 : i < 12
      · have hd12 : decide (i < 12) = true := by simp [h12]
        by_cases hlen : i < ks.length
        · have hdl : decide (i < ks.length) = true := by simp [hlen]
          obtain ⟨kb, ko, rfl, hkb, gk⟩ := HK.out.at (by omega)
          have g1 : wr.cell? ⟨kb, ko + i, none⟩ = some (.int .u8 (ks.getD i 0)) := (HB.out.cell (p := ⟨kb, ko + i, none⟩) hkb).trans (gk i hlen)
          have hbd := HK.out.bound i
          have HKA : Hid (kindAt ks i = ks.getD i 0 % 8) := by show kindAt ks i = _; simp [kindAt, hlen]
          clear gk hkb
          generalize ks.getD i 0 = x at *
          by_cases h0 : x % 8 = 0
          · have hx0 : (x % 8 == 0) = true := by simp [h0]
            have H0 := hide h0
            clear h0
            go_wp2
            go_roundg (12 - (i + 1))
            case measure => omega
            case rel =>
              exact ⟨i + 1, by omega, by omega, by go_num, HKD.out.stay (HKA.out.trans H0.out), HB⟩
          · have hx0 : (x % 8 == 0) = false := by simp [h0]
            have H0 := hide h0
            clear h0
            by_cases h3 : i < 3
            · obtain ⟨w2, hup, hK2, hG2⟩ := HKD.out.drew.put (by omega) i h12 (x % 8) (by omega) (by omega)
              rw [← keyAt_lo i h3] at hup
              have hwr := wrap_tmod8 x hbd.1 hbd.2
              go_upto_region 7 with fail
              go_region_with (go_at_call 13; refine (name_any i (by omega) _).mono ?_; rintro e w' ⟨rfl, rfl⟩)
              all_goals
                go_wp2
                go_roundg (12 - (i + 1))
                case measure => omega
                case rel => exact ⟨i + 1, by omega, by omega, by go_num, hK2.step HKA.out, (HB.out.drew.grown hG2 HB.out.size (fun g e => by cases e; exact Nat.le_refl _))⟩
            · obtain ⟨w2, hup, hK2, hG2⟩ := HKD.out.drew.put (by omega) i h12 (x % 8) (by omega) (by omega)
              rw [← keyAt_hi i h3 h12] at hup
              have hwr := wrap_tmod8 x hbd.1 hbd.2
              have z1 := nameOf_size ((i - 3) / 3 % 3)
              have z2 := nameOf_size ((i - 3) % 3 % 3)
              have c1 := fun (q : Int) (hq : q = (((i - 3) / 3 : Nat) : Int)) (W : World) => name_int q ((i - 3) / 3) hq (by omega) W
              have c2 := fun (q : Int) (hq : q = (((i - 3) % 3 : Nat) : Int)) (W : World) => name_int q ((i - 3) % 3) hq (by omega) W
              generalize nameOf ((i - 3) / 3 % 3) = n1 at *
              generalize nameOf ((i - 3) % 3 % 3) = n2 at *
              go_upto_region 8 with fail
              go_region_with (go_at_call 13; (first | (refine (c1 _ (wrap_quo3 i (by omega) (by omega)) _).mono ?_; clear c1) | refine (c2 _ (wrap_rem3 i (by omega) (by omega)) _).mono ?_); rintro e w' ⟨rfl, rfl⟩)
              all_goals
                go_wp2
                go_roundg (12 - (i + 1))
                case measure => omega
                case rel => exact ⟨i + 1, by omega, by omega, by go_num, hK2.step HKA.out, (HB.out.drew.grown hG2 HB.out.size (fun g e => by cases e; exact Nat.le_refl _))⟩
        · have hdl : decide (i < ks.length) = false := by simp [hlen]
          go_wp2
          go_meet
          case rel =>
            refine ⟨rfl, (HKD.out.cong fun j _ => ?_).mono hi, HB⟩
            by_cases e : j < i
            · simp [e]
            · have e2 : ¬ j < ks.length := by omega
              simp [e, kindAt, e2]
      · have hd12 : decide (i < 12) = false := by simp [h12]
        by_cases hlen : i < ks.length
        · have hdl : decide (i < ks.length) = true := by simp [hlen]
          go_wp2
          go_meet
          case rel => exact ⟨rfl, (HKD.out.cong fun j hj => if_pos (by omega)).mono hi, HB⟩
        · have hdl : decide (i < ks.length) = false := by simp [hlen]
          go_wp2
          go_meet
          case rel => exact ⟨rfl, (HKD.out.cong fun j hj => if_pos (by omega)).mono hi, HB⟩
  case rest =>
    obtain ⟨rfl, HKD, HB⟩ := hcut
    clear hmm
    obtain ⟨V0, e0⟩ : ∃ V0, V0 = wc := ⟨wc, rfl⟩
    subst e0
    go_wp2_with fail
    go_loopg [72, 9, 10] ts.length (fun g s72 s9 s10 wr => ∃ (k : Nat) (nodes : List TopN), k ≤ ts.length ∧ ts.length - k ≤ g ∧ s72 = .int .i64 k ∧ Hid (nodes.length = k) ∧ Hid (Lay V0 s9 s10 nodes (topItems (kindAt ks) nodes) wr) ∧ Hid ((topItems (kindAt ks) nodes).length ≤ 256 * k))
    case atStart => exact ⟨0, [], Nat.zero_le _, by omega, rfl, rfl, Lay.start _, Nat.zero_le _⟩
    case round =>
      obtain ⟨k, nodes, hk, hg, rfl, HN, HL, HXL⟩ := hrel
      obtain ⟨W0, e0⟩ : ∃ W0, W0 = wr := ⟨wr, rfl⟩
      subst e0
      by_cases hlt : k < ts.length
      · obtain ⟨b, off, rfl, G⟩ : ∃ b off, a = some ⟨b, off, none⟩ ∧ Hid (TopAt V0 b (off + k * 4) (ts.getD k noTop)) := by
          rcases HR.out with h | ⟨b, off, rfl, g⟩
          · rw [h] at hlt; simp at hlt
          · exact ⟨b, off, rfl, (g k hlt).below HB.out⟩
        obtain ⟨hsm1, hsm2, hsm3⟩ := HS.out.2 k hlt
        have HS3 := hide hsm3
        clear hsm3
        generalize ts.getD k noTop = t at *
        obtain ⟨ea, ec, h1', h2⟩ := G.out.ce
        obtain ⟨sa, sc, h3', h4⟩ := G.out.cs
        have hblt0 := World.block_lt_of_cell? _ _ G.out.cn
        have h1 := (HL.out.below.cell (p := ⟨b, off + k * 4 + 2, none⟩) hblt0).trans h1'
        have h3 := (HL.out.below.cell (p := ⟨b, off + k * 4 + 3, none⟩) hblt0).trans h3'
        have h5 := (HL.out.below.cell (p := ⟨b, off + k * 4, none⟩) hblt0).trans G.out.cn
        have h6 := (HL.out.below.cell (p := ⟨b, off + k * 4 + 1, none⟩) hblt0).trans G.out.ct
        have h7 := G.out.n0
        have h8 := G.out.t0
        have HEV := hide h2
        have HE := hide (h2.below HL.out.below)
        have HU := hide (h4.below HL.out.below)
        obtain ⟨n, hn⟩ : ∃ n : Nat, t.n % 3 = (n : Int) := ⟨(t.n % 3).toNat, by omega⟩
        have hn3 : n < 3 := by omega
        clear h1' h3' hblt0 h2 h4 G
        have hmk := run_make_row' (P := Yba.prog) 25 33 (.pointer none) 8 Yba.underlying25 info33 rfl .i64 .i64 t.subs.length (by omega) (by omega) (W0.alloc (.cells #[.int .u8 t.n, .int .u8 t.t, .slice ea t.es.length ec, .slice sa t.subs.length sc] 57))
        go_wp2_with fail
        clear hn
        go_loopg [90, 15] t.subs.length (fun g s90 s15 wr => ∃ (j : Nat) (ss : List SubN), j ≤ t.subs.length ∧ t.subs.length - j ≤ g ∧ s90 = .int .i64 j ∧ Hid (ss.length = j) ∧ Hid (InLay W0 #[.int .u8 t.n, .int .u8 t.t, .slice ea t.es.length ec, .slice sa t.subs.length sc] W0.heap.size (W0.heap.size + 1) t.subs.length s15 ss (subItems (kindAt ks) n ss) wr))
        case atStart =>
          exact ⟨0, [], Nat.zero_le _, by omega, rfl, rfl, InLay.start W0 _ _ _ (by show (madeCells _ _).size = _; simp [madeCells])⟩
        case round =>
          obtain ⟨j, ss, hj, hgj, rfl, HSL, HI⟩ := hrel
          clear hmk
          have k3 := (cell_of_heap HI.out.tbox 3).trans (show _ = some (.slice sa t.subs.length sc) from rfl)
          by_cases hlj : j < t.subs.length
          · obtain ⟨sb2, so, rfl, GS⟩ : ∃ b off, sa = some ⟨b, off, none⟩ ∧ Hid (SubAt W0 b (off + j * 3) (t.subs.getD j noSub)) := by
              obtain ⟨a', c', e, _, r⟩ := HU.out
              cases e
              rcases r with h | ⟨b, off, rfl, g⟩
              · rw [h] at hlj; simp at hlj
              · exact ⟨b, off, rfl, g j hlj⟩
            have hse := HS3.out j hlj
            generalize t.subs.getD j noSub = s at *
            obtain ⟨ea2, ec2, s1', s2⟩ := GS.out.ce
            have hblt := World.block_lt_of_cell? _ _ GS.out.cn
            have s1 := (HI.out.below.cell (p := ⟨sb2, so + j * 3 + 2, none⟩) hblt).trans s1'
            have s5 := (HI.out.below.cell (p := ⟨sb2, so + j * 3, none⟩) hblt).trans GS.out.cn
            have s6 := (HI.out.below.cell (p := ⟨sb2, so + j * 3 + 1, none⟩) hblt).trans GS.out.ct
            have s7 := GS.out.n0
            have s8 := GS.out.t0
            have HE0 := hide s2
            have HE2 := hide (s2.below HI.out.below)
            obtain ⟨m, hm⟩ : ∃ m : Nat, s.n % 3 = (m : Int) := ⟨(s.n % 3).toNat, by omega⟩
            have hm3 : m < 3 := by omega
            clear s1' s2 hblt GS h1 h3 h5 h6
            go_wp2_with fail
            refine (list_new ea2 ec2 s.es _ (HE2.out.below ((Below.refl _ _).alloc (Nat.le_refl _) _)) hse).mono ?_
            rintro e A2 ⟨lb, rfl, NL⟩
            obtain ⟨A, hA, HI2, HSB, HLI, HE3⟩ := sub_list HI.out NL HE2.out hse
            subst hA
            have q0 := (cell_of_heap HSB.out 0).trans (show _ = some (.int .u8 s.n) from rfl)
            have q1 := (cell_of_heap HSB.out 1).trans (show _ = some (.int .u8 s.t) from rfl)
            have q2 := (cell_of_heap HSB.out 2).trans (show _ = some (.slice ea2 s.es.length ec2) from rfl)
            have hwa := lt_of_heap HSB.out
            clear NL k3 s1 s5 s6 HI HE2
            generalize wr.heap.size = W1 at *
            go_upto_region 24 with fail
            go_cut [20, 90] from 90 to 145 (fun s20 s90 wx => s90 = .int .i64 j ∧ ∃ p, s20 = .pointer (some ⟨p, 0, none⟩) ∧ Hid (Below A.heap.size A wx) ∧ Hid (SubIn wx ⟨m, p, if s.t % 5 = 2 then some (lb, allEven s.es) else none⟩))
            case first =>
              by_cases hz : s.t % 5 = 0
              · have HZ := hide hz
                clear hz
                go_region_held3 (fun w' => w'.cell? ⟨W1, 1, none⟩ = some (.int .u8 s.t)) (go_keep) (first | (go_at_call 13; refine (name_lt m hm3 _).mono ?_; rintro e w' ⟨rfl, rfl⟩) | (go_at_call 15; refine (value_none s.t s8.1 s8.2 HZ.out _ _ _).mono ?_; rintro e w' ⟨rfl, hbv⟩; have q9 := (cell_of_heap (past_heap HSB.out hbv) 1).trans (show _ = some (.int .u8 s.t) from rfl); have HBV := hide hbv; clear hbv))
                all_goals
                  go_wp2
                  go_meet
                  case rel => exact ⟨rfl, _, rfl, (past_below HBV.out).alloc (past_below HBV.out).size _, sub_prop hm3 HLI.out (past_below HBV.out) (.inr ⟨by have := HZ.out; omega, .inl rfl⟩)⟩
              · have HZ := hide hz
                clear hz
                go_region_held3 (fun w' => w'.cell? ⟨W1, 1, none⟩ = some (.int .u8 s.t)) (go_keep) (first | (go_at_call 13; refine (name_lt m hm3 _).mono ?_; rintro e w' ⟨rfl, rfl⟩) | (go_at_call 15; refine (value_some s.t s8.1 s8.2 HZ.out _ _ _).mono ?_; rintro e w' ⟨T, x, rfl, hbv, hcv⟩; have q9 := (cell_of_heap (past_heap HSB.out hbv) 1).trans (show _ = some (.int .u8 s.t) from rfl); have HBV := hide hbv; have HCV := hide hcv; clear hbv hcv))
                all_goals
                  go_wp2
                  go_meet
                  case rel => exact ⟨rfl, _, rfl, (past_below HBV.out).alloc (past_below HBV.out).size _, sub_prop hm3 HLI.out (past_below HBV.out) HCV.out.sub⟩
            case rest =>
              obtain ⟨rfl, p, rfl, HBX, HSI⟩ := hcut
              have hI3 := HI2.out.grow HBX.out
              obtain ⟨cs, r1, r2, r3⟩ := hI3.row
              have hjs : j < cs.size := by omega
              obtain ⟨u, hu⟩ : ∃ u, wc.cell? ⟨W0.heap.size + 1, j, none⟩ = some u := ⟨_, (cell_of_heap r1 j).trans (Array.getElem?_eq_getElem hjs)⟩
              have hz := frozen_of_heap r1 j
              have HI4 : Hid (InLay W0 #[.int .u8 t.n, .int .u8 t.t, .slice ea t.es.length ec, .slice (some ⟨sb2, so, none⟩) t.subs.length sc] W0.heap.size (W0.heap.size + 1) t.subs.length u15 (ss ++ [⟨m, p, if s.t % 5 = 2 then some (lb, allEven s.es) else none⟩]) (subItems (kindAt ks) n ss) (wc.setCell ⟨W0.heap.size + 1, j, none⟩ (.pointer (some ⟨p, 0, none⟩)))) := by
                have := hI3.put HSI.out (by have := HSL.out; omega)
                rw [HSL.out] at this
                exact this
              have hne : W1 ≠ W0.heap.size + 1 := by
                intro e
                rw [← e] at r1
                rw [(HBX.out.block _ hwa).trans HSB.out] at r1
                cases r1
              have HSB4 : Hid ((wc.setCell ⟨W0.heap.size + 1, j, none⟩ (.pointer (some ⟨p, 0, none⟩))).heap[W1]? = some (.cells #[.int .u8 s.n, .int .u8 s.t, .slice ea2 s.es.length ec2] 59 (0, 0))) := (heap_set_other hne _ _).trans ((HBX.out.block _ hwa).trans HSB.out)
              have HE4 : Hid (Ints (wc.setCell ⟨W0.heap.size + 1, j, none⟩ (.pointer (some ⟨p, 0, none⟩))) (.slice ea2 s.es.length ec2) s.es) := HE0.out.below HI4.out.below
              have HK4 : Hid (Ints (wc.setCell ⟨W0.heap.size + 1, j, none⟩ (.pointer (some ⟨p, 0, none⟩))) (.slice ka ks.length kc) ks) := HK.out.below ((HB.out.trans (HL.out.below.mono HB.out.size)).trans (HI4.out.below.mono (Nat.le_trans HB.out.size HL.out.below.size)))
              clear hI3 r1 r2 r3 hjs HI2 HSI HBX HSB HE3 HLI q0 q1 q2
              go_wp2_with fail
              refine (kind_at ka kc ks _ HK4.out (3 + 3 * n + m) n m (by omega) (by omega) (by omega) (by omega) (by rw [if_pos (by omega)]; omega)).mono ?_
              rintro e w' ⟨rfl, rfl⟩
              have q1 := (cell_of_heap HSB4.out 1).trans (show _ = some (.int .u8 s.t) from rfl)
              have q2 := (cell_of_heap HSB4.out 2).trans (show _ = some (.slice ea2 s.es.length ec2) from rfl)
              have HSY := fun h1 h2 h3 => hide (subItem_yes (K := kindAt ks) (b := n) (m := m) (p := p) (lb := lb) (t := s.t) (es := s.es) h1 h2 h3)
              have HSN := fun h => hide (subItem_no (K := kindAt ks) (b := n) (m := m) (p := p) (lb := lb) (t := s.t) (es := s.es) h)
              obtain ⟨s', HS'⟩ : ∃ s' : SubN, Hid (s' = ⟨m, p, if s.t % 5 = 2 then some (lb, allEven s.es) else none⟩) := ⟨_, rfl⟩
              rw [← HS'.out] at HI4 HSY HSN
              have HEND : Hid (subItem (kindAt ks) n s' = [] → InLay W0 #[.int .u8 t.n, .int .u8 t.t, .slice ea t.es.length ec, .slice (some ⟨sb2, so, none⟩) t.subs.length sc] W0.heap.size (W0.heap.size + 1) t.subs.length u15 (ss ++ [s']) (subItems (kindAt ks) n (ss ++ [s'])) (wc.setCell ⟨W0.heap.size + 1, j, none⟩ (.pointer (some ⟨p, 0, none⟩)))) := by
                intro e
                rw [subItems_snoc, e, List.append_nil]
                exact HI4.out
              clear hu hz
              generalize wc.setCell ⟨W0.heap.size + 1, j, none⟩ (.pointer (some ⟨p, 0, none⟩)) = wy at *
              generalize kindAt ks (3 + 3 * n + m) = ki at *
              go_wp2_with fail
              refine (list_kind ki _).mono ?_
              rintro e w' ⟨rfl, hw⟩
              obtain rfl : wy = w' := hw.symm
              cases hlk : listKind ki
              · have HSN' := HSN (fun h => by rw [hlk] at h; cases h.1)
                clear HSN HSY hlk
                go_wp2
                go_roundg (t.subs.length - (j + 1))
                case measure => omega
                case rel => exact ⟨j + 1, ss ++ [s'], by omega, by omega, by go_num, (by show (ss ++ [s']).length = _; rw [List.length_append, HSL.out]; rfl), HEND.out HSN'.out⟩
              · by_cases h5 : s.t % 5 = 2
                · have hb5 : (s.t % 5 == 2) = true := by simp [h5]
                  go_wp2_with fail
                  refine (all_str ea2 ec2 s.es _ HE4.out hse).mono ?_
                  rintro e w' ⟨rfl, hw⟩
                  obtain rfl : wy = w' := hw.symm
                  cases hae : allEven s.es
                  · have HSN' := HSN (fun h => by rw [hae] at h; cases h.2.2)
                    clear HSN HSY hlk h5 hae
                    go_wp2
                    go_roundg (t.subs.length - (j + 1))
                    case measure => omega
                    case rel => exact ⟨j + 1, ss ++ [s'], by omega, by omega, by go_num, (by show (ss ++ [s']).length = _; rw [List.length_append, HSL.out]; rfl), HEND.out HSN'.out⟩
                  · have HSY' := HSY hlk h5 hae
                    have hlen := subItems_le (kindAt ks) n ss
                    obtain ⟨v', w1, hrun, ho, hg1, _⟩ := append_item wy W0.heap.size u15 (subItems (kindAt ks) n ss) ⟨nameOf n, p, ki, lb⟩ HI4.out.want (by have := HSL.out; omega) HI4.out.below.size
                    have HI5 : Hid (InLay W0 #[.int .u8 t.n, .int .u8 t.t, .slice ea t.es.length ec, .slice (some ⟨sb2, so, none⟩) t.subs.length sc] W0.heap.size (W0.heap.size + 1) t.subs.length v' (ss ++ [s']) (subItems (kindAt ks) n (ss ++ [s'])) w1) := by
                      show InLay _ _ _ _ _ _ _ _ _
                      rw [subItems_snoc, HSY'.out]
                      exact (HI4.out.grow ((Below.refl _ _).alloc (Nat.le_refl _) _)).app hg1 ho
                    clear HSN HSY hlk h5 hae ho hg1 hlen HEND
                    go_wp2_with fail
                    refine (name_lt n hn3 _).mono ?_
                    rintro e w' ⟨rfl, hw⟩
                    obtain rfl : wy = w' := hw.symm
                    have hrun' : (Builtin.append_ #[27, 27] 27 #[u15, .slice (some ⟨wy.heap.size, 0, none⟩) 1 1]).run Yba.prog (wy.alloc (.cells #[.string (nameOf n), .pointer (some ⟨p, 0, none⟩), .int .i64 ki, .pointer (some ⟨lb, 0, none⟩)] 37)) = .ok v' w1 := hrun
                    clear hrun
                    go_wp2_with (at_builtin; refine wpList_append_eq rfl (.tmp 136) (.tmp 143) 27 27 rfl rfl _ _ rfl rfl _ _ hrun' ?_)
                    go_roundg (t.subs.length - (j + 1))
                    case measure => omega
                    case rel => exact ⟨j + 1, ss ++ [s'], by omega, by omega, by go_num, (by show (ss ++ [s']).length = _; rw [List.length_append, HSL.out]; rfl), HI5⟩
                · have hb5 : (s.t % 5 == 2) = false := by simp [h5]
                  have HSN' := HSN (fun h => h5 h.2.1)
                  clear HSN HSY hlk h5
                  go_wp2
                  go_roundg (t.subs.length - (j + 1))
                  case measure => omega
                  case rel => exact ⟨j + 1, ss ++ [s'], by omega, by omega, by go_num, (by show (ss ++ [s']).length = _; rw [List.length_append, HSL.out]; rfl), HEND.out HSN'.out⟩
          · have HSS : Hid (ss.length = t.subs.length) := by show _ = _; have := HSL.out; omega
            have c2 := (cell_of_heap HI.out.tbox 2).trans (show _ = some (.slice ea t.es.length ec) from rfl)
            clear h1 h3 h5 h6
            go_wp2_with fail
            refine (list_new ea ec t.es _ (HE.out.below HI.out.below) hsm1).mono ?_
            rintro e A ⟨lb, rfl, NL⟩
            have HIA := hide (HI.out.grow NL.below)
            have HLI : Hid (ListIn A lb (allEven t.es)) := by
              obtain ⟨vb, cs, _, g1, g2, g3⟩ := NL.here
              exact ⟨t.es, vb, cs, hsm1, rfl, g1, g2, g3⟩
            have HRI := hide (HIA.out.rowIn HSS.out hsm2)
            have c1 := (cell_of_heap HIA.out.tbox 1).trans (show _ = some (.int .u8 t.t) from rfl)
            have hwa := lt_of_heap HIA.out.tbox
            clear NL HI c2 k3
            rw [← HSS.out]
            go_upto_region 31 with fail
            go_cut [23, 72] from 72 to 198 (fun s23 s72 wx => s72 = .int .i64 k ∧ ∃ p, s23 = .pointer (some ⟨p, 0, none⟩) ∧ Hid (Below A.heap.size A wx) ∧ Hid (TopIn wx (topOf n p lb (W0.heap.size + 1) t.t t.es ss)))
            case first =>
              by_cases hz : t.t % 5 = 0
              · have HZ := hide hz
                clear hz
                go_region_held3 (fun w' => w'.cell? ⟨W0.heap.size, 1, none⟩ = some (.int .u8 t.t)) (go_keep) (first | (go_at_call 13; refine (name_lt n hn3 _).mono ?_; rintro e w' ⟨rfl, rfl⟩) | (go_at_call 15; refine (value_none t.t h8.1 h8.2 HZ.out _ _ _).mono ?_; rintro e w' ⟨rfl, hbv⟩; have q9 := (cell_of_heap (past_heap HIA.out.tbox hbv) 1).trans (show _ = some (.int .u8 t.t) from rfl); have HBV := hide hbv; clear hbv))
                all_goals
                  go_wp2
                  go_meet
                  case rel => exact ⟨rfl, _, rfl, (past_below HBV.out).alloc (past_below HBV.out).size _, top_prop hn3 HLI.out HRI.out HBV.out (.inr (.inr ⟨by have := HZ.out; omega, by have := HZ.out; omega, .inl rfl⟩))⟩
              · have HZ := hide hz
                clear hz
                go_region_held3 (fun w' => w'.cell? ⟨W0.heap.size, 1, none⟩ = some (.int .u8 t.t)) (go_keep) (first | (go_at_call 13; refine (name_lt n hn3 _).mono ?_; rintro e w' ⟨rfl, rfl⟩) | (go_at_call 15; refine (value_some t.t h8.1 h8.2 HZ.out _ _ _).mono ?_; rintro e w' ⟨T, x, rfl, hbv, hcv⟩; have q9 := (cell_of_heap (past_heap HIA.out.tbox hbv) 1).trans (show _ = some (.int .u8 t.t) from rfl); have HBV := hide hbv; have HCV := hide hcv; clear hbv hcv))
                all_goals
                  go_wp2
                  go_meet
                  case rel => exact ⟨rfl, _, rfl, (past_below HBV.out).alloc (past_below HBV.out).size _, top_prop hn3 HLI.out HRI.out HBV.out HCV.out.top⟩
            case rest =>
              obtain ⟨rfl, p, rfl, HBX, HTI⟩ := hcut
              have hbW : Below W0.heap.size W0 wc := HIA.out.below.trans (HBX.out.mono HIA.out.below.size)
              have hL1 := HL.out.grow hbW
              have hTa : ∀ sb ss', (topOf n p lb (W0.heap.size + 1) t.t t.es ss).m = some (sb, ss') → some sb ≠ u9.ownBlock := by
                intro sb ss' e e'
                have := (HL.out.props.lt sb e'.symm).2
                simp only [topOf] at e
                split at e
                · cases e; omega
                · cases e
              have hW2 := (HIA.out.grow HBX.out).want
              have hTB := (HIA.out.grow HBX.out).tbox
              obtain ⟨vp', w1, hrun, ho, hg1, hm1⟩ := append_ptr wc V0.heap.size u9 nodes.length (topPtrs nodes) p hL1.props (by have := HN.out; have := HS.out.1; omega) hL1.below.size
              have hal : Below wc.heap.size wc (wc.alloc (.cells #[.pointer (some ⟨p, 0, none⟩)] 33)) := (Below.refl _ _).alloc (Nat.le_refl _) _
              obtain ⟨T, HTT⟩ : ∃ T, Hid (T = topOf n p lb (W0.heap.size + 1) t.t t.es ss) := ⟨_, rfl⟩
              have HL2 : Hid (Lay V0 vp' u10 (nodes ++ [T]) (topItems (kindAt ks) nodes) w1) := by
                show Lay _ _ _ _ _ _
                rw [HTT.out]
                exact (hL1.grow hal).push (HTI.out.below hal) hTa hg1 ho hm1
              have HW3 : Hid (w1.ownsRow W0.heap.size 37 4 u15 (subItems (kindAt ks) n ss).length (encs (subItems (kindAt ks) n ss))) := (hW2.alloc _).kept hg1 (rows_apart (hW2.alloc _) (hL1.grow hal).props (by decide))
              have HTB : Hid (w1.heap[W0.heap.size]? = some (.cells #[.int .u8 t.n, .int .u8 t.t, .slice ea t.es.length ec, .slice sa t.subs.length sc] 57 (0, 0))) := kept_cells (Turns.of_grown hg1) (Loose.of_owns (hL1.grow hal).props (.inl rfl)) ((heap_alloc_old _ _ (lt_of_heap hTB)).trans hTB) (by decide) (by decide)
              have HEW := hide (HEV.out.below HL2.out.below)
              have HKW := hide (HK.out.below (HB.out.trans (HL2.out.below.mono HB.out.size)))
              have HNK : Hid ((nodes ++ [T]).length = k + 1) := by show _ = _; rw [List.length_append, HN.out]; rfl
              have HXB : Hid ((topItems (kindAt ks) (nodes ++ [T])).length ≤ 256 * (k + 1)) := by
                show _ ≤ _
                rw [topItems_snoc, HTT.out, List.length_append]
                have h1 := HXL.out
                have h2 := topItem_le (K := kindAt ks) (n := n) (p := p) (lb := lb) (sb := W0.heap.size + 1) (t := t.t) (es := t.es) (ss := ss) (by have := HSS.out; omega)
                omega
              have HTY : Hid (listKind (kindAt ks n) = true → t.t % 5 = 2 → allEven t.es = true → topItem (kindAt ks) T = [⟨⟨#[]⟩, p, kindAt ks n, lb⟩]) := by
                intro h1 h2 h3; rw [HTT.out]; exact topItem_yes h1 h2 h3
              have HTK : Hid (kindAt ks n = 7 → t.t % 5 = 3 → topItem (kindAt ks) T = subItems (kindAt ks) n ss) := by
                intro h1 h2; rw [HTT.out]; exact topItem_blk h1 h2
              have HTN : Hid (¬ (listKind (kindAt ks n) = true ∧ t.t % 5 = 2 ∧ allEven t.es = true) → ¬ (kindAt ks n = 7 ∧ t.t % 5 = 3) → Lay V0 vp' u10 (nodes ++ [T]) (topItems (kindAt ks) (nodes ++ [T])) w1) := by
                intro h1 h2
                have : topItem (kindAt ks) T = [] := by rw [HTT.out]; exact topItem_no h1 h2
                rw [topItems_snoc, this, List.append_nil]
                exact HL2.out
              have hxl := HXL.out
              have hk256 := HS.out.1
              have hrg := kindAt_range HKW.out n
              clear hbW hL1 hTa hW2 hTB ho hg1 hm1 hal HIA HBX HTI HRI HLI HL HXL c1 hwa HE HU
              go_wp2_with (at_builtin; refine wpList_append_eq rfl (.tmp 160) (.tmp 162) 25 25 rfl rfl _ _ rfl rfl _ _ hrun ?_)
              clear hrun
              refine (kind_at ka kc ks _ HKW.out n (-1) n (by omega) (by omega) (by omega) (by omega) (by rw [if_neg (by omega)])).mono ?_
              rintro e w' ⟨rfl, hw⟩
              obtain rfl : w1 = w' := hw.symm
              generalize hki : kindAt ks n = ki at *
              have HKI := hide hki
              clear hki
              have q1 := (cell_of_heap HTB.out 1).trans (show _ = some (.int .u8 t.t) from rfl)
              have q2 := (cell_of_heap HTB.out 2).trans (show _ = some (.slice ea t.es.length ec) from rfl)
              go_wp2_with fail
              refine (list_kind ki _).mono ?_
              rintro e w' ⟨rfl, hw⟩
              obtain rfl : w1 = w' := hw.symm
              cases hlk : listKind ki
              · by_cases h7' : ki = 7
                · have hb7 : (ki == 7) = true := by simp [h7']
                  by_cases h3 : t.t % 5 = 3
                  · have hb3 : (t.t % 5 == 3) = true := by simp [h3]
                    have hsl := subItems_le (kindAt ks) n ss
                    have hss := HSS.out
                    obtain ⟨v', w2, hrun, ho, hg1⟩ := append_items w1 V0.heap.size W0.heap.size u10 u15 (topItems (kindAt ks) nodes) (subItems (kindAt ks) n ss) HL2.out.want HW3.out (by omega) (by omega) HL2.out.below.size
                    have HEND : Hid (Lay V0 vp' v' (nodes ++ [T]) (topItems (kindAt ks) (nodes ++ [T])) w2) := by
                      show Lay _ _ _ _ _ _
                      rw [topItems_snoc, HTK.out h7' h3]
                      exact HL2.out.more hg1 ho
                    clear hlk h7' h3 hsl hss ho hg1 HTY HTK HTN HL2 HW3
                    go_wp2_with (at_builtin; refine wpList_append_eq rfl (.tmp 195) (.tmp 196) 27 27 rfl rfl _ _ rfl rfl _ _ hrun ?_)
                    go_roundg (ts.length - (k + 1))
                    case measure => omega
                    case rel => exact ⟨k + 1, nodes ++ [T], by omega, by omega, by go_num, HNK, HEND, HXB⟩
                  · have hb3 : (t.t % 5 == 3) = false := by simp [h3]
                    have HEND := hide (HTN.out (fun h => by rw [hlk] at h; cases h.1) (fun h => h3 h.2))
                    clear hlk h7' h3 HTY HTK HTN HL2 HW3
                    go_wp2
                    go_roundg (ts.length - (k + 1))
                    case measure => omega
                    case rel => exact ⟨k + 1, nodes ++ [T], by omega, by omega, by go_num, HNK, HEND, HXB⟩
                · have hb7 : (ki == 7) = false := by simp [h7']
                  have HEND := hide (HTN.out (fun h => by rw [hlk] at h; cases h.1) (fun h => h7' h.1))
                  clear hlk h7' HTY HTK HTN HL2 HW3
                  go_wp2
                  go_roundg (ts.length - (k + 1))
                  case measure => omega
                  case rel => exact ⟨k + 1, nodes ++ [T], by omega, by omega, by go_num, HNK, HEND, HXB⟩
              · have h7' : ki ≠ 7 := by
                  rintro rfl
                  cases hlk
                have hb7 : (ki == 7) = false := by simp [h7']
                by_cases h5 : t.t % 5 = 2
                · have hb5 : (t.t % 5 == 2) = true := by simp [h5]
                  go_wp2_with fail
                  refine (all_str ea ec t.es _ HEW.out hsm1).mono ?_
                  rintro e w' ⟨rfl, hw⟩
                  obtain rfl : w1 = w' := hw.symm
                  cases hae : allEven t.es
                  · have HEND := hide (HTN.out (fun h => by rw [hae] at h; cases h.2.2) (fun h => h7' h.1))
                    clear hlk h7' h5 hae HTY HTK HTN HL2 HW3
                    go_wp2
                    go_roundg (ts.length - (k + 1))
                    case measure => omega
                    case rel => exact ⟨k + 1, nodes ++ [T], by omega, by omega, by go_num, HNK, HEND, HXB⟩
                  · obtain ⟨v', w2, hrun, ho, hg1, _⟩ := append_item w1 V0.heap.size u10 (topItems (kindAt ks) nodes) ⟨⟨#[]⟩, p, ki, lb⟩ HL2.out.want (by omega) HL2.out.below.size
                    have HEND : Hid (Lay V0 vp' v' (nodes ++ [T]) (topItems (kindAt ks) (nodes ++ [T])) w2) := by
                      show Lay _ _ _ _ _ _
                      rw [topItems_snoc, HTY.out hlk h5 hae]
                      refine (HL2.out.grow ((Below.refl _ _).alloc (Nat.le_refl _) _)).more (ys := [⟨⟨#[]⟩, p, ki, lb⟩]) hg1 ?_
                      simpa [encs] using ho
                    have hrun' : (Builtin.append_ #[27, 27] 27 #[u10, .slice (some ⟨w1.heap.size, 0, none⟩) 1 1]).run Yba.prog (w1.alloc (.cells #[.string ⟨#[]⟩, .pointer (some ⟨p, 0, none⟩), .int .i64 ki, .pointer (some ⟨lb, 0, none⟩)] 37)) = .ok v' w2 := hrun
                    clear hlk h7' h5 hae ho hg1 hrun HTY HTK HTN HL2 HW3
                    go_wp2_with (at_builtin; refine wpList_append_eq rfl (.tmp 180) (.tmp 185) 27 27 rfl rfl _ _ rfl rfl _ _ hrun' ?_)
                    go_roundg (ts.length - (k + 1))
                    case measure => omega
                    case rel => exact ⟨k + 1, nodes ++ [T], by omega, by omega, by go_num, HNK, HEND, HXB⟩
                · have hb5 : (t.t % 5 == 2) = false := by simp [h5]
                  have HEND := hide (HTN.out (fun h => h5 h.2.1) (fun h => h7' h.1))
                  clear hlk h7' h5 HTY HTK HTN HL2 HW3
                  go_wp2
                  go_roundg (ts.length - (k + 1))
                  case measure => omega
                  case rel => exact ⟨k + 1, nodes ++ [T], by omega, by omega, by go_num, HNK, HEND, HXB⟩
      · have hke : k = ts.length := by omega
        have HBU : Hid (Built (kindAt ks) w u9 w.heap.size u10 nodes W0) := by
          have hl := HL.out
          have hn := HN.out
          have hx := HXL.out
          refine ⟨HB.out.trans (hl.below.mono HB.out.size), HKD.out.below hl.below, ?_, ?_, hl.tops, ?_, ?_⟩
          · exact base0 hl.props
          · exact base0 hl.want
          · have := HS.out.1; omega
          · rw [hn]; exact hx
        clear HL HXL
        go_wp2
        go_ret3
        exact ⟨_, _, _, _, rfl, HBU.out⟩

end Go.Proofs.Ybulkbayg
