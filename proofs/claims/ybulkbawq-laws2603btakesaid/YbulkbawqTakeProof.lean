/-
  The proof of 'Rows.LawS2603BTakeSaid'.
-/
import Derived.Test.YbulkbawqLawShort
import Derived.Test.YbulkbawqLawDiffer
import Derived.Test.YbulkbawqLawKnown
import Derived.Test.YbulkbawqLawFound
import Derived.Test.YbulkbawqLawLost
import Derived.ProofKit
import Derived.OpenShut
import Derived.ShutString
import Derived.ChangeOld
import Derived.Below
import Derived.SliceStrings
namespace Go.Proofs.Ybulkbawq.lawS2603BTake
open Go.ChangeShapes Go.WideShapes Go.ChangeAt Go.RowKit
open Go.ChangeMaps (open_string shut_string)

theorem own : ownKnob Yba.prog.godebug = none := by kernel_rfl
theorem laidOut : laidOutB Yba.prog = true := by kernel_rfl

set_option maxRecDepth 100000 in
theorem law_long0 (a0 a1 : Option Addr) (n0 c0 n1 c1 : Nat) (pre : Bool) (r : Int) (nm : ByteArray) (w : World) (h : (1024 : Int) < n0) :
    Calls Yba.prog 3 #[.slice a0 n0 c0, .slice a1 n1 c1, .bool pre, .int .i8 r, .string nm] w fun e w' => e = .returned (.bool true) ∧ Below w.heap.size w w' := by
  go_enter Yba.func3, Yba.ntmps3
  go_wp2
  go_ret
  exact ⟨rfl, Below.refl _ _⟩

set_option maxRecDepth 100000 in
theorem law_long1 (a0 a1 : Option Addr) (n0 c0 n1 c1 : Nat) (pre : Bool) (r : Int) (nm : ByteArray) (w : World) (h0 : ¬ (1024 : Int) < n0) (h : (1024 : Int) < n1) :
    Calls Yba.prog 3 #[.slice a0 n0 c0, .slice a1 n1 c1, .bool pre, .int .i8 r, .string nm] w fun e w' => e = .returned (.bool true) ∧ Below w.heap.size w w' := by
  go_enter Yba.func3, Yba.ntmps3
  go_wp2
  go_ret
  exact ⟨rfl, Below.refl _ _⟩

theorem walk (gv ev : Value) (G E : List ByteArray) (pre : Bool) (r : Int) (nm : ByteArray) (w : World) (hG : ArgStrs w gv G) (hE : ArgStrs w ev E) (hr1 : -128 ≤ r) (hr2 : r ≤ 127) :
    Calls Yba.prog 3 #[gv, ev, .bool pre, .int .i8 r, .string nm] w fun e w' => e = .returned (.bool true) ∧ Below w.heap.size w w' := by
  by_cases lg : G.length ≤ 1024
  · by_cases le : E.length ≤ 1024
    · by_cases hs : (pfx pre G ++ E).length < G.length
      · exact law_short gv ev G E pre r nm w hG hE lg le hr1 hr2 hs
      · have hl : G.length ≤ (pfx pre G ++ E).length := by omega
        by_cases hp : (pfx pre G ++ E).take G.length = G
        · by_cases hr0 : 0 ≤ r
          · exact law_known gv ev G E pre r nm w hG hE lg le hr1 hr2 hl hp hr0
          · by_cases hi : Lib.idxOfS (pfx pre G ++ E) nm < 0
            · exact law_lost gv ev G E pre r nm w hG hE lg le hr1 hr2 hl hp (by omega) hi
            · exact law_found gv ev G E pre r nm w hG hE lg le hr1 hr2 hl hp (by omega) hi
        · exact law_differ gv ev G E pre r nm w hG hE lg le hr1 hr2 hl hp
    · obtain ⟨ga, gc, rfl⟩ := hG.mem
      obtain ⟨ea, ec, rfl⟩ := hE.mem
      exact law_long1 _ _ _ _ _ _ pre r nm w (by omega) (by omega)
  · obtain ⟨ga, gc, rfl⟩ := hG.mem
    obtain ⟨ea, ec, rfl⟩ := hE.mem
    exact law_long0 _ _ _ _ _ _ pre r nm w (by omega)

set_option maxRecDepth 100000 in
theorem lifted (os : Os) (started : os.Started) (H : Type) (enc : TypeId × Value → H) :
    ReturnsInHanded {} Yba.checked os 3 .any (Rows.lawS2603BTakeSpec.pre6 enc Yba.prog Yba.f3 Rows.lawS2603BTakeRow.domain false) (Rows.lawS2603BTakeSpec.post enc Yba.prog Yba.f3 false true false false) := by
  refine returnsInHanded_of_change (C := Yba.checked) own started (by kernel_rfl) Yba.func3
    (ChangeSpec.witness6 (enc := enc) (C := Yba.checked) false ⟨#[], #[.slice none 0 0, .slice none 0 0, .bool false, .int .i8 0, .string ByteArray.empty], []⟩ 8 (by kernel_rfl) (by kernel_rfl) (by kernel_rfl) (by kernel_rfl)) ?_
  intro W base args ds gs before hval0 hW hcnd _
  have hval : ∀ (j : Nat) t v, Yba.f3.params[j]? = some t → args[j]? = some v → Value.okWide Yba.prog W .any base t v := hval0
  have hW' := hW
  obtain ⟨p, q, hA0, hV, rfl, hfz, hnd⟩ := hW
  have hA : DataW.TrodAll enc Yba.prog W 0 (fun _ => true) true Yba.f3.params.toList args.toList ds p := hA0
  rw [Yba.params3] at hA hval
  obtain ⟨v0, vs0, d0, ds0, p0, q0, hargs, rfl, rfl, h0, r0⟩ := trodAll_cons hA
  obtain ⟨v1, vs1, d1, ds1, p1, q1, rfl, rfl, rfl, h1, r1⟩ := trodAll_cons r0
  obtain ⟨v2, vs2, d2, ds2, p2, q2, rfl, rfl, rfl, h2, r2⟩ := trodAll_cons r1
  obtain ⟨v3, vs3, d3, ds3, p3, q3, rfl, rfl, rfl, h3, r3⟩ := trodAll_cons r2
  obtain ⟨v4, vs4, d4, ds4, p4, q4, rfl, rfl, rfl, h4, r4⟩ := trodAll_cons r3
  obtain ⟨rfl, rfl, rfl⟩ := trodAll_nil r4
  obtain rfl : args = #[v0, v1, v2, v3, v4] := by cases args; simp_all
  obtain ⟨rfl, rfl⟩ := trodVars_none hV
  have strs : ∀ (v : Value) (d : DataW H) (ps : List MemPlace), Value.okWide Yba.prog W .any base 22 v → DataW.Trod enc Yba.prog W 0 (fun _ => true) true 22 v d ps → ∃ ss, ArgStrs W v ss := by
    intro v d ps hv ht
    obtain ⟨a0, len, cap, rfl⟩ := okWide_slice Yba.underlying22 hv
    obtain ⟨fuel, hf⟩ := ht
    rcases open_strings Yba.underlying22 Yba.underlying9 (by kernel_rfl) hf with ⟨hcs, _⟩ | ⟨a, l, c, ss, hcs, _, hl, hm, hz, _, hcell, _⟩
    · simp [Value.cells] at hcs
      obtain ⟨rfl, rfl, rfl⟩ := hcs
      exact ⟨[], .inl ⟨rfl, rfl⟩⟩
    · simp [Value.cells] at hcs
      obtain ⟨rfl, rfl, rfl⟩ := hcs
      simp only [if_true] at hz
      have hlen : (ss.take len).length = len := by simp; omega
      refine ⟨ss.take len, .inr ⟨a, cap, by rw [hlen], by rw [hlen]; exact hl, fun j hj => ?_⟩⟩
      rw [hlen] at hj
      rw [hcell j (by omega)]
      simp [List.getD, hj]
  obtain ⟨G, hG⟩ := strs v0 d0 p0 (hval 0 22 v0 rfl rfl) h0
  obtain ⟨E, hE⟩ := strs v1 d1 p1 (hval 1 22 v1 rfl rfl) h1
  have lt0 : ∀ x ∈ p0, x.block < W.heap.size := by obtain ⟨m, hm⟩ := h0; exact DataW.trod_lt m _ _ _ hm
  have lt1 : ∀ x ∈ p1, x.block < W.heap.size := by obtain ⟨m, hm⟩ := h1; exact DataW.trod_lt m _ _ _ hm
  obtain ⟨pre, rfl, rfl, rfl⟩ := open_bool Yba.underlying4 (hval 2 4 v2 rfl rfl) h2
  obtain ⟨r, rfl, rfl, rfl, wr⟩ := open_int Yba.underlying23 (hval 3 23 v3 rfl rfl) h3
  obtain ⟨nm, rfl, rfl, rfl, wn⟩ := open_string Yba.underlying9 (hval 4 9 v4 rfl rfl) h4
  clear hA0 hval0
  have hb := bounds_i8 wr
  refine (walk v0 v1 G E pre r nm W hG hE hb.1 hb.2).mono fun e W' ⟨he, bel⟩ => ?_
  subst he
  exact ⟨_, rfl, _, _, _, [], _, [], hW', trodAll_mk1 (shut_bool Yba.underlying4 _), (trodAll_cons_mk (Below.trod laidOut (by kernel_rfl) (of_decide_eq_true (by kernel_rfl)) h0 bel lt0) (trodAll_cons_mk (Below.trod laidOut (by kernel_rfl) (of_decide_eq_true (by kernel_rfl)) h1 bel lt1) (trodAll_cons_mk (shut_bool Yba.underlying4 _) (trodAll_cons_mk (shut_int Yba.underlying23 wr) (trodAll_cons_mk (shut_string Yba.underlying9 wn) trodAll_mk0))))), rfl, bel.frame _, fun h => by cases h⟩

theorem over : Rows.lawS2603BTakeRow.holds Yba.pinned (OpenSpec.ofChange Rows.lawS2603BTakeSpec) :=
  OpenClaim.holds_of_wide 3 Yba.f3 rfl rfl rfl rfl rfl rfl rfl ⟨rfl, rfl, rfl, rfl, rfl⟩ rfl rfl rfl rfl rfl (by kernel_rfl) Yba.func3 (by kernel_rfl)
    (of_decide_eq_true (by kernel_rfl)) (by unfold Func.isWrapper; first | (rw [if_pos (by decide +kernel)]; kernel_rfl) | (rw [if_neg (by decide +kernel)]; exact ⟨rfl, rfl⟩))
    (fun os started H enc _ => lifted os started H enc)

theorem proved : Rows.LawS2603BTakeSaid := over
#print axioms proved
end Go.Proofs.Ybulkbawq.lawS2603BTake
