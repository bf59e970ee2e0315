/-
  The proof of 'Rows.LawS2603CBoundarySaid' over the frame that proof-skeleton.mjs wrote.
-/
import Derived.Test.YbulkbawqLens
import Derived.WalkKit
import Derived.ProofKit
import Derived.OpenShut
import Derived.ShutString
namespace Go.Proofs.Ybulkbawq.lawS2603CBoundary
open Go.ChangeShapes Go.WideShapes Go.ChangeAt Go.RowKit
open Go.ChangeMaps (open_string shut_string)
set_option linter.unusedVariables false      -- a walk need not use every 'w<i>' (that an integer argument fits its kind)

theorem own : ownKnob Yba.prog.godebug = none := by kernel_rfl

/-! ### STEP 1: THE WALK: the Go text returns true and writes nothing that was there -/
theorem quot0 (k e : Int) (he : 1 ≤ e) : (k * e).tdiv e = k := Int.mul_tdiv_cancel _ (by omega)
theorem quot1 (k e : Int) (hk : 1 ≤ k) (he : 1 ≤ e) : (k * e - 1).tdiv e = k - 1 := by
  have h0 : 0 ≤ (k - 1) * e := Int.mul_nonneg (by omega) (by omega)
  have e1 : k * e - 1 = (k - 1) * e + (e - 1) := by rw [Int.sub_mul]; omega
  have h1 : 0 ≤ k * e - 1 := by omega
  rw [Int.tdiv_eq_ediv_of_nonneg h1, e1, Int.add_comm, Int.add_mul_ediv_right _ _ (by omega), Int.ediv_eq_zero_of_lt (by omega) (by omega)]
  omega
theorem wrap64_id (x : Int) (h0 : -9223372036854775808 ≤ x) (h1 : x ≤ 9223372036854775807) : wrap64 x = x := by
  unfold wrap64; omega

/-- The number of promises at the very limit, and at one byte fewer. -/
theorem at_limit (k v : Int) (hk0 : 0 ≤ k) (hk1 : k ≤ 65535) (hv1 : 1 ≤ v) (hv2 : v ≤ 10) (hp : k * (v + 4 + 30) ≤ 3000000) :
    max 1 (wrap64 ((wrap64 (2 + v + 4 + k * (v + 4 + 30) - (2 + v + 4))).tdiv (v + 4 + 30))) = max 1 k := by
  have e : 2 + v + 4 + k * (v + 4 + 30) - (2 + v + 4) = k * (v + 4 + 30) := by omega
  have h0 : 0 ≤ k * (v + 4 + 30) := Int.mul_nonneg hk0 (by omega)
  rw [e, wrap64_id (k * (v + 4 + 30)) (by omega) (by omega), quot0 _ _ (by omega), wrap64_id k (by omega) (by omega)]
theorem below_limit (k v : Int) (hk0 : 0 ≤ k) (hk1 : k ≤ 65535) (hv1 : 1 ≤ v) (hv2 : v ≤ 10) (hp : k * (v + 4 + 30) ≤ 3000000) :
    max 1 (wrap64 ((wrap64 (2 + v + 4 + k * (v + 4 + 30) - 1 - (2 + v + 4))).tdiv (v + 4 + 30))) = max 1 (k - 1) := by
  have e : 2 + v + 4 + k * (v + 4 + 30) - 1 - (2 + v + 4) = k * (v + 4 + 30) - 1 := by omega
  have h0 : 0 ≤ k * (v + 4 + 30) := Int.mul_nonneg hk0 (by omega)
  rw [e, wrap64_id (k * (v + 4 + 30) - 1) (by omega) (by omega)]
  by_cases h : 1 ≤ k
  · rw [quot1 _ _ h (by omega), wrap64_id (k - 1) (by omega) (by omega)]
  · obtain rfl : k = 0 := by omega
    have hq : (0 * (v + 4 + 30) - 1).tdiv (v + 4 + 30) = 0 := by
      rw [Int.zero_mul, Int.zero_sub, Int.neg_tdiv, Int.tdiv_eq_ediv_of_nonneg (by omega), Int.ediv_eq_zero_of_lt (by omega) (by omega)]
      rfl
    rw [hq, wrap64_id 0 (by omega) (by omega)]; omega

set_option maxHeartbeats 1000000 in
theorem walk (a0 : Int) (a1 : Int) (w0 : (Lit.int .i64 a0).wf = true) (w1 : (Lit.int .u16 a1).wf = true) (w : World) :
    Calls Yba.prog 5 #[.int .i64 a0, .int .u16 a1] w fun e w' => e = .returned (.bool true) ∧ Below w.heap.size w w' := by
  have hr := arg_range a0
  have e1 := vl_pos (IntKind.u64.wrap (wrap64 (a0 - 1)))
  have e2 := vl_le (IntKind.u64.wrap (wrap64 (a0 - 1))) hr.2
  obtain ⟨v, hv⟩ : ∃ v : Int, (vl (IntKind.u64.wrap (wrap64 (a0 - 1))) : Int) = v := ⟨_, rfl⟩
  have hv1 : 1 ≤ v := by omega
  have hv2 : v ≤ 10 := by omega
  obtain ⟨hk0, hk1⟩ : 0 ≤ a1 ∧ a1 ≤ 65535 := bounds_u16 w1
  have hp0 : 0 ≤ a1 * (v + 4 + 30) := Int.mul_nonneg hk0 (by omega)
  have hp1 : a1 * (v + 4 + 30) ≤ 3000000 := Int.le_trans (Int.mul_le_mul hk1 (show v + 4 + 30 ≤ 44 by omega) (by omega) (by omega)) (by omega)
  have hu : ∀ W, Calls Yba.prog 8 #[.int .u64 (IntKind.u64.wrap (wrap64 (a0 - 1)))] W fun e w' => e = .returned (.int .i64 v) ∧ W = w' := by
    intro W
    rw [← hv]
    exact (vlen_any _ hr.1 hr.2 W).mono fun _ _ h => ⟨h.1, h.2.symm⟩
  have hA : ∀ W, Calls Yba.prog 9 #[.int .i64 a0, .int .i64 (2 + v + 4 + a1 * (v + 4 + 30))] W fun e w' => e = .returned (.int .i64 (max 1 a1)) ∧ Below W.heap.size W w' := by
    intro W
    rw [← at_limit a1 v hk0 hk1 hv1 hv2 hp1]
    exact per_any a0 _ v hv hv1 hv2 W
  have hB : ∀ W, Calls Yba.prog 9 #[.int .i64 a0, .int .i64 (2 + v + 4 + a1 * (v + 4 + 30) - 1)] W fun e w' => e = .returned (.int .i64 (max 1 (a1 - 1))) ∧ Below W.heap.size W w' := by
    intro W
    rw [← below_limit a1 v hk0 hk1 hv1 hv2 hp1]
    exact per_any a0 _ v hv hv1 hv2 W
  clear hv hr e1 e2 w0 w1
  by_cases h1 : a1 < 1
  · have m1 : max 1 a1 = 1 := by omega
    have m2 : max 1 (a1 - 1) = 1 := by omega
    have h2 : a1 - 1 < 1 := by omega
    rw [m1] at hA; rw [m2] at hB
    clear m1 m2
    go_enter Yba.func5, Yba.ntmps5
    go_wp2_with fail
    refine (hu _).mono ?_
    rintro e w' ⟨rfl, rfl⟩
    go_wp2_with fail
    refine (hA _).mono ?_
    rintro e wa ⟨rfl, hba⟩
    go_wp2_with fail
    refine (hB _).mono ?_
    rintro e wb ⟨rfl, hbb⟩
    go_wp2
    go_ret
    exact ⟨rfl, hba.trans (hbb.mono hba.size)⟩
  · have m1 : max 1 a1 = a1 := by omega
    rw [m1] at hA
    clear m1
    by_cases h2 : a1 - 1 < 1
    · have m2 : max 1 (a1 - 1) = 1 := by omega
      rw [m2] at hB
      clear m2
      go_enter Yba.func5, Yba.ntmps5
      go_wp2_with fail
      refine (hu _).mono ?_
      rintro e w' ⟨rfl, rfl⟩
      go_wp2_with fail
      refine (hA _).mono ?_
      rintro e wa ⟨rfl, hba⟩
      go_wp2_with fail
      refine (hB _).mono ?_
      rintro e wb ⟨rfl, hbb⟩
      go_wp2
      go_ret
      exact ⟨rfl, hba.trans (hbb.mono hba.size)⟩
    · have m2 : max 1 (a1 - 1) = a1 - 1 := by omega
      rw [m2] at hB
      clear m2
      go_enter Yba.func5, Yba.ntmps5
      go_wp2_with fail
      refine (hu _).mono ?_
      rintro e w' ⟨rfl, rfl⟩
      go_wp2_with fail
      refine (hA _).mono ?_
      rintro e wa ⟨rfl, hba⟩
      go_wp2_with fail
      refine (hB _).mono ?_
      rintro e wb ⟨rfl, hbb⟩
      go_wp2
      go_ret
      exact ⟨rfl, hba.trans (hbb.mono hba.size)⟩

/-! ### THE ROW's STEP: WRITTEN OUT: LEAVE IT -/
set_option maxRecDepth 100000 in
theorem lifted (os : Os) (started : os.Started) (H : Type) (enc : TypeId × Value → H) :
    ReturnsInHanded {} Yba.checked os 5 .any (Rows.lawS2603CBoundarySpec.pre6 enc Yba.prog Yba.f5 Rows.lawS2603CBoundaryRow.domain false) (Rows.lawS2603CBoundarySpec.post enc Yba.prog Yba.f5 false true false false) := by
  refine returnsInHanded_of_change (C := Yba.checked) own started (by kernel_rfl) Yba.func5
    (ChangeSpec.witness6 (enc := enc) (C := Yba.checked) false ⟨#[], #[.int .i64 0, .int .u16 0], []⟩ 8 (by kernel_rfl) (by kernel_rfl) (by kernel_rfl) (by kernel_rfl)) ?_
  intro W base args ds gs before hval0 hW hcnd _
  have hval : ∀ (j : Nat) t v, Yba.f5.params[j]? = some t → args[j]? = some v → Value.okWide Yba.prog W .any base t v := hval0
  have hW' := hW
  obtain ⟨p, q, hA0, hV, rfl, hfz, hnd⟩ := hW
  have hA : DataW.TrodAll enc Yba.prog W 0 (fun _ => true) true Yba.f5.params.toList args.toList ds p := hA0
  rw [Yba.params5] at hA hval
  obtain ⟨v0, vs0, d0, ds0, p0, q0, hargs, rfl, rfl, h0, r0⟩ := trodAll_cons hA
  obtain ⟨v1, vs1, d1, ds1, p1, q1, rfl, rfl, rfl, h1, r1⟩ := trodAll_cons r0
  obtain ⟨rfl, rfl, rfl⟩ := trodAll_nil r1
  obtain rfl : args = #[v0, v1] := by cases args; simp_all
  obtain ⟨rfl, rfl⟩ := trodVars_none hV
  obtain ⟨a0, rfl, rfl, rfl, w0⟩ := open_int Yba.underlying3 (hval 0 3 v0 rfl rfl) h0
  obtain ⟨a1, rfl, rfl, rfl, w1⟩ := open_int Yba.underlying88 (hval 1 88 v1 rfl rfl) h1
  clear hA0 hval0
  simp only [List.append_nil] at hW'
  refine (walk a0 a1 w0 w1 W).mono fun e W' ⟨he, hg⟩ => ?_
  subst he
  exact ⟨_, rfl, _, _, _, [], [], [], hW', trodAll_mk1 (shut_bool Yba.underlying4 _), (trodAll_cons_mk (shut_int Yba.underlying3 w0) (trodAll_cons_mk (shut_int Yba.underlying88 w1) trodAll_mk0)), rfl, hg.frame _, fun h => by cases h⟩

theorem over : Rows.lawS2603CBoundaryRow.holds Yba.pinned (OpenSpec.ofChange Rows.lawS2603CBoundarySpec) :=
  OpenClaim.holds_of_wide 5 Yba.f5 rfl rfl rfl rfl rfl rfl rfl ⟨rfl, rfl, rfl, rfl, rfl⟩ rfl rfl rfl rfl rfl (by kernel_rfl) Yba.func5 (by kernel_rfl)
    (of_decide_eq_true (by kernel_rfl)) (by unfold Func.isWrapper; first | (rw [if_pos (by decide +kernel)]; kernel_rfl) | (rw [if_neg (by decide +kernel)]; exact ⟨rfl, rfl⟩))
    (fun os started H enc _ => lifted os started H enc)

/-- ████ THE STATEMENT ████ -/
theorem proved : Rows.LawS2603CBoundarySaid :=
  over
#print axioms proved
end Go.Proofs.Ybulkbawq.lawS2603CBoundary
