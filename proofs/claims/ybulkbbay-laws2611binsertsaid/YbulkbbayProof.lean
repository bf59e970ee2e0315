/-
  The proof of 'Rows.LawS2611BInsertSaid'.
-/
import Derived.Test.YbulkbbayLaw
import Derived.ProofKit
import Derived.OpenShut
import Derived.ShutString
import Derived.ChangeOld
import Derived.Below
import Derived.SliceStrings
namespace Go.Proofs.Ybulkbbay.lawS2611BInsert
open Go.ChangeShapes Go.WideShapes Go.ChangeAt Go.RowKit
open Go.ChangeMaps (open_string shut_string)

theorem own : ownKnob Yba.prog.godebug = none := by kernel_rfl
theorem laidOut : laidOutB Yba.prog = true := by kernel_rfl

set_option maxRecDepth 100000 in
theorem law_long0 (a0 a1 : Option Addr) (n0 c0 n1 c1 : Nat) (x : ByteArray) (y : Int) (b : Bool) (w : World) (h : (1024 : Int) < n0) :
    Calls Yba.prog 3 #[.slice a0 n0 c0, .slice a1 n1 c1, .string x, .int .u64 y, .bool b] w fun e w' => e = .returned (.bool true) ∧ Below w.heap.size w w' := by
  go_enter Yba.func3, Yba.ntmps3
  go_wp2
  go_ret
  exact ⟨rfl, Below.refl _ _⟩

set_option maxRecDepth 100000 in
theorem law_long1 (a0 a1 : Option Addr) (n0 c0 n1 c1 : Nat) (x : ByteArray) (y : Int) (b : Bool) (w : World) (h0 : ¬ (1024 : Int) < n0) (h : (1024 : Int) < n1) :
    Calls Yba.prog 3 #[.slice a0 n0 c0, .slice a1 n1 c1, .string x, .int .u64 y, .bool b] w fun e w' => e = .returned (.bool true) ∧ Below w.heap.size w w' := by
  go_enter Yba.func3, Yba.ntmps3
  go_wp2
  go_ret
  exact ⟨rfl, Below.refl _ _⟩

theorem walk (hv cv : Value) (L : List Str) (zs : List Int) (x : ByteArray) (y : Int) (b : Bool) (w : World) (hH : Strs w hv L) (hC : Cnts w cv zs) :
    Calls Yba.prog 3 #[hv, cv, .string x, .int .u64 y, .bool b] w fun e w' => e = .returned (.bool true) ∧ Below w.heap.size w w' := by
  by_cases hl : L.length ≤ 1024
  · by_cases hz : zs.length ≤ 1024
    · exact law_any hv cv L zs x y b w hH hC hl hz
    · obtain ⟨ha, hc, rfl⟩ := hH.shape
      obtain ⟨ca, cc, rfl⟩ := hC.shape
      exact law_long1 _ _ _ _ _ _ x y b w (by omega) (by omega)
  · obtain ⟨ha, hc, rfl⟩ := hH.shape
    obtain ⟨ca, cc, rfl⟩ := hC.shape
    exact law_long0 _ _ _ _ _ _ x y b w (by omega)

set_option maxHeartbeats 1000000 in
set_option maxRecDepth 100000 in
theorem lifted (os : Os) (started : os.Started) (H : Type) (enc : TypeId × Value → H) :
    ReturnsInHanded {} Yba.checked os 3 .any (Rows.lawS2611BInsertSpec.pre6 enc Yba.prog Yba.f3 Rows.lawS2611BInsertRow.domain false) (Rows.lawS2611BInsertSpec.post enc Yba.prog Yba.f3 false true false false) := by
  refine returnsInHanded_of_change (C := Yba.checked) own started (by kernel_rfl) Yba.func3
    (ChangeSpec.witness6 (enc := enc) (C := Yba.checked) false ⟨#[], #[.slice none 0 0, .slice none 0 0, .string ByteArray.empty, .int .u64 0, .bool false], []⟩ 8 (by kernel_rfl) (by kernel_rfl) (by kernel_rfl) (by kernel_rfl)) ?_
  intro W base args ds gs before hval0 hW hcnd _
  have hval : ∀ (j : Nat) t v, Yba.f3.params[j]? = some t → args[j]? = some v → Value.okWide Yba.prog W .any base t v := hval0
  have hW' := hW
  obtain ⟨p, q, hA0, hV, rfl, hfz, hnd⟩ := hW
  have hA : DataW.TrodAll enc Yba.prog W 0 (fun _ => true) true Yba.f3.params.toList args.toList ds p := hA0
  rw [Yba.params3] at hA hval
  obtain ⟨v0, vs0, d0, ds0, p0, q0, hargs, rfl, rfl, h0, r0⟩ := trodAll_cons hA
  obtain ⟨v1, vs1, d1, ds1, p1, q1, rfl, rfl, rfl, h1, r1⟩ := trodAll_cons r0
  obtain ⟨v2, vs2, d2, ds2, p2, q2, rfl, rfl, rfl, h2, r2⟩ := trodAll_cons r1
  obtain ⟨v3, vs3, d3, ds3, p3, q3, rfl, rfl, rfl, h3, r3⟩ := trodAll_cons r2
  obtain ⟨v4, vs4, d4, ds4, p4, q4, rfl, rfl, rfl, h4, r4⟩ := trodAll_cons r3
  obtain ⟨rfl, rfl, rfl⟩ := trodAll_nil r4
  obtain rfl : args = #[v0, v1, v2, v3, v4] := by cases args; simp_all
  obtain ⟨rfl, rfl⟩ := trodVars_none hV
  obtain ⟨L, hH⟩ : ∃ L, Strs W v0 L := by
    obtain ⟨a0, len, cap, rfl⟩ := okWide_slice Yba.underlying22 (hval 0 22 v0 rfl rfl)
    obtain ⟨fuel, hf⟩ := h0
    rcases open_strings Yba.underlying22 Yba.underlying9 (by kernel_rfl) hf with ⟨hcs, _⟩ | ⟨a, l, c, ss, hcs, _, hl, hm, hz, _, hcell, _⟩
    · simp [Value.cells] at hcs
      obtain ⟨rfl, rfl, rfl⟩ := hcs
      exact ⟨[], .inl ⟨rfl, rfl⟩⟩
    · simp [Value.cells] at hcs
      obtain ⟨rfl, rfl, rfl⟩ := hcs
      simp only [if_true] at hz
      have hlen : ((ss.take len).map ByteArray.toList).length = len := by simp; omega
      refine ⟨(ss.take len).map ByteArray.toList, .inr ⟨a, cap, by rw [hlen], fun j u hu => ?_⟩⟩
      have hj : j < len := by
        have := (List.getElem?_eq_some_iff.1 hu).1
        rw [List.length_map, hlen] at this
        exact this
      rw [hcell j (by omega), ← hu]
      have hjs : j < ss.length := by omega
      simp [List.getD, hj, hjs, str_of]
  obtain ⟨zs, hC⟩ : ∃ zs, Cnts W v1 zs := by
    obtain ⟨a0, len, cap, rfl⟩ := okWide_slice Yba.underlying23 (hval 1 23 v1 rfl rfl)
    obtain ⟨fuel, hf⟩ := h1
    rcases open_ints Yba.underlying23 Yba.underlying24 (by kernel_rfl) hf with ⟨hcs, _⟩ | ⟨a, l, c, zs, hcs, _, hl, hm, hz, _, hcell, hwf⟩
    · simp [Value.cells] at hcs
      obtain ⟨rfl, rfl, rfl⟩ := hcs
      exact ⟨[], And.intro (fun _ h => nomatch h) (.inl ⟨rfl, rfl⟩)⟩
    · simp [Value.cells] at hcs
      obtain ⟨rfl, rfl, rfl⟩ := hcs
      simp only [if_true] at hz
      have hlen : (zs.take len).length = len := by simp; omega
      refine ⟨zs.take len, And.intro (fun n hn => bounds_u64 (hwf n (List.mem_of_mem_take hn))) (.inr ⟨a, cap, by rw [hlen], fun j hj => ?_⟩)⟩
      rw [hlen] at hj
      rw [hcell j (by omega)]
      simp [List.getD, hj]
  have lt0 : ∀ x ∈ p0, x.block < W.heap.size := by obtain ⟨m, hm⟩ := h0; exact DataW.trod_lt m _ _ _ hm
  have lt1 : ∀ x ∈ p1, x.block < W.heap.size := by obtain ⟨m, hm⟩ := h1; exact DataW.trod_lt m _ _ _ hm
  obtain ⟨nm, rfl, rfl, rfl, wn⟩ := open_string Yba.underlying9 (hval 2 9 v2 rfl rfl) h2
  obtain ⟨y, rfl, rfl, rfl, wy⟩ := open_int Yba.underlying24 (hval 3 24 v3 rfl rfl) h3
  obtain ⟨b, rfl, rfl, rfl⟩ := open_bool Yba.underlying4 (hval 4 4 v4 rfl rfl) h4
  clear hA0 hval0
  refine (walk v0 v1 L zs nm y b W hH hC).mono fun e W' ⟨he, bel⟩ => ?_
  subst he
  exact ⟨_, rfl, _, _, _, [], _, [], hW', trodAll_mk1 (shut_bool Yba.underlying4 _), (trodAll_cons_mk (Below.trod laidOut (by kernel_rfl) (of_decide_eq_true (by kernel_rfl)) h0 bel lt0) (trodAll_cons_mk (Below.trod laidOut (by kernel_rfl) (of_decide_eq_true (by kernel_rfl)) h1 bel lt1) (trodAll_cons_mk (shut_string Yba.underlying9 wn) (trodAll_cons_mk (shut_int Yba.underlying24 wy) (trodAll_cons_mk (shut_bool Yba.underlying4 _) trodAll_mk0))))), rfl, bel.frame _, fun h => by cases h⟩

theorem over : Rows.lawS2611BInsertRow.holds Yba.pinned (OpenSpec.ofChange Rows.lawS2611BInsertSpec) :=
  OpenClaim.holds_of_wide 3 Yba.f3 rfl rfl rfl rfl rfl rfl rfl ⟨rfl, rfl, rfl, rfl, rfl⟩ rfl rfl rfl rfl rfl (by kernel_rfl) Yba.func3 (by kernel_rfl)
    (of_decide_eq_true (by kernel_rfl)) (by unfold Func.isWrapper; first | (rw [if_pos (by decide +kernel)]; kernel_rfl) | (rw [if_neg (by decide +kernel)]; exact ⟨rfl, rfl⟩))
    (fun os started H enc _ => lifted os started H enc)

theorem proved : Rows.LawS2611BInsertSaid := over
end Go.Proofs.Ybulkbbay.lawS2611BInsert
