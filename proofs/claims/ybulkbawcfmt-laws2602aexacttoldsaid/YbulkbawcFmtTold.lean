/-
  der.LawS2602AExact: from the walks to the told card. The law hands back a bool alone: no text of fmt's is named, so no text's lemma is wanted; the walk goes for every F, and is handed F.told.
-/
import Derived.Test.YbulkbawcFmtWalks
import Derived.Test.YbulkbawcFmtCards
import Derived.ProofKit
import Derived.ChangeSlices
import Derived.ChangeSame
import Derived.ChangeMaps5
import Derived.JoinedOf
import Derived.Carry
import Derived.Stop.JoinedAt
import Derived.Stop.Texts
import Derived.Stop.JoinedTold
import Derived.SizedLaws
import Derived.SevenToldRow
import Derived.OpenShut
namespace Go.Proofs.YbulkbawcFmt
open Go.ChangeShapes Go.WideShapes Go.ChangeAt Go.RowKit Go.Kit
open Go.Extern.Stop Go.Stop Go.Extern

theorem own : ownKnob Ybaf.prog.godebug = none := by kernel_rfl
theorem laidOut : laidOutB Ybaf.pinned.checked.prog = true := by kernel_rfl
theorem cells5 : Ybaf.prog.cellsOf 5 = 1 := by kernel_rfl
theorem stops : Rows.lawS2602AExactRow.stops = Ybaf.pinned.checked.prog.stops := by kernel_rfl
theorem stopKnobs : Ybaf.pinned.checked.prog.stopKnobs = [] := by kernel_rfl
theorem quietly (os : Os) : Stop.quiet Ybaf.pinned.checked.prog os := by
  intro k hk
  rw [stopKnobs] at hk
  cases hk

set_option maxRecDepth 100000 in
theorem exact_lifted (os : Os) (started : os.Started) (H : Type) (enc : TypeId × Value → H) :
    ReturnsInTold none {} Ybaf.checked os 3 .any Input.okWide ((OpenSpec.ofChange Rows.lawS2602AExactSpec).preRow enc Ybaf.prog Ybaf.f3 [] false []) (fun F => ((OpenSpec.ofChange Rows.lawS2602AExactSpec).at F).post enc Ybaf.prog Ybaf.f3 false true false false) (aloneAtReturn Ybaf.prog) nothingAlways := by
  refine returnsInTold_of_row (C := Ybaf.checked) (s := OpenSpec.ofChange Rows.lawS2602AExactSpec) (by kernel_rfl) own started (by kernel_rfl) Ybaf.func3
    (OpenSpec.witness_stopped (enc := enc) (C := Ybaf.checked) false ⟨#[], #[.slice none 0 0, .slice none 0 0], []⟩ 8 (by kernel_rfl) (by kernel_rfl) (by kernel_rfl) (by kernel_rfl)) ?_
  intro F W base args ds gs before _ hF hval0 hW _ _ hsz _ _
  have hval : ∀ (j : Nat) t v, Ybaf.f3.params[j]? = some t → args[j]? = some v → Value.okWide Ybaf.prog W .any base t v := hval0
  have hW' := hW
  obtain ⟨p, q, hA0, hV, rfl, _, _⟩ := hW
  have hA : DataW.TrodAll enc Ybaf.prog W 0 (fun _ => true) true Ybaf.f3.params.toList args.toList ds p := hA0
  rw [Ybaf.params3] at hA hval
  obtain ⟨v0, v1, d0, d1, p0, p1, rfl, rfl, rfl, h0, h1⟩ := trodAll_two hA
  obtain ⟨rfl, rfl⟩ := trodVars_none hV
  obtain ⟨a0, n0, c0, rfl⟩ := okWide_slice Ybaf.underlying22 (hval 0 22 v0 rfl rfl)
  obtain ⟨a1, n1, c1, rfl⟩ := okWide_slice Ybaf.underlying22 (hval 1 22 v1 rfl rfl)
  have h0k := h0
  obtain ⟨fuel, hf⟩ := h0
  clear hA0 hval0
  simp only [List.append_nil] at hW'
  have hlt : ∀ x ∈ p0 ++ p1, x.block < W.heap.size := fun x hx => by simpa using hW'.lt x hx
  have hargs0 : ∀ (W' : World), Below W.heap.size W W' → DataW.Trod enc Ybaf.prog W' 0 (fun b => decide (b < W.heap.size)) true 22 (.slice a0 n0 c0) d0 p0 :=
    fun W' hn => Below.trod laidOut (by kernel_rfl) (of_decide_eq_true (by kernel_rfl)) h0k hn (fun x hx => hlt x (List.mem_append_left _ hx))
  have hargs1 : ∀ (W' : World), Below W.heap.size W W' → DataW.Trod enc Ybaf.prog W' 0 (fun b => decide (b < W.heap.size)) true 22 (.slice a1 n1 c1) d1 p1 :=
    fun W' hn => Below.trod laidOut (by kernel_rfl) (of_decide_eq_true (by kernel_rfl)) h1 hn (fun x hx => hlt x (List.mem_append_right _ hx))
  have hwalk : Calls Ybaf.prog 3 #[.slice a0 n0 c0, .slice a1 n1 c1] W fun e w' => e = .returned (.bool true) ∧ Below W.heap.size W w' := by
    by_cases g0 : (1024 : Int) < n0
    · exact law_long0 a0 a1 n0 c0 n1 c1 W g0
    by_cases g1 : (1024 : Int) < n1
    · exact law_long1 a0 a1 n0 c0 n1 c1 W g0 g1
    by_cases g2 : n0 = 1
    · subst g2
      rcases open_ints Ybaf.underlying22 Ybaf.underlying5 cells5 hf with ⟨hcs, hx⟩ | ⟨a, len', cap', zs, hcs, _, hl, hm, hz, hx, hcell, hwz⟩
      · simp [Value.cells] at hcs
      · simp [Value.cells] at hcs
        obtain ⟨rfl, rfl, rfl⟩ := hcs
        simp only [if_true] at hz
        obtain ⟨b, off, rfl, hc⟩ := ints_at hcell (by omega)
        have hc0 := hc 0 (by omega)
        simp only [Nat.add_zero] at hc0
        have hw0 : (Lit.int .u8 (zs.getD 0 0)).wf = true := by
          cases zs with
          | nil => simp at hz; omega
          | cons z zs => exact hwz z (List.mem_cons_self)
        exact law_ok b off a1 _ n1 c1 _ W g1 hc0 (bounds_u8 hw0).1
    · exact law_bad F.told a0 a1 n0 c0 n1 c1 W hF g0 g1 (by rw [bne_iff_ne]; omega)
  refine hwalk.mono fun e W' ⟨he, hnx⟩ => ?_
  subst he
  refine ⟨_, rfl, _, _, _, [], p0 ++ p1, [], hW', ?_, trodAll_mk2 (hargs0 _ hnx) (hargs1 _ hnx), rfl, hnx.frame _, fun h => by cases h⟩
  exact trodAll_mk1 (shut_bool Ybaf.underlying4 _)

theorem exact_told : Rows.LawS2602AExactToldSaid :=
  Claim7.holds_of_told_any 3 Ybaf.f3 _ [] [] _ _ _ (by kernel_rfl) rfl rfl rfl laidOut (by kernel_rfl) rfl ⟨rfl, rfl, rfl, rfl, rfl, rfl, rfl⟩ rfl rfl (by kernel_rfl) (by kernel_rfl) Ybaf.func3 (by kernel_rfl)
    (of_decide_eq_true (by kernel_rfl)) (of_decide_eq_true (by kernel_rfl)) stops rfl stopKnobs.symm (by kernel_rfl)
    (by kernel_rfl) (by kernel_rfl) (by kernel_rfl) (by kernel_rfl) (by kernel_rfl) (by kernel_rfl) (by kernel_rfl) (by kernel_rfl) (by kernel_rfl) rfl (by kernel_rfl) rfl rfl
    rfl rfl
    rfl (by kernel_rfl) (by kernel_rfl) (by kernel_rfl) (by decide) (by kernel_rfl)
    (OpenClaim.moreEntering_of (by kernel_rfl) (by kernel_rfl) (by kernel_rfl) (by kernel_rfl) (by kernel_rfl) (by kernel_rfl) (by kernel_rfl) (by kernel_rfl) (by kernel_rfl) (by kernel_rfl))
    ⟨_, WideRow.started_initial, quietly _⟩
    (fun os started _ H enc _ => exact_lifted os started H enc)
#print axioms exact_told

end Go.Proofs.YbulkbawcFmt
