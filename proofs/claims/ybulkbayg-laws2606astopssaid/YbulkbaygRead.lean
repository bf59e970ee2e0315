/-
  The arguments' reading.
-/
import Derived.Test.YbulkbaygTops
import Derived.ProofKit
import Derived.OpenShut
import Derived.ChangeOld
import Derived.Below
import Derived.Deep.Slices
import Derived.Deep.Strs
import Derived.Lib.SmallJoins
namespace Go.Proofs.Ybulkbayg
open Go.ChangeShapes Go.WideShapes Go.ChangeAt Go.RowKit

theorem cells57 : Yba.prog.cellsOf 57 = 4 := by kernel_rfl
theorem cells59 : Yba.prog.cellsOf 59 = 3 := by kernel_rfl
theorem cells5 : Yba.prog.cellsOf 5 = 1 := by kernel_rfl
theorem cells23 : Yba.prog.cellsOf 23 = 1 := by kernel_rfl
theorem cells55 : Yba.prog.cellsOf 55 = 1 := by kernel_rfl

section
variable {H : Type} {enc : TypeId × Value → H} {W : World}

theorem ints_of {fuel : Nat} {cs : List Value} {x : DataW H × List MemPlace} (h : DataW.trod enc Yba.prog W 0 (fun _ => true) true fuel 23 cs = some x) :
    ∃ (a : Option Addr) (c : Nat) (es : List Int), cs = [.slice a es.length c] ∧ Ints W (.slice a es.length c) es := by
  rcases open_ints Yba.underlying23 Yba.underlying5 cells5 h with ⟨rfl, _⟩ | ⟨a, l, c, zs, rfl, _, hl, hm, hz, _, hcell, hwf⟩
  · exact ⟨none, 0, [], rfl, And.intro (fun _ h => nomatch h) (.inl ⟨rfl, rfl⟩)⟩
  · simp only [if_true] at hz
    have hlen : (zs.take l).length = l := by simp; omega
    refine ⟨some a, c, zs.take l, by rw [hlen], And.intro (fun n hn => bounds_u8 (hwf n (List.mem_of_mem_take hn))) (.inr ⟨a, c, rfl, by rw [hlen]; exact hl, fun j hj => ?_⟩)⟩
    rw [hlen] at hj
    rw [hcell j (by omega)]
    simp [List.getD, hj]

theorem byte_of {fuel : Nat} {cs : List Value} {x : DataW H × List MemPlace} (h : DataW.trod enc Yba.prog W 0 (fun _ => true) true fuel 5 cs = some x) : ∃ n : Int, cs = [.int .u8 n] ∧ 0 ≤ n ∧ n ≤ 255 := by
  obtain ⟨n, rfl, _, hw⟩ := DataW.trod_int Yba.underlying5 h
  exact ⟨n, rfl, bounds_u8 hw⟩

theorem list3 {α : Type} {cs : List α} (h : cs.length = 3) : ∃ a b c, cs = [a, b, c] := by
  match cs, h with
  | [a, b, c], _ => exact ⟨a, b, c, rfl⟩
theorem list4 {α : Type} {cs : List α} (h : cs.length = 4) : ∃ a b c d, cs = [a, b, c, d] := by
  match cs, h with
  | [a, b, c, d], _ => exact ⟨a, b, c, d, rfl⟩

/-- Three cells that read as a sub. -/
def SubCs (W : World) (cs : List Value) (s : SubG) : Prop :=
  ∃ ea ec, cs = [.int .u8 s.n, .int .u8 s.t, .slice ea s.es.length ec] ∧ Ints W (.slice ea s.es.length ec) s.es ∧ (0 ≤ s.n ∧ s.n ≤ 255) ∧ (0 ≤ s.t ∧ s.t ≤ 255)
theorem sub_of {fuel : Nat} {cs : List Value} {x : DataW H × List MemPlace} (h : DataW.trod enc Yba.prog W 0 (fun _ => true) true fuel 59 cs = some x) : ∃ s, SubCs W cs s := by
  obtain ⟨y0, y1, y2, n, _, hl, h0, h1, h2⟩ := Deep.trod_struct3 Yba.underlying59 h
  rw [cells59] at hl
  obtain ⟨v0, v1, v2, rfl⟩ := list3 hl
  simp only [cells5, cells23, List.drop_zero, List.drop_succ_cons, List.take_succ_cons, List.take_zero] at h0 h1 h2
  obtain ⟨a, e0, ha⟩ := byte_of h0
  obtain ⟨b, e1, hb⟩ := byte_of h1
  obtain ⟨ea, ec, es, e2, he⟩ := ints_of h2
  cases e0; cases e1; cases e2
  exact ⟨⟨a, b, es⟩, ea, ec, rfl, he, ha, hb⟩

theorem subs_of {fuel : Nat} {cs : List Value} {x : DataW H × List MemPlace} (h : DataW.trod enc Yba.prog W 0 (fun _ => true) true fuel 55 cs = some x) : ∃ a c ss, cs = [.slice a (List.length ss) c] ∧ Subs W (.slice a (List.length ss) c) ss := by
  rcases Deep.open_slice Yba.underlying55 h with ⟨rfl, _⟩ | ⟨a, len, cap, m, n, D, Pl, rfl, _, hl, hm, hmm, _, hx⟩
  · exact ⟨none, 0, [], rfl, none, 0, rfl, Nat.le_refl _, .inl rfl⟩
  · simp only [if_true] at hmm
    have hall : ∀ i, i < len → ∃ s : SubG, ∃ cs', W.cells? 0 (a.add (i * 3)) 3 = some cs' ∧ SubCs W cs' s := by
      intro i hi
      obtain ⟨cs', h1, h2⟩ := hx i (by omega)
      rw [cells59] at h1
      obtain ⟨s, hs⟩ := sub_of h2
      exact ⟨s, cs', h1, hs⟩
    have hinh : Inhabited SubG := ⟨noSub⟩
    obtain ⟨f, hf⟩ := Deep.choose_lt hall
    refine ⟨some a, cap, (List.range len).map f, by simp, some a, cap, by simp, by simpa using hl, ?_⟩
    rcases Nat.eq_zero_or_pos len with rfl | hp
    · exact .inl rfl
    · refine .inr ?_
      obtain ⟨b, off, spot⟩ := a
      have hspot : spot = none := by
        obtain ⟨cs', h1, h2⟩ := hf 0 hp
        obtain ⟨ea, ec, rfl, _⟩ := h2
        have := (World.cells?_some h1).2.2 0 (by omega)
        simpa [Addr.add] using World.cell?_spot (this.trans (show _ = some _ from rfl))
      subst hspot
      refine ⟨b, off, rfl, fun j hj => ?_⟩
      simp at hj
      obtain ⟨cs', h1, h2⟩ := hf j hj
      obtain ⟨ea, ec, rfl, he, hn, ht⟩ := h2
      have hc := (World.cells?_some h1).2.2
      have e : (((List.range len).map f).getD j noSub) = f j := by simp [List.getD, hj]
      rw [e]
      have hat : ∀ i, i < 3 → W.cell? ⟨b, off + j * 3 + i, none⟩ = ([.int .u8 (f j).n, .int .u8 (f j).t, .slice ea (f j).es.length ec] : List Value)[i]? := by
        intro i hi
        have := hc i hi
        rw [add_plain] at this
        rw [add_plain] at this
        exact this
      exact ⟨hat 0 (by omega), hat 1 (by omega), ⟨ea, ec, hat 2 (by omega), he⟩, hn, ht⟩

/-- Four cells that read as a top. -/
def TopCs (W : World) (cs : List Value) (t : TopG) : Prop :=
  ∃ ea ec sa sc, cs = [.int .u8 t.n, .int .u8 t.t, .slice ea t.es.length ec, .slice sa t.subs.length sc] ∧ Ints W (.slice ea t.es.length ec) t.es ∧ Subs W (.slice sa t.subs.length sc) t.subs ∧ (0 ≤ t.n ∧ t.n ≤ 255) ∧ (0 ≤ t.t ∧ t.t ≤ 255)
theorem top_of {fuel : Nat} {cs : List Value} {x : DataW H × List MemPlace} (h : DataW.trod enc Yba.prog W 0 (fun _ => true) true fuel 57 cs = some x) : ∃ t, TopCs W cs t := by
  obtain ⟨y0, y1, y2, y3, n, _, hl, h0, h1, h2, h3⟩ := Joins.trod_struct4 Yba.underlying57 h
  rw [cells57] at hl
  obtain ⟨v0, v1, v2, v3, rfl⟩ := list4 hl
  simp only [cells5, cells23, cells55, List.drop_zero, List.drop_succ_cons, List.take_succ_cons, List.take_zero] at h0 h1 h2 h3
  obtain ⟨a, e0, ha⟩ := byte_of h0
  obtain ⟨b, e1, hb⟩ := byte_of h1
  obtain ⟨ea, ec, es, e2, he⟩ := ints_of h2
  obtain ⟨sa, sc, ss, e3, hs⟩ := subs_of h3
  cases e0; cases e1; cases e2; cases e3
  exact ⟨⟨a, b, es, ss⟩, ea, ec, sa, sc, rfl, he, hs, ha, hb⟩

theorem tops_of {fuel : Nat} {cs : List Value} {x : DataW H × List MemPlace} (h : DataW.trod enc Yba.prog W 0 (fun _ => true) true fuel 22 cs = some x) : ∃ a c ts, cs = [.slice a (List.length ts) c] ∧ List.length ts ≤ 9223372036854775807 ∧ Tops W (.slice a (List.length ts) c) ts := by
  rcases Deep.open_slice Yba.underlying22 h with ⟨rfl, _⟩ | ⟨a, len, cap, m, n, D, Pl, rfl, _, hl, hm, hmm, _, hx⟩
  · exact ⟨none, 0, [], rfl, by simp, none, 0, rfl, Nat.le_refl _, .inl rfl⟩
  · simp only [if_true] at hmm
    have hall : ∀ i, i < len → ∃ t : TopG, ∃ cs', W.cells? 0 (a.add (i * 4)) 4 = some cs' ∧ TopCs W cs' t := by
      intro i hi
      obtain ⟨cs', h1, h2⟩ := hx i (by omega)
      rw [cells57] at h1
      obtain ⟨s, hs⟩ := top_of h2
      exact ⟨s, cs', h1, hs⟩
    have hinh : Inhabited TopG := ⟨noTop⟩
    obtain ⟨f, hf⟩ := Deep.choose_lt hall
    refine ⟨some a, cap, (List.range len).map f, by simp, by simp [maxLen] at hm ⊢; omega, some a, cap, by simp, by simpa using hl, ?_⟩
    rcases Nat.eq_zero_or_pos len with rfl | hp
    · exact .inl rfl
    · refine .inr ?_
      obtain ⟨b, off, spot⟩ := a
      have hspot : spot = none := by
        obtain ⟨cs', h1, h2⟩ := hf 0 hp
        obtain ⟨ea, ec, sa, sc, rfl, _⟩ := h2
        have := (World.cells?_some h1).2.2 0 (by omega)
        simpa [Addr.add] using World.cell?_spot (this.trans (show _ = some _ from rfl))
      subst hspot
      refine ⟨b, off, rfl, fun j hj => ?_⟩
      simp at hj
      obtain ⟨cs', h1, h2⟩ := hf j hj
      obtain ⟨ea, ec, sa, sc, rfl, he, hs, hn, ht⟩ := h2
      have hc := (World.cells?_some h1).2.2
      have e : (((List.range len).map f).getD j noTop) = f j := by simp [List.getD, hj]
      rw [e]
      have hat : ∀ i, i < 4 → W.cell? ⟨b, off + j * 4 + i, none⟩ = ([.int .u8 (f j).n, .int .u8 (f j).t, .slice ea (f j).es.length ec, .slice sa (f j).subs.length sc] : List Value)[i]? := by
        intro i hi
        have := hc i hi
        rw [add_plain] at this
        rw [add_plain] at this
        exact this
      exact ⟨hat 0 (by omega), hat 1 (by omega), ⟨ea, ec, hat 2 (by omega), he⟩, ⟨sa, sc, hat 3 (by omega), hs⟩, hn, ht⟩
end
end Go.Proofs.Ybulkbayg
