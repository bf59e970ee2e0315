/-
  The law's first argument as it lies in memory; zzs2606atoobig.
-/
import Derived.Test.YbulkbaygList
namespace Go.Proofs.Ybulkbayg
open Go.RowKit

structure SubG where
  n : Int
  t : Int
  es : List Int
structure TopG where
  n : Int
  t : Int
  es : List Int
  subs : List SubG
def noSub : SubG := ⟨0, 0, []⟩
def noTop : TopG := ⟨0, 0, [], []⟩

/-- The three cells from offset o of block b on hold s. -/
structure SubAt (w : World) (b o : Nat) (s : SubG) : Prop where
  cn : w.cell? ⟨b, o, none⟩ = some (.int .u8 s.n)
  ct : w.cell? ⟨b, o + 1, none⟩ = some (.int .u8 s.t)
  ce : ∃ ea ec, w.cell? ⟨b, o + 2, none⟩ = some (.slice ea s.es.length ec) ∧ Ints w (.slice ea s.es.length ec) s.es
  n0 : 0 ≤ s.n ∧ s.n ≤ 255
  t0 : 0 ≤ s.t ∧ s.t ≤ 255

def Subs (w : World) (v : Value) (ss : List SubG) : Prop :=
  ∃ a c, v = .slice a ss.length c ∧ ss.length ≤ c ∧ (ss = [] ∨ ∃ b off, a = some ⟨b, off, none⟩ ∧ ∀ j, j < ss.length → SubAt w b (off + j * 3) (ss.getD j noSub))

/-- The four cells from offset o of block b on hold t. -/
structure TopAt (w : World) (b o : Nat) (t : TopG) : Prop where
  cn : w.cell? ⟨b, o, none⟩ = some (.int .u8 t.n)
  ct : w.cell? ⟨b, o + 1, none⟩ = some (.int .u8 t.t)
  ce : ∃ ea ec, w.cell? ⟨b, o + 2, none⟩ = some (.slice ea t.es.length ec) ∧ Ints w (.slice ea t.es.length ec) t.es
  cs : ∃ sa sc, w.cell? ⟨b, o + 3, none⟩ = some (.slice sa t.subs.length sc) ∧ Subs w (.slice sa t.subs.length sc) t.subs
  n0 : 0 ≤ t.n ∧ t.n ≤ 255
  t0 : 0 ≤ t.t ∧ t.t ≤ 255

def Tops (w : World) (v : Value) (ts : List TopG) : Prop :=
  ∃ a c, v = .slice a ts.length c ∧ ts.length ≤ c ∧ (ts = [] ∨ ∃ b off, a = some ⟨b, off, none⟩ ∧ ∀ j, j < ts.length → TopAt w b (off + j * 4) (ts.getD j noTop))

theorem SubAt.below {w w' : World} {b o : Nat} {s : SubG} (h : SubAt w b o s) (hb : Below w.heap.size w w') : SubAt w' b o s := by
  have hlt := World.block_lt_of_cell? _ _ h.cn
  have c : ∀ k v, w.cell? ⟨b, k, none⟩ = some v → w'.cell? ⟨b, k, none⟩ = some v := fun k v hk => (hb.cell (p := ⟨b, k, none⟩) hlt).trans hk
  obtain ⟨ea, ec, h1, h2⟩ := h.ce
  exact ⟨c _ _ h.cn, c _ _ h.ct, ⟨ea, ec, c _ _ h1, h2.below hb⟩, h.n0, h.t0⟩
theorem Subs.below {w w' : World} {v : Value} {ss : List SubG} (h : Subs w v ss) (hb : Below w.heap.size w w') : Subs w' v ss := by
  obtain ⟨a, c, rfl, hc, r⟩ := h
  refine ⟨a, c, rfl, hc, ?_⟩
  rcases r with rfl | ⟨b, off, rfl, g⟩
  · exact .inl rfl
  · exact .inr ⟨b, off, rfl, fun j hj => (g j hj).below hb⟩
theorem TopAt.below {w w' : World} {b o : Nat} {t : TopG} (h : TopAt w b o t) (hb : Below w.heap.size w w') : TopAt w' b o t := by
  have hlt := World.block_lt_of_cell? _ _ h.cn
  have c : ∀ k v, w.cell? ⟨b, k, none⟩ = some v → w'.cell? ⟨b, k, none⟩ = some v := fun k v hk => (hb.cell (p := ⟨b, k, none⟩) hlt).trans hk
  obtain ⟨ea, ec, h1, h2⟩ := h.ce
  obtain ⟨sa, sc, h3, h4⟩ := h.cs
  exact ⟨c _ _ h.cn, c _ _ h.ct, ⟨ea, ec, c _ _ h1, h2.below hb⟩, ⟨sa, sc, c _ _ h3, h4.below hb⟩, h.n0, h.t0⟩
theorem Tops.below {w w' : World} {v : Value} {ts : List TopG} (h : Tops w v ts) (hb : Below w.heap.size w w') : Tops w' v ts := by
  obtain ⟨a, c, rfl, hc, r⟩ := h
  refine ⟨a, c, rfl, hc, ?_⟩
  rcases r with rfl | ⟨b, off, rfl, g⟩
  · exact .inl rfl
  · exact .inr ⟨b, off, rfl, fun j hj => (g j hj).below hb⟩

/-- Not too big. -/
def SmallTop (t : TopG) : Prop := t.es.length ≤ 256 ∧ t.subs.length ≤ 256 ∧ ∀ j, j < t.subs.length → (t.subs.getD j noSub).es.length ≤ 256
def Small (ts : List TopG) : Prop := ts.length ≤ 256 ∧ ∀ j, j < ts.length → SmallTop (ts.getD j noTop)

/-- What zzs2606atoobig answers. -/
def Big (ts : List TopG) (e : Ending) : Prop := ∃ b, e = .returned (.bool b) ∧ (b = false → Small ts)

set_option maxHeartbeats 1000000 in
theorem too_big (v : Value) (ts : List TopG) (w : World) (h : Tops w v ts) (_hmax : ts.length ≤ 9223372036854775807) :
    Calls Yba.prog 7 #[v] w fun e w' => Big ts e ∧ w' = w := by
  obtain ⟨a, c, rfl, hc, r⟩ := h
  by_cases h256 : (256 : Int) < ts.length
  · go_enter Yba.func7, Yba.ntmps7
    go_wp2
    go_ret
    exact ⟨⟨true, rfl, fun h => by cases h⟩, rfl⟩
  · have HR := hide r
    clear r
    go_enter Yba.func7, Yba.ntmps7
    go_wp2
    go_loopg [10] ts.length (fun g s10 wr => ∃ k : Nat, k ≤ ts.length ∧ ts.length - k ≤ g ∧ s10 = .int .i64 k ∧ wr = w ∧ Hid (∀ j, j < k → SmallTop (ts.getD j noTop)))
    case atStart => exact ⟨0, Nat.zero_le _, by omega, rfl, rfl, fun j hj => absurd hj (Nat.not_lt_zero _)⟩
    case round =>
      obtain ⟨k, hk, hg, rfl, rfl, A⟩ := hrel
      by_cases hlt : k < ts.length
      · obtain ⟨b, off, rfl, G⟩ : ∃ b off, a = some ⟨b, off, none⟩ ∧ Hid (TopAt wr b (off + k * 4) (ts.getD k noTop)) := by
          rcases HR.out with h | ⟨b, off, rfl, g⟩
          · rw [h] at hlt; simp at hlt
          · exact ⟨b, off, rfl, g k hlt⟩
        obtain ⟨ea, ec, h1, h2⟩ := G.out.ce
        obtain ⟨sa, sc, h3, h4⟩ := G.out.cs
        clear h2
        by_cases b1 : (256 : Int) < (ts.getD k noTop).es.length
        · clear h4 G
          generalize (ts.getD k noTop).es.length = ne at *
          generalize (ts.getD k noTop).subs.length = ns at *
          go_wp2
          go_ret
          exact ⟨⟨true, rfl, fun h => by cases h⟩, rfl⟩
        · by_cases b2 : (256 : Int) < (ts.getD k noTop).subs.length
          · clear h4 G
            generalize (ts.getD k noTop).es.length = ne at *
            generalize (ts.getD k noTop).subs.length = ns at *
            go_wp2
            go_ret
            exact ⟨⟨true, rfl, fun h => by cases h⟩, rfl⟩
          · generalize ht : ts.getD k noTop = t at *
            have HT := hide ht
            have HS := hide h4
            clear ht h4 G HR
            go_wp2_with fail
            go_loopg [35] t.subs.length (fun g s35 wr' => ∃ m : Nat, m ≤ t.subs.length ∧ t.subs.length - m ≤ g ∧ s35 = .int .i64 m ∧ wr' = wr ∧ Hid (∀ j, j < m → (t.subs.getD j noSub).es.length ≤ 256))
            case atStart => exact ⟨0, Nat.zero_le _, by omega, rfl, rfl, fun j hj => absurd hj (Nat.not_lt_zero _)⟩
            case round =>
              obtain ⟨m, hm, hgm, rfl, rfl, B⟩ := hrel
              by_cases hlm : m < t.subs.length
              · obtain ⟨sb, so, rfl, GS⟩ : ∃ b off, sa = some ⟨b, off, none⟩ ∧ Hid (SubAt wr b (off + m * 3) (t.subs.getD m noSub)) := by
                  obtain ⟨a', c', e, _, r⟩ := HS.out
                  cases e
                  rcases r with h | ⟨b, off, rfl, g⟩
                  · rw [h] at hlm; simp at hlm
                  · exact ⟨b, off, rfl, g m hlm⟩
                obtain ⟨ea2, ec2, h5, _⟩ := GS.out.ce
                by_cases b3 : (256 : Int) < (t.subs.getD m noSub).es.length
                · clear GS
                  generalize (t.subs.getD m noSub).es.length = ne2 at *
                  go_wp2
                  go_ret
                  exact ⟨⟨true, rfl, fun h => by cases h⟩, rfl⟩
                · have B3 := hide (show (t.subs.getD m noSub).es.length ≤ 256 by omega)
                  clear GS
                  generalize hne2 : (t.subs.getD m noSub).es.length = ne2 at h5 b3
                  clear hne2
                  go_wp2
                  go_roundg (t.subs.length - (m + 1))
                  case measure => omega
                  case rel =>
                    refine ⟨m + 1, by omega, by omega, by go_num, rfl, fun j hj => ?_⟩
                    by_cases e : j = m
                    · subst e; exact B3.out
                    · exact B.out j (by omega)
              · go_wp2
                go_roundg (ts.length - (k + 1))
                case measure => omega
                case rel =>
                  refine ⟨k + 1, by omega, by omega, by go_num, rfl, fun j hj => ?_⟩
                  by_cases e : j = k
                  · subst e; rw [HT.out]; exact ⟨by omega, by omega, fun j hj => B.out j (by omega)⟩
                  · exact A.out j (by omega)
      · go_wp2
        go_ret
        exact ⟨⟨false, rfl, fun _ => ⟨by omega, fun j hj => A.out j (by omega)⟩⟩, rfl⟩
end Go.Proofs.Ybulkbayg
