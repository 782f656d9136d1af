import Derived.Test.YbulkexpteWant
import Derived.Test.YbulkexpteGen
import Derived.Deep.LoopGhost
import Derived.Deep.Light
namespace Go.Proofs.Ybulkexpte
open Go.RowKit
set_option linter.unusedVariables false

structure Got (B : Nat) (w0 w : World) (s : Int) (F L : Nat → Int) (v : Value) (k : Nat) (vs : List Value) : Prop where
  below : Below B w0 w
  own : w.ownsRow B 28 1 v k vs
  each : ∀ i, i < k → ∃ g cap, vs[i]? = some (.slice (some ⟨g, 0, none⟩) (comp s (F i) (L i)).length cap) ∧ w.ownsRow B 5 1 (.slice (some ⟨g, 0, none⟩) (comp s (F i) (L i)).length cap) (comp s (F i) (L i)).length (cells (comp s (F i) (L i)))

theorem own_cells {B n : Nat} {v : Value} {zs : List Int} {w : World} {g cap : Nat} (h : w.ownsRow B 5 1 (.slice (some ⟨g, 0, none⟩) n cap) n (cells zs)) : n = zs.length ∧ ∀ j u, (cells zs)[j]? = some u → w.cell? ⟨g, j, none⟩ = some u := by
  have hl := h.1
  simp [cells] at hl
  refine ⟨hl.symm, fun j u hu => ?_⟩
  have hj : j < n := by
    have := (List.getElem?_eq_some_iff.1 hu).1
    simp [cells] at this; omega
  rw [h.cellAt j (by omega), hu]

theorem own_ne {B B' m n c : Nat} {v : Value} {w : World} {g : Nat} {xs ys : List Value} (h : w.ownsRow B 5 1 (.slice (some ⟨g, 0, none⟩) m c) m xs) (k : w.ownsRow B' 28 1 v n ys) : some g ≠ v.ownBlock := by
  intro e
  rcases h.2 with ⟨h0, _⟩ | ⟨g1, cap, cur, h1, _, hg, _⟩
  · simp at h0
  · simp only [Value.slice.injEq, Option.some.injEq, Addr.mk.injEq, and_true, true_and] at h1
    obtain ⟨rfl, rfl⟩ := h1
    rcases k.2 with ⟨rfl, _⟩ | ⟨g2, cap2, cur2, rfl, _, hg2, _⟩
    · simp [Value.ownBlock] at e
    · simp [Value.ownBlock] at e
      subst e
      rw [hg] at hg2
      simp at hg2

theorem own_base {B B' e m : Nat} {v : Value} {w : World} {xs : List Value} (h : w.ownsRow B e 1 v m xs) (hB : B' ≤ B) : w.ownsRow B' e 1 v m xs := by
  refine ⟨h.1, ?_⟩
  rcases h.2 with h0 | ⟨g, cap, cur, rfl, hb, r⟩
  · exact .inl h0
  · exact .inr ⟨g, cap, cur, rfl, by omega, r⟩

/-- What one round makes of the relation: a component 'cv' was built above the old heap, then appended. -/
theorem got_step {B : Nat} {w0 w w2 w3 : World} {s : Int} {F L : Nat → Int} {v v' : Value} {k : Nat} {vs : List Value} {g cap : Nat} {o : Obj} (hB : B ≤ w.heap.size)
    (h : Got B w0 w s F L v k vs) (hb : Below w.heap.size w w2) (hc : w2.ownsRow (w.heap.size + 1) 5 1 (.slice (some ⟨g, 0, none⟩) (comp s (F k) (L k)).length cap) (comp s (F k) (L k)).length (cells (comp s (F k) (L k))))
    (hown' : w3.ownsRow B 28 1 v' (k + 1) (vs ++ [.slice (some ⟨g, 0, none⟩) (comp s (F k) (L k)).length cap])) (hg : (w2.alloc o).grownBy w3 v.ownBlock) :
    Got B w0 w3 s F L v' (k + 1) (vs ++ [.slice (some ⟨g, 0, none⟩) (comp s (F k) (L k)).length cap]) := by
  have hsz := hb.size
  have hlen : vs.length = k := by have := h.own.1; simpa using this
  have own2 := own_below h.own hb
  refine ⟨?_, hown', ?_⟩
  · exact ((h.below.trans (hb.mono hB)).alloc (by omega) o).grown hg (by simp; omega) (fun q hq => (h.own.lt q hq).1)
  · intro i hi
    by_cases e : i = k
    · subst e
      refine ⟨g, cap, ?_, ?_⟩
      · rw [List.getElem?_append_right (by omega), hlen, Nat.sub_self]; rfl
      · exact (((own_base hc (by omega)).alloc o).kept hg (.inr (own_ne hc own2)))
    · obtain ⟨g', cap', e1, e2⟩ := h.each i (by omega)
      refine ⟨g', cap', ?_, ?_⟩
      · rw [List.getElem?_append_left (by omega)]; exact e1
      · have e3 := own_below e2 hb
        exact (e3.alloc o).kept hg (.inr (own_ne e3 own2))

theorem comps_any (b off n cap : Nat) (s : Int) (F L : Nat → Int) (w : World) (hn0 : 0 < n) (hn : n ≤ 1048576) (hs0 : 0 ≤ s) (hs : s ≤ 255)
    (hF : ∀ i, i < n → 0 ≤ F i ∧ F i ≤ 65535) (hL : ∀ i, i < n → 0 ≤ L i ∧ L i ≤ 65535)
    (h1 : ∀ i, i < n → w.cell? ⟨b, off + i * 2, none⟩ = some (.int .u16 (F i))) (h2 : ∀ i, i < n → w.cell? ⟨b, off + i * 2 + 1, none⟩ = some (.int .u16 (L i))) :
    Calls Yba.prog 4 #[.int .u8 s, .slice (some ⟨b, off, none⟩) n cap] w fun e w' => ∃ v vs, e = .returned v ∧ Got w.heap.size w w' s F L v n vs := by
  have hbs : b < w.heap.size := World.block_lt_of_cell? _ _ (h1 0 hn0)
  have hnz : ((n : Int) == 0) = false := by simp; omega
  go_enter Yba.func4, Yba.ntmps4
  go_wp2
  go_loopg [15, 5] n (fun gk i v wr => ∃ k : Nat, ∃ vs, k ≤ n ∧ gk = n - k ∧ i = .int .i64 k ∧ Got w.heap.size w wr s F L v k vs)
  case atStart => exact ⟨0, [], Nat.zero_le _, rfl, rfl, Below.refl _ _, World.ownsRow_nil _ _ _ _, fun i hi => absurd hi (Nat.not_lt_zero _)⟩
  case round =>
    obtain ⟨k, vs, hk, rfl, rfl, hG⟩ := hrel
    by_cases hlt : k < n
    · have hkz : (k : Int) < (n : Int) := by omega
      have hc1 : wr.cell? ⟨b, off + k * 2, none⟩ = some (.int .u16 (F k)) := (hG.below.cell hbs).trans (h1 k hlt)
      have hc2 : wr.cell? ⟨b, off + k * 2 + 1, none⟩ = some (.int .u16 (L k)) := (hG.below.cell hbs).trans (h2 k hlt)
      clear h1 h2
      obtain ⟨f, hf⟩ : ∃ f, F k = f := ⟨_, rfl⟩
      obtain ⟨l, hl⟩ : ∃ l, L k = l := ⟨_, rfl⟩
      have hFk := hF k hlt
      have hLk := hL k hlt
      rw [hf] at hc1 hFk
      rw [hl] at hc2 hLk
      have HE : Hid (F k = f ∧ L k = l) := ⟨hf, hl⟩
      clear hf hl hF hL
      have hBr := hG.below.size
      have own0 : ((wr.alloc (.cells #[.int .u16 f, .int .u16 l] 27)).alloc (.cells #[.int .u8 s] 5)).ownsRow (wr.heap.size + 1) 5 1 (.slice (some ⟨wr.heap.size + 1, 0, none⟩) 1 1) 1 [.int .u8 s] := by
        have := World.ownsRow_lit (base := wr.heap.size + 1) (e := 5) (size := 1) (wr.alloc (.cells #[.int .u16 f, .int .u16 l] 27)) #[.int .u8 s] 1 (by simp) (by decide) rfl
        simpa using this
      go_wp2_with fail
      refine (app16 (wr.heap.size + 1) 1 f _ [.int .u8 s] _ hFk.1 hFk.2 own0 (by simp) (by omega)).mono ?_
      rintro e w1 ⟨g, cp, rfl, own1, hg1, hBg, hgl⟩
      simp only [List.cons_append, List.nil_append, Nat.reduceAdd] at own1
      have hb1 : Below wr.heap.size wr w1 := (((Below.refl _ _).alloc (Nat.le_refl _) _).alloc (by simp) _).grown hg1 (by simp; omega) (fun q hq => by simp [Value.ownBlock] at hq; omega)
      have r0 : w1.cell? ⟨wr.heap.size, 0, none⟩ = some (.int .u16 f) := hg1.cell (by rw [World.cell?_alloc_past _ _ _ (by simp)]; simp) (by simp [Value.ownBlock])
      have r1 : w1.cell? ⟨wr.heap.size, 1, none⟩ = some (.int .u16 l) := hg1.cell (by rw [World.cell?_alloc_past _ _ _ (by simp)]; simp) (by simp [Value.ownBlock])
      have hr1 : wr.heap.size < w1.heap.size := by omega
      clear own0 hg1 hc1 hc2 hkz
      obtain ⟨i0, hi, hz0, hz1, hz2⟩ := info_parts Yba.info28
      by_cases hne : l = f
      · have htest : (l != f) = false := by simp [hne]
        have own5 := own_below hG.own hb1
        have HE2 : Hid (comp s (F k) (L k) = [s, f / 256, f % 256]) := by show _ = _; rw [HE.out.1, HE.out.2, comp, if_pos hne.symm]
        clear hne
        go_wp2_with (first
          | (at_builtin; refine wpList_append_own _ rfl _ _ 23 rfl w.heap.size 28 i0 (.slice none 0 0) 1 24 Yba.underlying23 hi hz0 hz1 hz2 rfl (by decide) _ _ _ rfl (own5.alloc _) ⟨w1.heap.size, 0, none⟩ 1 1 [.slice (some ⟨g, 0, none⟩) 3 cp] rfl rfl ?c1 ?c2 ?c3 ?c4 ?c5 ?_))
        case c1 => intro j u hj; match j, hj with | 0, hj => simp at hj; subst hj; simp [Addr.add]
        case c2 => intro u hu; simp at hu; subst hu; rfl
        case c3 => unfold maxLen; omega
        case c4 => omega
        case c5 => simp; omega
        intro v' w3 own3 hg3 _
        have G3 := got_step (g := g) (cap := cp) (o := .cells #[.slice (some ⟨g, 0, none⟩) 3 cp] 28) hBr hG hb1 (by rw [HE2.out]; exact own1) (by rw [HE2.out]; exact own3) hg3
        clear own3 hg3 own5 own1
        go_wp2
        go_roundg (n - (k + 1))
        case measure => omega
        case rel => exact ⟨k + 1, _, by omega, rfl, by go_num, G3⟩
      · have htest : (l != f) = true := by simpa using hne
        have HE2 : Hid (comp s (F k) (L k) = [(s + 1) % 256, f / 256, f % 256, l / 256, l % 256]) := by show _ = _; rw [HE.out.1, HE.out.2, comp, if_neg (fun e => hne e.symm)]
        have c0 : w1.cell? ⟨g, 0, none⟩ = some (.int .u8 s) := by rw [own1.cellAt 0 (by omega)]; rfl
        have f0 : w1.frozen? ⟨g, 0, none⟩ = false := own1.frozenAt 0
        have hgr : ¬ g = wr.heap.size := by omega
        clear hne
        obtain ⟨own1s, hgs⟩ := own1.stored 0 (.int .u8 ((s + 1) % 256))
        simp only [List.set_cons_zero] at own1s
        go_wp2_with fail
        refine (app16 (wr.heap.size + 1) 3 l _ _ _ hLk.1 hLk.2 own1s (by simp; omega) (by omega)).mono ?_
        rintro e w2 ⟨g2, cp2, rfl, own2, hg2, hBg2, hgl2⟩
        simp only [List.cons_append, List.nil_append, Nat.reduceAdd] at own2
        have hb2 : Below wr.heap.size wr w2 := (hb1.setCell (p := ⟨g, 0, none⟩) (by show wr.heap.size ≤ g; omega) _).grown hg2 (by simp; omega) (fun q hq => by simp [Value.ownBlock] at hq; omega)
        have own5 := own_below hG.own hb2
        have hsz2 := hb2.size
        clear own1 own1s hgs hg2 c0 f0 r0 r1 hgl
        go_wp2_with (first
          | (at_builtin; refine wpList_append_own _ rfl _ _ 23 rfl w.heap.size 28 i0 (.slice none 0 0) 1 24 Yba.underlying23 hi hz0 hz1 hz2 rfl (by decide) _ _ _ rfl (own5.alloc _) ⟨w2.heap.size, 0, none⟩ 1 1 [.slice (some ⟨g2, 0, none⟩) 5 cp2] rfl rfl ?c1 ?c2 ?c3 ?c4 ?c5 ?_))
        case c1 => intro j u hj; match j, hj with | 0, hj => simp at hj; subst hj; simp [Addr.add]
        case c2 => intro u hu; simp at hu; subst hu; rfl
        case c3 => unfold maxLen; omega
        case c4 => omega
        case c5 => simp; omega
        intro v' w3 own3 hg3 _
        have G3 := got_step (g := g2) (cap := cp2) (o := .cells #[.slice (some ⟨g2, 0, none⟩) 5 cp2] 28) hBr hG hb2 (by rw [HE2.out]; exact own2) (by rw [HE2.out]; exact own3) hg3
        clear own3 hg3 own5 own2
        go_wp2
        go_roundg (n - (k + 1))
        case measure => omega
        case rel => exact ⟨k + 1, _, by omega, rfl, by go_num, G3⟩
    · have : k = n := by omega
      subst this
      go_wp2
      go_ret
      exact ⟨_, _, rfl, hG⟩
end Go.Proofs.Ybulkexpte
