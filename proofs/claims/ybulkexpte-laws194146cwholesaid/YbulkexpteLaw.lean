import Derived.Test.YbulkexpteComp
import Derived.Test.YbulkexpteEq
import Derived.Deep.RegionWith
import Derived.Deep.CutRange
import Derived.Deep.DeepCutAuto
namespace Go.Proofs.Ybulkexpte
open Go.RowKit
set_option linter.unusedVariables false

theorem Yba.info27 : (Yba.prog.info? 27).map (fun i => (i.zero, i.size, i.bytes)) = some (some (.agg #[.int .u16 0, .int .u16 0]), 2, 4) := by kernel_rfl

theorem comps_none (s : Int) (a : Option Addr) (cap : Nat) (w : World) :
    Calls Yba.prog 4 #[.int .u8 s, .slice a 0 cap] w fun e w' => e = .returned (.slice (some ⟨w.heap.size, 0, none⟩) 1 1) ∧ w' = w.alloc (.cells #[.slice none 0 0] 28) := by
  go_enter Yba.func4, Yba.ntmps4
  go_wp2
  go_ret
  exact ⟨rfl, rfl⟩

theorem law_long (s : Int) (a : Option Addr) (n cap : Nat) (w : World) (hn : 1048576 < n) (hm : n ≤ 9223372036854775807) :
    Calls Yba.prog 3 #[.int .u8 s, .slice a n cap] w fun e w' => e = .returned (.bool true) ∧ Below w.heap.size w w' := by
  have h : (1048576 : Int) < (n : Int) := by omega
  go_enter Yba.func3, Yba.ntmps3
  go_wp2
  go_ret
  exact ⟨rfl, Below.refl _ _⟩

theorem law_nil (s : Int) (w : World) :
    Calls Yba.prog 3 #[.int .u8 s, .slice none 0 0] w fun e w' => e = .returned (.bool true) ∧ Below w.heap.size w w' := by
  have hq := fun w => run_neq_slice_nil_any (P := Yba.prog) w 22 27 none 0 0 0 0 Yba.underlying22
  have hq2 := fun w => Lib.run_eql_slice_nil (P := Yba.prog) w 28 5 none 0 0 0 0 Yba.underlying28
  go_enter Yba.func3, Yba.ntmps3
  go_wp2_with (go_at_call 4; refine (comps_none _ _ _ _).mono ?_; rintro e w' ⟨rfl, rfl⟩)
  go_loopg [7] 0 (fun _ i wr => i = .int .i64 0 ∧ wr = w.alloc (.cells #[.slice none 0 0] 28))
  case atStart => exact ⟨rfl, rfl⟩
  case round =>
    obtain ⟨rfl, rfl⟩ := hrel
    go_wp2
    go_ret
    exact ⟨rfl, (Below.refl _ _).alloc (Nat.le_refl _) _⟩

theorem law_empty (s : Int) (a : Addr) (cap : Nat) (w : World) :
    Calls Yba.prog 3 #[.int .u8 s, .slice (some a) 0 cap] w fun e w' => e = .returned (.bool true) ∧ Below w.heap.size w w' := by
  have hq := fun w => run_neq_slice_nil_any (P := Yba.prog) w 22 27 (some a) 0 cap 0 0 Yba.underlying22
  have hq2 := fun w => Lib.run_eql_slice_nil (P := Yba.prog) w 28 5 none 0 0 0 0 Yba.underlying28
  obtain ⟨i0, hi, hz0, hz1, hz2⟩ := info_parts Yba.info27
  obtain ⟨M, hM⟩ : ∃ M, M = madeCells (Value.agg #[.int .u16 0, .int .u16 0]).cells (0 * 2) := ⟨_, rfl⟩
  have hMs : M.size = 0 := by rw [hM, size_madeCells]
  have hmk : ∀ W, (Instr.makeSlice 22 (.int .i64 0) (.int .i64 0)).run Yba.prog W = .ok (.slice (some ⟨W.heap.size, 0, none⟩) 0 0) (W.alloc (.cells M 27)) := by
    intro W
    have := run_make_any (P := Yba.prog) 22 27 i0 _ 2 4 Yba.underlying22 hi hz0 hz1 hz2 .i64 .i64 0 (by omega) (by omega) W
    rw [hM]; exact this
  have hcp : ∀ ty, (Builtin.copy_ #[22, 22] ty #[.slice (some ⟨w.heap.size, 0, none⟩) 0 0, .slice (some a) 0 cap]).run Yba.prog (w.alloc (.cells M 27)) = .ok (goInt 0) (w.alloc (.cells #[] 27)) := by
    intro ty
    exact run_copy_fresh (P := Yba.prog) w 22 22 ty 27 i0 0 a cap M 27 [] Yba.underlying22 hi (by simp) (by simp [hMs]) (by simp) (by simp)
  clear hi hz0 hz1 hz2 hM hMs
  go_enter Yba.func3, Yba.ntmps3
  go_wp2_with (go_at_call 4; refine (comps_none _ _ _ _).mono ?_; rintro e w' ⟨rfl, rfl⟩)
  clear hcp hmk hq
  go_loopg [7] 0 (fun _ i wr => i = .int .i64 0 ∧ wr = (w.alloc (.cells #[] 27)).alloc (.cells #[.slice none 0 0] 28))
  case atStart => exact ⟨rfl, rfl⟩
  case round =>
    obtain ⟨rfl, rfl⟩ := hrel
    go_wp2
    go_ret
    exact ⟨rfl, ((Below.refl _ _).alloc (Nat.le_refl _) _).alloc (by simp) _⟩

/-- The cells of the copy, in a row: first, last, first, last .. -/
def flat (F L : Nat → Int) (n : Nat) : List Value := (List.range n).flatMap fun i => [.int .u16 (F i), .int .u16 (L i)]
theorem flat_len (F L : Nat → Int) (n : Nat) : (flat F L n).length = n * 2 := by
  induction n with
  | zero => rfl
  | succ n ih =>
    have e : flat F L (n + 1) = flat F L n ++ [.int .u16 (F n), .int .u16 (L n)] := by simp [flat, List.range_succ, List.flatMap_append]
    rw [e, List.length_append, ih]; simp; omega
theorem flat_at (F L : Nat → Int) (n k : Nat) (hk : k < n) : (flat F L n)[k * 2]? = some (.int .u16 (F k)) ∧ (flat F L n)[k * 2 + 1]? = some (.int .u16 (L k)) := by
  induction n with
  | zero => omega
  | succ n ih =>
    have e : flat F L (n + 1) = flat F L n ++ [.int .u16 (F n), .int .u16 (L n)] := by simp [flat, List.range_succ, List.flatMap_append]
    have hl := flat_len F L n
    rw [e]
    by_cases h : k = n
    · subst h
      rw [List.getElem?_append_right (by omega), List.getElem?_append_right (by omega), hl]
      simp
    · rw [List.getElem?_append_left (by omega), List.getElem?_append_left (by omega)]
      exact ih (by omega)
theorem flat_mem (F L : Nat → Int) (n : Nat) : ∀ v ∈ flat F L n, v.oneCell' = true := by
  intro v hv
  simp only [flat, List.mem_flatMap, List.mem_range] at hv
  obtain ⟨i, _, hi⟩ := hv
  simp at hi
  rcases hi with rfl | rfl <;> rfl
theorem flat_src (F L : Nat → Int) (n b off : Nat) (w : World) (h1 : ∀ i, i < n → w.cell? ⟨b, off + i * 2, none⟩ = some (.int .u16 (F i))) (h2 : ∀ i, i < n → w.cell? ⟨b, off + i * 2 + 1, none⟩ = some (.int .u16 (L i))) :
    ∀ j v, (flat F L n)[j]? = some v → w.cell? ((⟨b, off, none⟩ : Addr).add j) = some v := by
  intro j v hj
  have hlt : j < n * 2 := by have := (List.getElem?_eq_some_iff.1 hj).1; rwa [flat_len] at this
  rw [Addr.add_lit]
  obtain ⟨e1, e2⟩ := flat_at F L n (j / 2) (by omega)
  rcases Nat.mod_two_eq_zero_or_one j with h | h
  · have ej : j = j / 2 * 2 := by omega
    rw [ej] at hj ⊢
    rw [e1] at hj
    rw [h1 (j / 2) (by omega)]; exact hj
  · have ej : j = j / 2 * 2 + 1 := by omega
    rw [ej] at hj ⊢
    rw [e2] at hj
    rw [← Nat.add_assoc, h2 (j / 2) (by omega)]; exact hj

set_option maxHeartbeats 1000000 in
theorem law_some (b off n cap : Nat) (s : Int) (F L : Nat → Int) (w : World) (hn0 : 0 < n) (hn : n ≤ 1048576) (hs0 : 0 ≤ s) (hs : s ≤ 255)
    (hF : ∀ i, i < n → 0 ≤ F i ∧ F i ≤ 65535) (hL : ∀ i, i < n → 0 ≤ L i ∧ L i ≤ 65535)
    (h1 : ∀ i, i < n → w.cell? ⟨b, off + i * 2, none⟩ = some (.int .u16 (F i))) (h2 : ∀ i, i < n → w.cell? ⟨b, off + i * 2 + 1, none⟩ = some (.int .u16 (L i))) :
    Calls Yba.prog 3 #[.int .u8 s, .slice (some ⟨b, off, none⟩) n cap] w fun e w' => e = .returned (.bool true) ∧ Below w.heap.size w w' := by
  have hbs : b < w.heap.size := World.block_lt_of_cell? _ _ (h1 0 hn0)
  have hq := fun w => run_neq_slice_nil_any (P := Yba.prog) w 22 27 (some ⟨b, off, none⟩) n cap 0 0 Yba.underlying22
  have hnz : ((n : Int) == 0) = false := by simp; omega
  obtain ⟨i0, hi, hz0, hz1, hz2⟩ := info_parts Yba.info27
  obtain ⟨M, hM⟩ : ∃ M, M = madeCells (Value.agg #[.int .u16 0, .int .u16 0]).cells (n * 2) := ⟨_, rfl⟩
  have hMs : M.size = n * 2 := by rw [hM, size_madeCells]
  obtain ⟨X, hX⟩ : ∃ X, X = (flat F L n).toArray := ⟨_, rfl⟩
  have hX1 : ∀ k, k < n → X[k * 2]? = some (.int .u16 (F k)) := fun k hk => by rw [hX]; simpa using (flat_at F L n k hk).1
  have hX2 : ∀ k, k < n → X[k * 2 + 1]? = some (.int .u16 (L k)) := fun k hk => by rw [hX]; simpa using (flat_at F L n k hk).2
  have hmk : ∀ W, (Instr.makeSlice 22 (.int .i64 (n : Int)) (.int .i64 (n : Int))).run Yba.prog W = .ok (.slice (some ⟨W.heap.size, 0, none⟩) n n) (W.alloc (.cells M 27)) := by
    intro W
    rw [hM]; exact run_make_any (P := Yba.prog) 22 27 i0 _ 2 4 Yba.underlying22 hi hz0 hz1 hz2 .i64 .i64 n (by omega) (by omega) W
  have hcp : ∀ ty, (Builtin.copy_ #[22, 22] ty #[.slice (some ⟨w.heap.size, 0, none⟩) n n, .slice (some ⟨b, off, none⟩) n cap]).run Yba.prog (w.alloc (.cells M 27)) = .ok (goInt n) (w.alloc (.cells X 27)) := by
    intro ty
    rw [hX]
    exact run_copy_fresh (P := Yba.prog) w 22 22 ty 27 i0 n ⟨b, off, none⟩ cap M 27 (flat F L n) Yba.underlying22 hi (by rw [flat_len, hz1]) (by rw [flat_len, hMs]) (flat_src F L n b off w h1 h2) (flat_mem F L n)
  clear hi hz0 hz1 hz2 hM hMs hX
  have HC := comps_any b off n cap s F L (w.alloc (.cells X 27)) hn0 hn hs0 hs hF hL (fun i hi => (World.cell?_alloc_past _ _ _ hbs).trans (h1 i hi)) (fun i hi => (World.cell?_alloc_past _ _ _ hbs).trans (h2 i hi))
  go_enter Yba.func3, Yba.ntmps3
  go_wp2_with fail
  refine HC.mono ?_
  rintro e w2 ⟨v, vs, rfl, hG⟩
  clear HC hcp hmk hq
  obtain ⟨vg, vcap, hv, _, _⟩ := own_form hG.own hn0
  rw [hv] at hG ⊢
  clear hv v
  have hb0 : Below w.heap.size w w2 := ((Below.refl _ _).alloc (Nat.le_refl _) _).trans (hG.below.mono (by simp))
  have hW : w.heap.size < w2.heap.size := by have := hG.below.size; simp at this; omega
  have k1 : ∀ i, i < n → w2.cell? ⟨b, off + i * 2, none⟩ = some (.int .u16 (F i)) := fun i hi => (hb0.cell (p := ⟨b, off + i * 2, none⟩) hbs).trans (h1 i hi)
  have k2 : ∀ i, i < n → w2.cell? ⟨b, off + i * 2 + 1, none⟩ = some (.int .u16 (L i)) := fun i hi => (hb0.cell (p := ⟨b, off + i * 2 + 1, none⟩) hbs).trans (h2 i hi)
  have m1 : ∀ i, i < n → w2.cell? ⟨w.heap.size, i * 2, none⟩ = some (.int .u16 (F i)) := fun i hi => by
    rw [hG.below.cell (p := ⟨w.heap.size, i * 2, none⟩) (by simp), World.cell?_alloc_new]; exact hX1 i hi
  have m2 : ∀ i, i < n → w2.cell? ⟨w.heap.size, i * 2 + 1, none⟩ = some (.int .u16 (L i)) := fun i hi => by
    rw [hG.below.cell (p := ⟨w.heap.size, i * 2 + 1, none⟩) (by simp), World.cell?_alloc_new]; exact hX2 i hi
  clear hX1 hX2 h1 h2
  have HG : Hid (∀ k, k < n → ∃ g cap, w2.cell? ⟨vg, k, none⟩ = some (.slice (some ⟨g, 0, none⟩) (comp s (F k) (L k)).length cap) ∧ ∀ j, j < (comp s (F k) (L k)).length → w2.cell? ⟨g, 0 + j, none⟩ = some (.int .u8 ((comp s (F k) (L k)).getD j 0))) := by
    intro k hk
    obtain ⟨g, cp, e1, e2⟩ := hG.each k hk
    refine ⟨g, cp, by rw [hG.own.cellAt k (by omega)]; exact e1, fun j hj => ?_⟩
    rw [Nat.zero_add, e2.cellAt j (by omega)]
    simp [cells, List.getD, hj]
  clear hG
  go_wp2
  -- the first loop: nothing was turned
  go_loopg [7] n (fun gk i wr => ∃ k q : Nat, k ≤ n ∧ gk = n - k ∧ i = .int .i64 k ∧ wr = w2.drewN q)
  case atStart => exact ⟨0, 0, Nat.zero_le _, rfl, rfl, rfl⟩
  case round =>
    obtain ⟨k, q, hk, rfl, rfl, rfl⟩ := hrel
    by_cases hlt : k < n
    · have a1 := k1 k hlt
      have a2 := k2 k hlt
      have a3 := m1 k hlt
      have a4 := m2 k hlt
      have hkz : (k : Int) < (n : Int) := by omega
      clear k1 k2 m1 m2
      go_wp2
      go_quiet (fail)
      go_wp2
      go_roundg (n - (k + 1))
      case measure => omega
      case rel => exact ⟨k + 1, _, by omega, rfl, by go_num, rfl⟩
    · clear k1 k2
      go_wp2
      go_loopg [8] n (fun gk i wr => ∃ k : Nat, k ≤ n ∧ gk = n - k ∧ i = .int .i64 k ∧ Below w2.heap.size w2 wr)
      case atStart => exact ⟨0, Nat.zero_le _, rfl, rfl, below_drewN (Below.refl _ _) q⟩
      case round =>
        obtain ⟨k, hk2, rfl, rfl, hb2⟩ := hrel
        by_cases hlt2 : k < n
        · obtain ⟨g, gcap, hg0, hgj⟩ := HG.out k hlt2
          have hvl : vg < w2.heap.size := World.block_lt_of_cell? _ _ hg0
          have hsz := hb2.size
          have a3 : wr.cell? ⟨w.heap.size, k * 2, none⟩ = some (.int .u16 (F k)) := (hb2.cell (p := ⟨w.heap.size, k * 2, none⟩) hW).trans (m1 k hlt2)
          have a4 : wr.cell? ⟨w.heap.size, k * 2 + 1, none⟩ = some (.int .u16 (L k)) := (hb2.cell (p := ⟨w.heap.size, k * 2 + 1, none⟩) hW).trans (m2 k hlt2)
          have a5 : wr.cell? ⟨vg, k, none⟩ = some (.slice (some ⟨g, 0, none⟩) (comp s (F k) (L k)).length gcap) := (hb2.cell (p := ⟨vg, k, none⟩) hvl).trans hg0
          have HW : ∀ W, Calls Yba.prog 6 #[.int .u8 s, .agg #[.int .u16 (F k), .int .u16 (L k)]] W fun e w' => e = .returned (.slice (some ⟨W.heap.size + 1, 0, none⟩) (comp s (F k) (L k)).length (comp s (F k) (L k)).length) ∧ w' = (W.alloc (.cells #[.int .u16 (F k), .int .u16 (L k)] 27)).alloc (.cells (cells (comp s (F k) (L k))).toArray 5) :=
            fun W => want_any s (F k) (L k) W hs0 hs (hF k hlt2).1 (hF k hlt2).2 (hL k hlt2).1 (hL k hlt2).2
          have a6 : ∀ j, j < (comp s (F k) (L k)).length → wr.cell? ⟨g, 0 + j, none⟩ = some (.int .u8 ((comp s (F k) (L k)).getD j 0)) := fun j hj => by
            have := hgj j hj
            exact (hb2.cell (p := ⟨g, 0 + j, none⟩) (World.block_lt_of_cell? _ _ this)).trans this
          have a7 : ∀ j, j < (comp s (F k) (L k)).length → (cells (comp s (F k) (L k))).toArray[j]? = some (.int .u8 ((comp s (F k) (L k)).getD j 0)) := fun j hj => by
            simp [cells, List.getD, hj]
          have hlen : (comp s (F k) (L k)).length ≤ 5 := by unfold comp; split <;> simp
          have hkz : (k : Int) < (n : Int) := by omega
          have hws : w.heap.size < wr.heap.size := by omega
          have hvs : vg < wr.heap.size := by omega
          clear HG hgj m1 m2 hg0 hF hL
          revert HW a5 a6 a7 hlen a3 a4
          generalize (cells (comp s (F k) (L k))).toArray = C
          generalize (comp s (F k) (L k)) = zs
          generalize zs.length = m
          generalize F k = f
          generalize L k = l
          intro a3 a4 a5 HW a6 a7 hlen
          have HW' := hide HW
          clear HW
          have HQ : Hid (Calls Yba.prog 5 #[.slice (some ⟨g, 0, none⟩) m gcap, .slice (some ⟨wr.heap.size + 1, 0, none⟩) m m] ((wr.alloc (.cells #[.int .u16 f, .int .u16 l] 27)).alloc (.cells C 5)).drew fun e w' =>
              e = .returned (.bool true) ∧ ∃ q, w' = ((wr.alloc (.cells #[.int .u16 f, .int .u16 l] 27)).alloc (.cells C 5)).drew.drewN q) := by
            refine eq_true g 0 (wr.heap.size + 1) 0 m gcap m (fun j => zs.getD j 0) _ (by omega) (fun j hj => ?_) (fun j hj => ?_)
            · have := a6 j hj
              have hl := World.block_lt_of_cell? _ _ this
              show ((wr.alloc _).alloc _).cell? _ = _
              rw [World.cell?_alloc_lt _ _ _ (by simp at hl ⊢; omega), World.cell?_alloc_lt _ _ _ hl]
              exact this
            · show ((wr.alloc _).alloc _).cell? _ = _
              rw [World.cell?_alloc_at _ _ _ _ (by simp), Nat.zero_add]
              exact a7 j hj
          clear a6 a7
          go_wp2
          go_region_with (first | (go_at_call 6; refine (HW'.out _).mono ?_; rintro e w' ⟨rfl, rfl⟩) | (go_at_call 5; refine HQ.out.mono ?_; rintro e w' ⟨rfl, q', rfl⟩))
          all_goals
            go_wp2
            go_roundg (n - (k + 1))
            case measure => omega
            case rel => exact ⟨k + 1, by omega, rfl, by go_num, below_drewN ((hb2.alloc (by omega) _).alloc (by simp; omega) _) _⟩
        · go_wp2
          go_ret
          exact ⟨rfl, hb0.trans (hb2.mono (by omega))⟩
end Go.Proofs.Ybulkexpte
