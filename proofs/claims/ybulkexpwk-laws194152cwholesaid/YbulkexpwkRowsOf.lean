import Derived.Test.YbulkexpwkRows
import Derived.Test.YbulkexpwkGen
import Derived.Deep.LoopGhost
import Derived.Deep.QuietTactic
import Derived.BigQuiet
import Derived.RegionTactic
import Derived.Outline
namespace Go.Proofs.Ybulkexpwk
open Go.RowKit
set_option linter.unusedVariables false

theorem Yba.info49 : (Yba.prog.info? 49).map (fun i => (i.zero, i.size, i.bytes)) = some (some (.pointer none), 1, 8) := by kernel_rfl

/-- The indices below k whose arrival is 'fr' or later. -/
def kept (A : Nat → Int) (fr : Int) (k : Nat) : List Nat := (List.range k).filter fun i => decide (fr ≤ A i)
theorem kept_hit {A : Nat → Int} {fr : Int} {k : Nat} (h : fr ≤ A k) : kept A fr (k + 1) = kept A fr k ++ [k] := by simp [kept, List.range_succ, h]
theorem kept_miss {A : Nat → Int} {fr : Int} {k : Nat} (h : ¬ fr ≤ A k) : kept A fr (k + 1) = kept A fr k := by simp [kept, List.range_succ, h]
theorem kept_le (A : Nat → Int) (fr : Int) (k : Nat) : (kept A fr k).length ≤ k := by
  have := List.length_filter_le (fun i => decide (fr ≤ A i)) (List.range k)
  simpa [kept] using this
def ptrs (B : Nat) (ks : List Nat) : List Value := ks.map fun i => .pointer (some ⟨B, i * 10, none⟩)

theorem rows_any (L B n k kc : Nat) (sa : Option Addr) (fr : Int) (A : Nat → Int) (w : World) (hn : n ≤ 1048576) (hk : k ≤ n)
    (c2 : w.cell? ⟨L, 2, none⟩ = some (.slice (some ⟨B, 0, none⟩) n n)) (c4 : w.cell? ⟨L, 4, none⟩ = some (.int .i64 fr)) (c5 : w.cell? ⟨L, 5, none⟩ = some (.slice sa k kc))
    (cA : ∀ i, i < n → w.cell? ⟨B, i * 10 + 5, none⟩ = some (.int .i64 (A i))) :
    Calls Yba.prog 7 #[.pointer (some ⟨L, 0, none⟩)] w fun e w' => ∃ g cap, e = .returned (.slice (some ⟨g, 0, none⟩) (kept A fr n).length cap) ∧
      w'.ownsRow w.heap.size 49 1 (.slice (some ⟨g, 0, none⟩) (kept A fr n).length cap) (kept A fr n).length (ptrs B (kept A fr n)) ∧ Below w.heap.size w w' := by
  obtain ⟨i0, hi, hz0, hz1, hz2⟩ := info_parts Yba.info49
  have hL : L < w.heap.size := World.block_lt_of_cell? _ _ c2
  obtain ⟨M, hM⟩ : ∃ M, M = madeCells (Value.pointer none).cells ((n - k) * 1) := ⟨_, rfl⟩
  have hMs : M.size = (n - k) * 1 := by rw [hM, size_madeCells]
  have hmk : ∀ W, (Instr.makeSlice 56 (.int .i64 0) (.int .i64 ((n : Int) - (k : Int)))).run Yba.prog W = .ok (.slice (some ⟨W.heap.size, 0, none⟩) 0 (n - k)) (W.alloc (.cells M 49)) := by
    intro W
    rw [hM]; exact run_make_cap (P := Yba.prog) 56 49 i0 _ 1 8 Yba.underlying56 hi hz0 hz1 hz2 .i64 .i64 _ (n - k) (by omega) (by omega) (by omega) W
  have own0 := World.ownsRow_made (base := w.heap.size) (e := 49) (size := 1) w M (n - k) (Nat.le_refl _) (by unfold maxLen; omega) hMs
  clear hM hMs
  have hwr : IntKind.i64.wrap ((n : Int) - (k : Int)) = (n : Int) - (k : Int) := by rw [IntKind.wrap_i64]; omega
  go_enter Yba.func7, Yba.ntmps7
  go_wp2
  go_region
  clear hmk hwr
  go_wp2
  go_loopg [22, 3] n (fun gk i v wr => ∃ q g cap : Nat, q ≤ n ∧ gk = n - q ∧ i = .int .i64 q ∧ v = .slice (some ⟨g, 0, none⟩) (kept A fr q).length cap ∧
      wr.ownsRow w.heap.size 49 1 (.slice (some ⟨g, 0, none⟩) (kept A fr q).length cap) (kept A fr q).length (ptrs B (kept A fr q)) ∧ Below w.heap.size w wr)
  case atStart => exact ⟨0, w.heap.size, n - k, Nat.zero_le _, rfl, rfl, rfl, own0, ((Below.refl _ _).alloc (Nat.le_refl _) _).drew⟩
  case round =>
    obtain ⟨q, g, cap, hq, rfl, rfl, rfl, hown, hb⟩ := hrel
    clear own0
    have d2 : wr.cell? ⟨L, 2, none⟩ = some (.slice (some ⟨B, 0, none⟩) n n) := (hb.cell (p := ⟨L, 2, none⟩) hL).trans c2
    have d4 : wr.cell? ⟨L, 4, none⟩ = some (.int .i64 fr) := (hb.cell (p := ⟨L, 4, none⟩) hL).trans c4
    clear c2 c4 c5
    by_cases hlt : q < n
    · have hqz : (q : Int) < (n : Int) := by omega
      have dA : wr.cell? ⟨B, q * 10 + 5, none⟩ = some (.int .i64 (A q)) := (hb.cell (p := ⟨B, q * 10 + 5, none⟩) (World.block_lt_of_cell? _ _ (cA q hlt))).trans (cA q hlt)
      have hkl := kept_le A fr q
      have hsz := hb.size
      clear cA
      by_cases ht : fr ≤ A q
      · have HK : Hid (kept A fr (q + 1) = kept A fr q ++ [q]) := kept_hit ht
        revert dA ht
        generalize A q = a
        intro dA ht
        go_wp2
        go_quiet (fail)
        go_wp2_with (first
          | (at_builtin; refine wpList_append_own _ rfl _ _ 56 rfl w.heap.size 49 i0 (.pointer none) 1 8 Yba.underlying56 hi hz0 hz1 hz2 rfl (by decide) _ _ _ rfl (hown.alloc _) ⟨wr.heap.size, 0, none⟩ 1 1 [.pointer (some ⟨B, q * 10, none⟩)] rfl rfl ?c1 ?c2 ?c3 ?c4 ?c5 ?_))
        case c1 => exact one_cell _ _ _ _ (by simp)
        case c2 => intro u hu; simp at hu; subst hu; rfl
        case c3 => unfold maxLen; omega
        case c4 => omega
        case c5 => simp; omega
        intro v' w3 own3 hg3 _
        obtain ⟨g', cap', hv', hg1, hg2⟩ := own_form own3 (by omega)
        rw [hv'] at own3 ⊢
        have hb3 : Below w.heap.size w w3 := ((below_drewN hb _).alloc (by simp; omega) _).grown hg3 (by simp; omega) (fun x hx => (hown.lt x hx).1)
        clear hv' hg3 hown
        go_wp2
        go_roundg (n - (q + 1))
        case measure => omega
        case rel =>
          refine ⟨q + 1, g', cap', by omega, rfl, by go_num, ?_, ?_, hb3⟩
          · rw [HK.out]; simp
          · rw [HK.out]; simpa [ptrs] using own3
      · have HK : Hid (kept A fr (q + 1) = kept A fr q) := kept_miss ht
        have ht' : decide (fr ≤ A q) = false := by simpa using ht
        revert dA ht
        generalize A q = a
        intro dA ht
        go_wp2
        go_quiet (fail)
        go_wp2
        go_roundg (n - (q + 1))
        case measure => omega
        case rel =>
          refine ⟨q + 1, g, cap, by omega, rfl, by go_num, ?_, ?_, below_drewN hb _⟩
          · rw [HK.out]
          · rw [HK.out]; exact hown
    · have : q = n := by omega
      subst this
      go_wp2
      go_ret
      exact ⟨_, _, rfl, hown, hb⟩
end Go.Proofs.Ybulkexpwk
