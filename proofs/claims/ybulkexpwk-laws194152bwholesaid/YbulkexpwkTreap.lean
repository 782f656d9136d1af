import Derived.Test.YbulkexpwkRows
import Derived.Test.YbulkexpwkGen
import Derived.Test.YbulkexpwkPlain
import Derived.Deep.LoopGhost
import Derived.Deep.OwnRows
import Derived.Deep.QuietTactic
import Derived.BigQuiet
import Derived.RegionTactic
import Derived.Outline
namespace Go.Proofs.Ybulkexpwk
open Go.RowKit
set_option linter.unusedVariables false

/-- aggregate(t): s.agg[t:][:1], where width is 1. -/
theorem aggregate_any (T AB n t : Nat) (w : World) (hn : n ≤ 4096) (ht : t ≤ n) (c4 : w.cell? ⟨T, 4, none⟩ = some (.int .i64 1)) (c12 : w.cell? ⟨T, 12, none⟩ = some (.slice (some ⟨AB, 0, none⟩) (n + 1) (n + 1))) :
    Calls Yba.prog 13 #[.pointer (some ⟨T, 0, none⟩), .int .i32 (t : Int)] w fun e w' => e = .returned (.slice (some ⟨AB, t, none⟩) 1 (n + 1 - t)) ∧ ∃ q, w' = w.drewN q := by
  have h1 : (t : Int) ≤ ((n + 1 : Nat) : Int) := by omega
  have h2 : ¬ (n + 1 = t) := by omega
  have hwr : IntKind.i64.wrap ((t : Int) * 1) = (t : Int) := by rw [IntKind.wrap_i64]; omega
  go_enter Yba.func13, Yba.ntmps13
  go_wp2
  go_quiet (fail)
  go_wp2
  go_ret
  exact ⟨rfl, _, rfl⟩

/-- weights(t): s.own[t:][:1], where dims is 1. -/
theorem weights_any (T OB n t : Nat) (w : World) (hn : n ≤ 4096) (ht : t ≤ n) (c2 : w.cell? ⟨T, 2, none⟩ = some (.int .i64 1)) (c11 : w.cell? ⟨T, 11, none⟩ = some (.slice (some ⟨OB, 0, none⟩) (n + 1) (n + 1))) :
    Calls Yba.prog 11 #[.pointer (some ⟨T, 0, none⟩), .int .i32 (t : Int)] w fun e w' => e = .returned (.slice (some ⟨OB, t, none⟩) 1 (n + 1 - t)) ∧ ∃ q, w' = w.drewN q := by
  have h1 : (t : Int) ≤ ((n + 1 : Nat) : Int) := by omega
  have h2 : ¬ (n + 1 = t) := by omega
  have hwr : IntKind.i64.wrap ((t : Int) * 1) = (t : Int) := by rw [IntKind.wrap_i64]; omega
  go_enter Yba.func11, Yba.ntmps11
  go_wp2
  go_quiet (fail)
  go_wp2
  go_ret
  exact ⟨rfl, _, rfl⟩

/-- Only three blocks may have turned. -/
structure Fr (a b c : Nat) (w w' : World) : Prop where
  os : w'.os = w.os
  tape : w'.tape = w.tape
  output : w'.output = w.output
  size : w'.heap.size = w.heap.size
  block : ∀ k, k ≠ a → k ≠ b → k ≠ c → w'.heap[k]? = w.heap[k]?
theorem Fr.refl (a b c : Nat) (w : World) : Fr a b c w w := ⟨rfl, rfl, rfl, rfl, fun _ _ _ _ => rfl⟩
theorem Fr.trans {a b c : Nat} {w w' w'' : World} (h : Fr a b c w w') (k : Fr a b c w' w'') : Fr a b c w w'' :=
  ⟨k.os.trans h.os, k.tape.trans h.tape, k.output.trans h.output, k.size.trans h.size, fun x h1 h2 h3 => (k.block x h1 h2 h3).trans (h.block x h1 h2 h3)⟩
theorem Fr.set {a b c : Nat} {w w' : World} (h : Fr a b c w w') {x : Addr} (hx : x.block = a ∨ x.block = b ∨ x.block = c) (v : Value) : Fr a b c w (w'.setCell x v) :=
  h.trans ⟨rfl, rfl, rfl, by simp, fun k h1 h2 h3 => Below.heap_setCell _ _ _ _ (by omega)⟩
theorem Fr.drewN {a b c : Nat} {w w' : World} (h : Fr a b c w w') (q : Nat) : Fr a b c w (w'.drewN q) := h.trans ⟨rfl, rfl, rfl, rfl, fun _ _ _ _ => rfl⟩
theorem Fr.drew {a b c : Nat} {w w' : World} (h : Fr a b c w w') : Fr a b c w w'.drew := h.drewN 1

def nodeCell (rk : Nat → Int) (s : St) (j : Nat) : Value :=
  match j % 6 with
  | 0 => .int .i64 ((j / 6 : Nat) : Int)
  | 1 => .int .i32 (s.P (j / 6))
  | 2 => .int .i32 ((s.L (j / 6) : Nat) : Int)
  | 3 => .int .i32 ((s.R (j / 6) : Nat) : Int)
  | 4 => .int .u8 (((j / 6 : Nat) : Int) % 256)
  | _ => .int .u64 (rk (j / 6))
theorem node0 (rk : Nat → Int) (s : St) (i : Nat) : nodeCell rk s (i * 6) = .int .i64 (i : Int) := by
  unfold nodeCell; rw [show i * 6 % 6 = 0 by omega, show i * 6 / 6 = i by omega]; rfl
theorem node1 (rk : Nat → Int) (s : St) (i : Nat) : nodeCell rk s (i * 6 + 1) = .int .i32 (s.P i) := by
  unfold nodeCell; rw [show (i * 6 + 1) % 6 = 1 by omega, show (i * 6 + 1) / 6 = i by omega]; rfl
theorem node2 (rk : Nat → Int) (s : St) (i : Nat) : nodeCell rk s (i * 6 + 2) = .int .i32 ((s.L i : Nat) : Int) := by
  unfold nodeCell; rw [show (i * 6 + 2) % 6 = 2 by omega, show (i * 6 + 2) / 6 = i by omega]; rfl
theorem node3 (rk : Nat → Int) (s : St) (i : Nat) : nodeCell rk s (i * 6 + 3) = .int .i32 ((s.R i : Nat) : Int) := by
  unfold nodeCell; rw [show (i * 6 + 3) % 6 = 3 by omega, show (i * 6 + 3) / 6 = i by omega]; rfl
theorem node4 (rk : Nat → Int) (s : St) (i : Nat) : nodeCell rk s (i * 6 + 4) = .int .u8 ((i : Int) % 256) := by
  unfold nodeCell; rw [show (i * 6 + 4) % 6 = 4 by omega, show (i * 6 + 4) / 6 = i by omega]; rfl
theorem node5 (rk : Nat → Int) (s : St) (i : Nat) : nodeCell rk s (i * 6 + 5) = .int .u64 (rk i) := by
  unfold nodeCell; rw [show (i * 6 + 5) % 6 = 5 by omega, show (i * 6 + 5) / 6 = i by omega]; rfl
theorem nodeCell_ext (rk : Nat → Int) (f : Nat → Value) (s : St) (h : ∀ i, f (i * 6) = .int .i64 (i : Int) ∧ f (i * 6 + 1) = .int .i32 (s.P i) ∧ f (i * 6 + 2) = .int .i32 ((s.L i : Nat) : Int) ∧ f (i * 6 + 3) = .int .i32 ((s.R i : Nat) : Int) ∧ f (i * 6 + 4) = .int .u8 ((i : Int) % 256) ∧ f (i * 6 + 5) = .int .u64 (rk i)) (j : Nat) : f j = nodeCell rk s j := by
  obtain ⟨h0, h1, h2, h3, h4, h5⟩ := h (j / 6)
  have hj : j % 6 = 0 ∨ j % 6 = 1 ∨ j % 6 = 2 ∨ j % 6 = 3 ∨ j % 6 = 4 ∨ j % 6 = 5 := by omega
  rcases hj with e | e | e | e | e | e
  · rw [show j = j / 6 * 6 by omega, node0]; exact h0
  · rw [show j = j / 6 * 6 + 1 by omega, node1]; exact h1
  · rw [show j = j / 6 * 6 + 2 by omega, node2]; exact h2
  · rw [show j = j / 6 * 6 + 3 by omega, node3]; exact h3
  · rw [show j = j / 6 * 6 + 4 by omega, node4]; exact h4
  · rw [show j = j / 6 * 6 + 5 by omega, node5]; exact h5

theorem upd_cell (f : Nat → Value) (a : Nat) (v : Value) (j : Nat) : (fun x => if x = a then v else f x) j = if j = a then v else f j := rfl

/-- 's.nodes[t].left, s.nodes[t].right = l, r', then the two parents, told by cells. -/
theorem link_cells (rk : Nat → Int) (s : St) (t l r : Nat) (j : Nat) :
    (if j = r * 6 + 1 then Value.int .i32 (t : Int) else if j = l * 6 + 1 then Value.int .i32 (t : Int) else if j = t * 6 + 3 then Value.int .i32 (r : Int) else if j = t * 6 + 2 then Value.int .i32 (l : Int) else nodeCell rk s j) = nodeCell rk (linkS t l r s) j := by
  refine nodeCell_ext rk (fun j => if j = r * 6 + 1 then Value.int .i32 (t : Int) else if j = l * 6 + 1 then Value.int .i32 (t : Int) else if j = t * 6 + 3 then Value.int .i32 (r : Int) else if j = t * 6 + 2 then Value.int .i32 (l : Int) else nodeCell rk s j) (linkS t l r s) (fun i => ?_) j
  simp only [node0, node1, node2, node3, node4, node5, linkS, upd]
  refine ⟨?_, ?_, ?_, ?_, ?_, ?_⟩
  · rw [if_neg (by omega), if_neg (by omega), if_neg (by omega), if_neg (by omega)]
  · by_cases e1 : i = r
    · subst e1; simp
    · rw [if_neg (by omega), if_neg e1]
      by_cases e2 : i = l
      · subst e2; simp
      · rw [if_neg (by omega), if_neg (by omega), if_neg (by omega), if_neg e2]
  · rw [if_neg (by omega), if_neg (by omega), if_neg (by omega)]
    by_cases e : i = t
    · subst e; simp
    · rw [if_neg (by omega), if_neg e]
  · rw [if_neg (by omega), if_neg (by omega)]
    by_cases e : i = t
    · subst e; simp
    · rw [if_neg (by omega), if_neg (by omega), if_neg e]
  · rw [if_neg (by omega), if_neg (by omega), if_neg (by omega), if_neg (by omega)]
  · rw [if_neg (by omega), if_neg (by omega), if_neg (by omega), if_neg (by omega)]

theorem link_walk (T NB n t l r : Nat) (x0 x1 x2 x3 : Value) (w : World) (hn : n ≤ 4096) (ht : t ≤ n) (hl : l ≤ n) (hr : r ≤ n) (hT : ¬ NB = T)
    (c9 : w.cell? ⟨T, 9, none⟩ = some (.slice (some ⟨NB, 0, none⟩) (n + 1) (n + 1)))
    (d0 : w.cell? ⟨NB, t * 6 + 2, none⟩ = some x0) (d1 : w.cell? ⟨NB, t * 6 + 3, none⟩ = some x1) (d2 : w.cell? ⟨NB, l * 6 + 1, none⟩ = some x2) (d3 : w.cell? ⟨NB, r * 6 + 1, none⟩ = some x3) (hf : ∀ i, w.frozen? ⟨NB, i, none⟩ = false) :
    Calls Yba.prog 8 #[.pointer (some ⟨T, 0, none⟩), .int .i32 (t : Int), .int .i32 (l : Int), .int .i32 (r : Int)] w fun e w' => e = .returned (.tuple #[]) ∧
      ∃ q, w' = ((((w.setCell ⟨NB, t * 6 + 2, none⟩ (.int .i32 (l : Int))).setCell ⟨NB, t * 6 + 3, none⟩ (.int .i32 (r : Int))).setCell ⟨NB, l * 6 + 1, none⟩ (.int .i32 (t : Int))).setCell ⟨NB, r * 6 + 1, none⟩ (.int .i32 (t : Int))).drewN q := by
  have h1 : (t : Int) < ((n + 1 : Nat) : Int) := by omega
  have h2 : (l : Int) < ((n + 1 : Nat) : Int) := by omega
  have h3 : (r : Int) < ((n + 1 : Nat) : Int) := by omega
  by_cases hlr : l = r
  · subst hlr
    go_enter Yba.func8, Yba.ntmps8
    go_wp2
    go_region
    all_goals
      go_wp2
      go_region
      all_goals
        go_wp2
        go_end0
        exact ⟨rfl, 2, rfl⟩
  · go_enter Yba.func8, Yba.ntmps8
    go_wp2
    go_region
    all_goals
      go_wp2
      go_region
      all_goals
        go_wp2
        go_end0
        exact ⟨rfl, 2, rfl⟩

theorem wrapEq (x : Int) : IntKind.i64.wrap x = wrap64 x := by rw [IntKind.wrap_i64]; simp only [wrap64]

theorem total_walk (T NB AB OB n t l r : Nat) (gl gr gt o K : Int) (w : World) (hn : n ≤ 4096) (ht : t ≤ n) (hl : l ≤ n) (hr : r ≤ n) (hAT : ¬ AB = T)
    (c2 : w.cell? ⟨T, 2, none⟩ = some (.int .i64 1)) (c3 : w.cell? ⟨T, 3, none⟩ = some (.int .i64 0)) (c4 : w.cell? ⟨T, 4, none⟩ = some (.int .i64 1))
    (c9 : w.cell? ⟨T, 9, none⟩ = some (.slice (some ⟨NB, 0, none⟩) (n + 1) (n + 1))) (c11 : w.cell? ⟨T, 11, none⟩ = some (.slice (some ⟨OB, 0, none⟩) (n + 1) (n + 1))) (c12 : w.cell? ⟨T, 12, none⟩ = some (.slice (some ⟨AB, 0, none⟩) (n + 1) (n + 1)))
    (c18 : w.cell? ⟨T, 18, none⟩ = some (.bool false)) (c21 : w.cell? ⟨T, 21, none⟩ = some (.int .i64 K)) (f21 : w.frozen? ⟨T, 21, none⟩ = false)
    (d2 : w.cell? ⟨NB, t * 6 + 2, none⟩ = some (.int .i32 (l : Int))) (d3 : w.cell? ⟨NB, t * 6 + 3, none⟩ = some (.int .i32 (r : Int)))
    (al : w.cell? ⟨AB, l, none⟩ = some (.int .i64 gl)) (ar : w.cell? ⟨AB, r, none⟩ = some (.int .i64 gr)) (at_ : w.cell? ⟨AB, t, none⟩ = some (.int .i64 gt)) (fa : w.frozen? ⟨AB, t, none⟩ = false) (ot : w.cell? ⟨OB, t, none⟩ = some (.int .i64 o)) :
    Calls Yba.prog 9 #[.pointer (some ⟨T, 0, none⟩), .int .i32 (t : Int)] w fun e w' => e = .returned (.tuple #[]) ∧
      ∃ q, w' = ((w.setCell ⟨AB, t, none⟩ (.int .i64 (wrap64 (wrap64 (gl + o) + gr)))).setCell ⟨T, 21, none⟩ (.int .i64 (wrap64 (K + 1)))).drewN q := by
  have h1 : (t : Int) < ((n + 1 : Nat) : Int) := by omega
  have HA : Hid (∀ k x : Nat, x ≤ n → Calls Yba.prog 13 #[.pointer (some ⟨T, 0, none⟩), .int .i32 (x : Int)] (w.drewN k) fun e w' => e = .returned (.slice (some ⟨AB, x, none⟩) 1 (n + 1 - x)) ∧ ∃ q, w' = (w.drewN k).drewN q) :=
    fun k x hx => aggregate_any T AB n x (w.drewN k) hn hx c4 c12
  have HO : Hid (∀ k x : Nat, x ≤ n → Calls Yba.prog 11 #[.pointer (some ⟨T, 0, none⟩), .int .i32 (x : Int)] (w.drewN k) fun e w' => e = .returned (.slice (some ⟨OB, x, none⟩) 1 (n + 1 - x)) ∧ ∃ q, w' = (w.drewN k).drewN q) :=
    fun k x hx => weights_any T OB n x (w.drewN k) hn hx c2 c11
  go_enter Yba.func9, Yba.ntmps9
  go_wp2
  go_quiet (first | (go_at_call 13; refine Calls.quiet_of (HA.out _ _ ?_); omega) | (go_at_call 11; refine Calls.quiet_of (HO.out _ _ ?_); omega))
  go_wp2
  clear HA HO
  go_loopg [68] 1 (fun gk i wr => (gk = 1 ∧ i = .int .i64 0 ∧ ∃ q, wr = w.drewN q) ∨ (gk = 0 ∧ i = .int .i64 1 ∧ ∃ q, wr = (w.setCell ⟨AB, t, none⟩ (.int .i64 (wrap64 (wrap64 (gl + o) + gr)))).drewN q))
  case atStart => exact .inl ⟨rfl, rfl, _, rfl⟩
  case round =>
    have hwr : ∀ x : Int, IntKind.i64.wrap x = wrap64 x := wrapEq
    rcases hrel with ⟨rfl, rfl, q, rfl⟩ | ⟨rfl, rfl, q, rfl⟩
    · go_wp2
      go_region
      all_goals
        clear hwr
        go_wp2
        go_roundg 0
        case measure => omega
        case rel => exact .inr ⟨rfl, rfl, _, rfl⟩
    · go_wp2
      go_end0
      exact ⟨rfl, _, rfl⟩
end Go.Proofs.Ybulkexpwk
