import Derived.Test.YbulkexpyoRows
import Derived.Test.YbulkexpyoGen
import Derived.Deep.LoopGhost
import Derived.Deep.QuietTactic
import Derived.BigQuiet
import Derived.RegionTactic
import Derived.Outline
import Derived.Laws.Pointers
namespace Go.Proofs.Ybulkexpyo
open Go.RowKit
set_option linter.unusedVariables false

theorem Yba.info30 : (Yba.prog.info? 30).map (fun i => (i.zero, i.size, i.bytes)) = some (some (.agg #[.slice none 0 0, .slice none 0 0, .int .i64 0, .nilIface]), 4, 72) := by kernel_rfl
theorem Yba.info24 : (Yba.prog.info? 24).map (fun i => (i.zero, i.size, i.bytes)) = some (some (.pointer none), 1, 8) := by kernel_rfl

/-- zzs194156asame at two rows of the same pointers, clause j numbered j. -/
theorem asame_true (g1 g2 sz c1 c2 : Nat) (p : Nat → Addr) (w : World) (hn : sz ≤ 256) (hp : ∀ j, (p j).spot = none)
    (h1 : ∀ j, j < sz → w.cell? ⟨g1, j, none⟩ = some (.pointer (some (p j)))) (h2 : ∀ j, j < sz → w.cell? ⟨g2, j, none⟩ = some (.pointer (some (p j))))
    (h3 : ∀ j, j < sz → w.cell? ⟨(p j).block, (p j).off + 2, none⟩ = some (.int .i64 (j : Int))) :
    Calls Yba.prog 6 #[.slice (some ⟨g1, 0, none⟩) sz c1, .slice (some ⟨g2, 0, none⟩) sz c2] w fun e w' => e = .returned (.bool true) ∧ ∃ k, w' = w.drewN k := by
  obtain ⟨i0, hi, _⟩ := info_parts Yba.info30
  have hpn := fun (a : Addr) (W : World) => run_neq_ptr_same (P := Yba.prog) (tp := 24) a Yba.underlying24 hi W
  go_enter Yba.func6, Yba.ntmps6
  go_wp2
  go_loopg [5] sz (fun gk i wr => ∃ k q : Nat, k ≤ sz ∧ gk = sz - k ∧ i = .int .i64 k ∧ wr = w.drewN q)
  case atStart => exact ⟨0, 0, Nat.zero_le _, rfl, rfl, rfl⟩
  case round =>
    obtain ⟨k, q, hk, rfl, rfl, rfl⟩ := hrel
    by_cases hlt : k < sz
    · have a1 := h1 k hlt
      have a2 := h2 k hlt
      have a3 := h3 k hlt
      have a4 := hp k
      have hkz : (k : Int) < (sz : Int) := by omega
      clear h1 h2 h3 hp
      revert a1 a2 a3 a4
      generalize p k = a
      obtain ⟨ab, ao, as_⟩ := a
      intro a1 a2 a3 a4
      simp only at a3 a4
      subst a4
      go_wp2
      go_quiet (fail)
      go_wp2
      go_roundg (sz - (k + 1))
      case measure => omega
      case rel => exact ⟨k + 1, _, by omega, rfl, by go_num, rfl⟩
    · clear h1 h2 h3
      go_wp2
      go_ret
      exact ⟨rfl, _, rfl⟩

/-- take, no index: the cursor moves on by one. -/
theorem take_plain (g sz : Nat) (a : Nat) (vars : Int) (p : Option Addr) (w : World) (hn : sz ≤ 256) (ha : a < sz) (hc : w.cell? ⟨g, a, none⟩ = some (.pointer p)) :
    Calls Yba.prog 5 #[.pointer (some ⟨w.heap.size, 0, none⟩)] (w.alloc (.cells #[.slice (some ⟨g, 0, none⟩) sz sz, .nilIface, .int .i32 (a : Int), .int .i32 vars, .pointer none] 37)) fun e w' =>
      e = .returned (.pointer p) ∧ ∃ q, w' = (w.alloc (.cells #[.slice (some ⟨g, 0, none⟩) sz sz, .nilIface, .int .i32 ((a : Int) + 1), .int .i32 vars, .pointer none] 37)).drewN q := by
  have hg : g < w.heap.size := World.block_lt_of_cell? _ _ hc
  have haz : (a : Int) < (sz : Int) := by omega
  have hwr : IntKind.i32.wrap ((a : Int) + 1 - 1) = (a : Int) := by rw [IntKind.wrap_i32]; omega
  go_enter Yba.func5, Yba.ntmps5
  go_wp2
  go_quiet (fail)
  go_wp2
  go_ret
  exact ⟨rfl, _, rfl⟩

theorem set_drew1 (w : World) (c : Array Value) (t : TypeId) (j i : Nat) (u : Value) : ((w.alloc (.cells c t)).drewN j).setCell ⟨w.heap.size, i, none⟩ u = (w.alloc (.cells (c.setIfInBounds i u) t)).drewN j := by
  show ((w.alloc (.cells c t)).setCell _ _).drewN j = _
  rw [World.setCell_alloc_at _ _ _ _ _ rfl]

/-- take along the index's chains: the chain 'next' comes first. -/
theorem take_next (g I lkb sz : Nat) (x : Nat) (vs z : Int) (p : Option Addr) (w : World) (hn : sz ≤ 256) (hx : x < sz) (hv : vs < 0 ∨ (0 ≤ vs ∧ (x : Int) ≤ vs)) (hc : w.cell? ⟨g, x, none⟩ = some (.pointer p))
    (hI : w.cell? ⟨I, 5, none⟩ = some (.slice (some ⟨lkb, 0, none⟩) sz sz)) (hl : w.cell? ⟨lkb, x, none⟩ = some (.int .i32 z)) :
    Calls Yba.prog 5 #[.pointer (some ⟨w.heap.size, 0, none⟩)] (w.alloc (.cells #[.slice (some ⟨g, 0, none⟩) sz sz, .nilIface, .int .i32 (x : Int), .int .i32 vs, .pointer (some ⟨I, 0, none⟩)] 37)) fun e w' =>
      e = .returned (.pointer p) ∧ ∃ q, w' = (w.alloc (.cells #[.slice (some ⟨g, 0, none⟩) sz sz, .nilIface, .int .i32 z, .int .i32 vs, .pointer (some ⟨I, 0, none⟩)] 37)).drewN q := by
  have hg : g < w.heap.size := World.block_lt_of_cell? _ _ hc
  have hIl : I < w.heap.size := World.block_lt_of_cell? _ _ hI
  have hll : lkb < w.heap.size := World.block_lt_of_cell? _ _ hl
  have hxz : (x : Int) < (sz : Int) := by omega
  have hx0 : decide ((x : Int) < 0) = false := by simp
  rcases hv with hv | ⟨hv0, hv1⟩
  · have hd : decide (0 ≤ vs) = false := by simp; omega
    go_enter Yba.func5, Yba.ntmps5
    go_wp2
    go_quiet (fail)
    go_wp2
    go_quiet (fail)
    go_wp2
    go_region
    all_goals
      go_wp2
      go_ret
      exact ⟨rfl, _, set_drew1 _ _ _ _ _ _⟩
  · have hd : decide (vs < (x : Int)) = false := by simp; omega
    go_enter Yba.func5, Yba.ntmps5
    go_wp2
    go_quiet (fail)
    go_wp2
    go_quiet (fail)
    go_wp2
    go_region
    all_goals
      go_wp2
      go_ret
      exact ⟨rfl, _, set_drew1 _ _ _ _ _ _⟩

/-- .. the chain 'vars' comes first. -/
theorem take_vars (g I lkb sz : Nat) (x : Nat) (nx z : Int) (p : Option Addr) (w : World) (hn : sz ≤ 256) (hx : x < sz) (hv : nx < 0 ∨ (0 ≤ nx ∧ (x : Int) < nx)) (hc : w.cell? ⟨g, x, none⟩ = some (.pointer p))
    (hI : w.cell? ⟨I, 5, none⟩ = some (.slice (some ⟨lkb, 0, none⟩) sz sz)) (hl : w.cell? ⟨lkb, x, none⟩ = some (.int .i32 z)) :
    Calls Yba.prog 5 #[.pointer (some ⟨w.heap.size, 0, none⟩)] (w.alloc (.cells #[.slice (some ⟨g, 0, none⟩) sz sz, .nilIface, .int .i32 nx, .int .i32 (x : Int), .pointer (some ⟨I, 0, none⟩)] 37)) fun e w' =>
      e = .returned (.pointer p) ∧ ∃ q, w' = (w.alloc (.cells #[.slice (some ⟨g, 0, none⟩) sz sz, .nilIface, .int .i32 nx, .int .i32 z, .pointer (some ⟨I, 0, none⟩)] 37)).drewN q := by
  have hg : g < w.heap.size := World.block_lt_of_cell? _ _ hc
  have hIl : I < w.heap.size := World.block_lt_of_cell? _ _ hI
  have hll : lkb < w.heap.size := World.block_lt_of_cell? _ _ hl
  have hxz : (x : Int) < (sz : Int) := by omega
  have hx0 : (0 : Int) ≤ (x : Int) := by omega
  rcases hv with hv | ⟨hv0, hv1⟩
  · go_enter Yba.func5, Yba.ntmps5
    go_wp2
    go_quiet (fail)
    go_wp2
    go_quiet (fail)
    go_wp2
    go_region
    all_goals
      go_wp2
      go_ret
      exact ⟨rfl, _, set_drew1 _ _ _ _ _ _⟩
  · have hd : decide (nx < 0) = false := by simp; omega
    go_enter Yba.func5, Yba.ntmps5
    go_wp2
    go_quiet (fail)
    go_wp2
    go_quiet (fail)
    go_wp2
    go_region
    all_goals
      go_wp2
      go_ret
      exact ⟨rfl, _, set_drew1 _ _ _ _ _ _⟩
end Go.Proofs.Ybulkexpyo
