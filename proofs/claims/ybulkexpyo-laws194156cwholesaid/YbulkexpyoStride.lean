import Derived.Test.YbulkexpyoRows
import Derived.Test.YbulkexpyoGen
import Derived.Deep.LoopGhost
import Derived.Deep.QuietTactic
import Derived.BigQuiet
import Derived.RegionTactic
import Derived.Outline
import Derived.ArgAppend
import Derived.Lib.SmallJoins
namespace Go.Proofs.Ybulkexpyo
open Go.RowKit
set_option linter.unusedVariables false

theorem Yba.info54 : (Yba.prog.info? 54).map (fun i => (i.zero, i.size, i.bytes)) = some (some (.agg #[.int .i32 0, .int .i32 0]), 2, 8) := by kernel_rfl

theorem own_form2 {w : World} {B e n : Nat} {v : Value} {xs : List Value} (h : w.ownsRow B e 2 v n xs) (hn : 0 < n) : ∃ g cap, v = .slice (some ⟨g, 0, none⟩) n cap ∧ B ≤ g ∧ g < w.heap.size := by
  rcases h.2 with ⟨_, h0⟩ | ⟨g, cap, cur, rfl, hb, hg, _⟩
  · omega
  · exact ⟨g, cap, rfl, hb, (Array.getElem?_eq_some_iff.1 hg).1⟩

theorem two_cells (w : World) (n : Nat) (a b : Value) (t : TypeId) (hn : n = w.heap.size) : ∀ j u, [a, b][j]? = some u → (w.alloc (.cells #[a, b] t)).cell? ((⟨n, 0, none⟩ : Addr).add j) = some u := by
  intro j u hj
  subst hn
  match j, hj with
  | 0, hj => simp at hj; subst hj; simp [Addr.add]
  | 1, hj => simp at hj; subst hj; simp [Addr.add]

/-- What appendStrided hands back: the old cells and 'adds' behind them. -/
def Strided (n m : Nat) (olds adds : List Value) (w : World) (e : Ending) (w' : World) : Prop :=
  ∃ g cap, e = .returned (.slice (some ⟨g, 0, none⟩) (n + m) cap) ∧ Below w.heap.size w w' ∧ ∀ j u, (olds ++ adds)[j]? = some u → w'.cell? ⟨g, j, none⟩ = some u

theorem own_cells2 {w : World} {B e n : Nat} {g cap : Nat} {xs : List Value} (h : w.ownsRow B e 2 (.slice (some ⟨g, 0, none⟩) n cap) n xs) : ∀ j u, xs[j]? = some u → w.cell? ⟨g, j, none⟩ = some u := by
  intro j u hj
  have := h.cells (g := g) rfl j u hj
  rwa [Addr.add_lit, Nat.zero_add] at this

theorem strided_one (g n : Nat) (lo hi : Int) (olds : List Value) (w : World) (hn : n ≤ 1048576) (hl : olds.length = n * 2) (hc : ∀ j u, olds[j]? = some u → w.cell? ⟨g, j, none⟩ = some u) :
    Calls Yba.prog 7 #[.slice (some ⟨g, 0, none⟩) n n, .int .i32 lo, .int .i32 hi, .int .i32 1] w fun e w' => Strided n 1 olds [.int .i32 lo, .int .i32 hi] w e w' := by
  obtain ⟨i0, hi0, hz0, hz1, hz2⟩ := info_parts Yba.info54
  go_enter Yba.func7, Yba.ntmps7
  go_wp2_with (first
    | (at_builtin; refine wpList_append_grows _ rfl _ _ 50 rfl 54 i0 (.agg #[.int .i32 0, .int .i32 0]) 2 8 Yba.underlying50 hi0 hz0 hz1 hz2 rfl (by decide) (some ⟨g, 0, none⟩) n n olds rfl ?c0 hl ?c1 ⟨w.heap.size, 0, none⟩ 1 1 [.int .i32 lo, .int .i32 hi] rfl rfl ?c2 ?c3 ?c4 ?c5 ?c6 ?_))
  case c0 => intro h; cases h
  case c1 =>
    intro b hb j u hj
    cases hb
    rw [Addr.add_lit, Nat.zero_add]
    have := hc j u hj
    rw [World.cell?_alloc_lt _ _ _ (World.block_lt_of_cell? _ _ this)]; exact this
  case c2 => exact two_cells _ _ _ _ _ rfl
  case c3 => intro u hu; simp at hu; rcases hu with rfl | rfl <;> rfl
  case c4 => omega
  case c5 => unfold maxLen; omega
  case c6 => omega
  intro v' w1 own1 hg1
  obtain ⟨g', cap', hv, _, _⟩ := own_form2 own1 (by omega)
  rw [hv] at own1 ⊢
  have hb : Below w.heap.size w w1 := ((Below.refl _ _).alloc (Nat.le_refl _) _).grown hg1 (by simp) (by simp)
  clear hv hg1
  go_wp2
  go_ret
  exact ⟨g', cap', rfl, hb, own_cells2 own1⟩

/-- The cells that the loop adds: each number twice. -/
def dbl (V : Nat → Int) (m : Nat) : List Value := (List.range m).flatMap fun j => [.int .i32 (V j), .int .i32 (V j)]
theorem dbl_succ (V : Nat → Int) (m : Nat) : dbl V (m + 1) = dbl V m ++ [.int .i32 (V m), .int .i32 (V m)] := by simp [dbl, List.range_succ, List.flatMap_append]
theorem dbl_len (V : Nat → Int) (m : Nat) : (dbl V m).length = m * 2 := by
  induction m with
  | zero => rfl
  | succ m ih => rw [dbl_succ, List.length_append, ih]; simp; omega
theorem dbl_at (V : Nat → Int) (m k : Nat) (hk : k < m) : (dbl V m)[k * 2]? = some (.int .i32 (V k)) ∧ (dbl V m)[k * 2 + 1]? = some (.int .i32 (V k)) := by
  induction m with
  | zero => omega
  | succ m ih =>
    have hl := dbl_len V m
    rw [dbl_succ]
    by_cases h : k = m
    · subst h
      rw [List.getElem?_append_right (by omega), List.getElem?_append_right (by omega), hl]
      simp
    · rw [List.getElem?_append_left (by omega), List.getElem?_append_left (by omega)]
      exact ih (by omega)

theorem strided_loop (g n m : Nat) (lo hi s : Int) (V : Nat → Int) (olds : List Value) (w : World) (hn : n ≤ 1048576) (hm : m ≤ 1048576) (hl : olds.length = n * 2) (hc : ∀ j u, olds[j]? = some u → w.cell? ⟨g, j, none⟩ = some u)
    (hs1 : (s == 1) = false) (hV0 : V 0 = lo) (hV : ∀ q, q < m → V q ≤ hi ∧ V (q + 1) = V q + s ∧ -2147483648 ≤ V q + s ∧ V q + s ≤ 2147483647) (hend : hi < V m) :
    Calls Yba.prog 7 #[.slice (some ⟨g, 0, none⟩) n n, .int .i32 lo, .int .i32 hi, .int .i32 s] w fun e w' => Strided n m olds (dbl V m) w e w' := by
  obtain ⟨i0, hi0, hz0, hz1, hz2⟩ := info_parts Yba.info54
  go_enter Yba.func7, Yba.ntmps7
  go_wp2
  go_loopg [0, 9] m (fun gk v r wr => ∃ q : Nat, q ≤ m ∧ gk = m - q ∧ r = .int .i32 (V q) ∧ ((q = 0 ∧ v = .slice (some ⟨g, 0, none⟩) n n ∧ wr = w) ∨
      (0 < q ∧ ∃ g' cap', v = .slice (some ⟨g', 0, none⟩) (n + q) cap' ∧ wr.ownsRow w.heap.size 54 2 (.slice (some ⟨g', 0, none⟩) (n + q) cap') (n + q) (olds ++ dbl V q) ∧ Below w.heap.size w wr)))
  case atStart => exact ⟨0, Nat.zero_le _, rfl, by rw [hV0], .inl ⟨rfl, rfl, rfl⟩⟩
  case round =>
    obtain ⟨q, hq, rfl, rfl, hst⟩ := hrel
    by_cases hlt : q < m
    · obtain ⟨hx1, hx2, hx3, hx4⟩ := hV q hlt
      have HX : Hid (V (q + 1) = V q + s) := hx2
      clear hx2 hV hend
      rcases hst with ⟨rfl, rfl, rfl⟩ | ⟨hq0, g', cap', rfl, own, hb⟩
      · revert hx1 hx3 hx4
        obtain ⟨x, ex⟩ : ∃ x, V 0 = x := ⟨_, rfl⟩
        rw [ex]
        have EX : Hid (V 0 = x) := ex
        clear ex hV0
        intro hx1 hx3 hx4
        go_wp2_with (first
          | (at_builtin; refine wpList_append_grows _ rfl _ _ 50 rfl 54 i0 (.agg #[.int .i32 0, .int .i32 0]) 2 8 Yba.underlying50 hi0 hz0 hz1 hz2 rfl (by decide) (some ⟨g, 0, none⟩) n n olds rfl ?c0 hl ?c1 ⟨wr.heap.size, 0, none⟩ 1 1 [.int .i32 x, .int .i32 x] rfl rfl ?c2 ?c3 ?c4 ?c5 ?c6 ?_))
        case c0 => intro h; cases h
        case c1 =>
          intro b hb j u hj
          cases hb
          rw [Addr.add_lit, Nat.zero_add]
          have := hc j u hj
          rw [World.cell?_alloc_lt _ _ _ (World.block_lt_of_cell? _ _ this)]; exact this
        case c2 => exact two_cells _ _ _ _ _ rfl
        case c3 => intro u hu; simp at hu; subst hu; rfl
        case c4 => omega
        case c5 => unfold maxLen; omega
        case c6 => omega
        intro v' w1 own1 hg1
        obtain ⟨g', cap', hv, _, _⟩ := own_form2 own1 (by omega)
        rw [hv] at own1 ⊢
        have hb : Below wr.heap.size wr w1 := ((Below.refl _ _).alloc (Nat.le_refl _) _).grown hg1 (by simp) (by simp)
        clear hv hg1
        go_wp2
        go_roundg (m - (0 + 1))
        case measure => omega
        case rel =>
          refine ⟨0 + 1, by omega, rfl, by rw [HX.out, EX.out], .inr ⟨by omega, g', cap', rfl, ?_, hb⟩⟩
          have e : dbl V (0 + 1) = [.int .i32 x, .int .i32 x] := by rw [dbl_succ, EX.out]; rfl
          rw [e]
          exact Joins.ownsRow_le own1 (by omega)
      · have hsz := hb.size
        revert hx1 hx3 hx4
        obtain ⟨x, ex⟩ : ∃ x, V q = x := ⟨_, rfl⟩
        rw [ex]
        have EX : Hid (V q = x) := ex
        clear ex hV0 hc
        intro hx1 hx3 hx4
        go_wp2_with (first
          | (at_builtin; refine wpList_append_own _ rfl _ _ 50 rfl w.heap.size 54 i0 (.agg #[.int .i32 0, .int .i32 0]) 2 8 Yba.underlying50 hi0 hz0 hz1 hz2 rfl (by decide) _ _ _ rfl (own.alloc _) ⟨wr.heap.size, 0, none⟩ 1 1 [.int .i32 x, .int .i32 x] rfl rfl ?c2 ?c3 ?c4 ?c5 ?c6 ?_))
        case c2 => exact two_cells _ _ _ _ _ rfl
        case c3 => intro u hu; simp at hu; subst hu; rfl
        case c4 => unfold maxLen; omega
        case c5 => omega
        case c6 => simp; omega
        intro v' w1 own1 hg1 _
        obtain ⟨g2, cap2, hv, _, _⟩ := own_form2 own1 (by omega)
        rw [hv] at own1 ⊢
        have hb2 : Below w.heap.size w w1 := (hb.alloc (by omega) _).grown hg1 (by simp; omega) (fun y hy => (own.lt y hy).1)
        clear hv hg1 own
        go_wp2
        go_roundg (m - (q + 1))
        case measure => omega
        case rel =>
          refine ⟨q + 1, by omega, rfl, by rw [HX.out, EX.out], .inr ⟨by omega, g2, cap2, rfl, ?_, hb2⟩⟩
          rw [dbl_succ, EX.out]
          exact own1
    · have : q = m := by omega
      subst this
      have hge : decide (V q ≤ hi) = false := by simp; omega
      rcases hst with ⟨rfl, rfl, rfl⟩ | ⟨hq0, g', cap', rfl, own, hb⟩
      · clear hV
        rw [hV0] at hge hend ⊢
        clear hV0
        have HC := hide hc
        clear hc
        go_wp2
        go_ret
        exact ⟨g, n, rfl, Below.refl _ _, by simpa [dbl] using HC.out⟩
      · clear hV
        go_wp2
        go_ret
        exact ⟨g', cap', rfl, hb, own_cells2 own⟩
end Go.Proofs.Ybulkexpyo
