import Derived.Test.YbulkexpyoStride
import Derived.Deep.CutRange
import Derived.Deep.DeepCutAuto
import Derived.Deep.Light
namespace Go.Proofs.Ybulkexpyo
open Go.RowKit
set_option linter.unusedVariables false

set_option maxRecDepth 100000 in
theorem longC (ao : Option Addr) (n cap : Nat) (lo hi s : Int) (w : World) (hn : 1048576 < n) (hm : n ≤ 9223372036854775807) :
    Calls Yba.prog 4 #[.slice ao n cap, .int .i32 lo, .int .i32 hi, .int .i32 s] w fun e w' => e = .returned (.bool true) ∧ Below w.heap.size w w' := by
  have h : (1048576 : Int) < (n : Int) := by omega
  go_enter Yba.func4, Yba.ntmps4
  go_wp2
  go_ret
  exact ⟨rfl, Below.refl _ _⟩

set_option maxRecDepth 100000 in
theorem outC (ao : Option Addr) (n cap : Nat) (lo hi s : Int) (w : World) (hn : n ≤ 1048576) (h1 : (s != 1) = true) (h2 : lo ≤ hi) (h3 : s < 1) :
    Calls Yba.prog 4 #[.slice ao n cap, .int .i32 lo, .int .i32 hi, .int .i32 s] w fun e w' => e = .returned (.bool true) ∧ Below w.heap.size w w' := by
  go_enter Yba.func4, Yba.ntmps4
  go_wp2
  go_ret
  exact ⟨rfl, Below.refl _ _⟩

set_option maxRecDepth 100000 in
theorem lateC (ao : Option Addr) (n cap : Nat) (lo hi s c p : Int) (w : World) (hn : n ≤ 1048576) (hlo : -2147483648 ≤ lo ∧ lo ≤ 2147483647) (hhi : -2147483648 ≤ hi ∧ hi ≤ 2147483647) (hss : s ≤ 2147483647) (h1 : (s != 1) = true) (h2 : lo ≤ hi) (h3 : 2 ≤ s) (hc : (hi - lo) / s = c) (hc0 : 0 ≤ c) (hc1 : c ≤ 4294967296) (hp : c * s = p) (hp0 : 0 ≤ p) (hp1 : p ≤ 4294967296) (h4 : 2147483647 < lo + p + s ∨ 1048576 < c + 1) :
    Calls Yba.prog 4 #[.slice ao n cap, .int .i32 lo, .int .i32 hi, .int .i32 s] w fun e w' => e = .returned (.bool true) ∧ Below w.heap.size w w' := by
  go_enter Yba.func4, Yba.ntmps4
  go_wp2
  all_goals
    go_ret
    exact ⟨rfl, Below.refl _ _⟩

theorem alloc_drewN (w : World) (j : Nat) (o : Obj) : (w.drewN j).alloc o = (w.alloc o).drewN j := rfl
theorem setCell_drewN (w : World) (j : Nat) (a : Addr) (v : Value) : (w.drewN j).setCell a v = (w.setCell a v).drewN j := rfl
theorem set2_drew (w : World) (c : Array Value) (t : TypeId) (j i i' : Nat) (u v : Value) : (((w.alloc (.cells c t)).drewN j).setCell ⟨w.heap.size, i, none⟩ u).setCell ⟨w.heap.size, i', none⟩ v = (w.alloc (.cells ((c.setIfInBounds i u).setIfInBounds i' v) t)).drewN j := by
  rw [setCell_drewN, setCell_drewN, World.setCell_alloc_at _ _ _ _ _ rfl, World.setCell_alloc_at _ _ _ _ _ rfl]

/-- The cells of the copy, in a row: first, last, first, last .. -/
def flat (F L : Nat → Int) (n : Nat) : List Value := (List.range n).flatMap fun i => [.int .i32 (F i), .int .i32 (L i)]
theorem flat_succ (F L : Nat → Int) (n : Nat) : flat F L (n + 1) = flat F L n ++ [.int .i32 (F n), .int .i32 (L n)] := by simp [flat, List.range_succ, List.flatMap_append]
theorem flat_len (F L : Nat → Int) (n : Nat) : (flat F L n).length = n * 2 := by
  induction n with
  | zero => rfl
  | succ n ih => rw [flat_succ, List.length_append, ih]; simp; omega
theorem flat_at (F L : Nat → Int) (n k : Nat) (hk : k < n) : (flat F L n)[k * 2]? = some (.int .i32 (F k)) ∧ (flat F L n)[k * 2 + 1]? = some (.int .i32 (L k)) := by
  induction n with
  | zero => omega
  | succ n ih =>
    have hl := flat_len F L n
    rw [flat_succ]
    by_cases h : k = n
    · subst h
      rw [List.getElem?_append_right (by omega), List.getElem?_append_right (by omega), hl]
      simp
    · rw [List.getElem?_append_left (by omega), List.getElem?_append_left (by omega)]
      exact ih (by omega)
theorem flat_mem (F L : Nat → Int) (n : Nat) : ∀ v ∈ flat F L n, v.oneCell' = true := by
  intro v hv
  simp only [flat, List.mem_flatMap, List.mem_range] at hv
  obtain ⟨i, _, hi⟩ := hv
  simp at hi
  rcases hi with rfl | rfl <;> rfl
theorem pair_step {F L : Nat → Int} {n k : Nat} {c : Array Value} (hcs : c.size = n * 2) (hk : k < n) (hcc : ∀ q, q < k → c[q * 2]? = some (.int .i32 (F q)) ∧ c[q * 2 + 1]? = some (.int .i32 (L q))) :
    ∀ x, x < k + 1 → ((c.setIfInBounds (k * 2) (.int .i32 (F k))).setIfInBounds (k * 2 + 1) (.int .i32 (L k)))[x * 2]? = some (.int .i32 (F x)) ∧ ((c.setIfInBounds (k * 2) (.int .i32 (F k))).setIfInBounds (k * 2 + 1) (.int .i32 (L k)))[x * 2 + 1]? = some (.int .i32 (L x)) := by
  intro x hx
  by_cases e : x = k
  · subst e
    constructor
    · rw [Array.getElem?_setIfInBounds_ne (by omega), Array.getElem?_setIfInBounds_self_of_lt (by omega)]
    · rw [Array.getElem?_setIfInBounds_self_of_lt (by simp; omega)]
  · constructor
    · rw [Array.getElem?_setIfInBounds_ne (by omega), Array.getElem?_setIfInBounds_ne (by omega)]; exact (hcc x (by omega)).1
    · rw [Array.getElem?_setIfInBounds_ne (by omega), Array.getElem?_setIfInBounds_ne (by omega)]; exact (hcc x (by omega)).2
theorem flat_of (F L : Nat → Int) (n : Nat) (c : Array Value) (hs : c.size = n * 2) (h : ∀ q, q < n → c[q * 2]? = some (.int .i32 (F q)) ∧ c[q * 2 + 1]? = some (.int .i32 (L q))) : c = (flat F L n).toArray := by
  apply Array.ext_getElem?
  intro j
  by_cases hj : j < n * 2
  · obtain ⟨e1, e2⟩ := flat_at F L n (j / 2) (by omega)
    obtain ⟨d1, d2⟩ := h (j / 2) (by omega)
    rcases Nat.mod_two_eq_zero_or_one j with hm | hm
    · have ej : j = j / 2 * 2 := by omega
      rw [ej, d1]; simpa using e1.symm
    · have ej : j = j / 2 * 2 + 1 := by omega
      rw [ej, d2]; simpa using e2.symm
  · rw [Array.getElem?_eq_none (by omega)]
    have := flat_len F L n
    simp; omega

set_option maxRecDepth 100000 in
set_option maxHeartbeats 4000000 in
theorem mainC (ao : Option Addr) (b off n cap m m' : Nat) (F L : Nat → Int) (lo hi s : Int) (adds : List Value) (w : World) (hn : n ≤ 1048576) (hm : m ≤ 1048576) (hao : 0 < n → ao = some ⟨b, off, none⟩)
    (h1 : ∀ i, i < n → w.cell? ⟨b, off + i * 2, none⟩ = some (.int .i32 (F i))) (h2 : ∀ i, i < n → w.cell? ⟨b, off + i * 2 + 1, none⟩ = some (.int .i32 (L i)))
    (hlo : -2147483648 ≤ lo ∧ lo ≤ 2147483647) (hhi : -2147483648 ≤ hi ∧ hi ≤ 2147483647) (hss : -2147483648 ≤ s ∧ s ≤ 2147483647)
    (hcase : (s = 1 ∧ m = 0) ∨ ((s != 1) = true ∧ hi < lo ∧ m = 0) ∨ ((s != 1) = true ∧ lo ≤ hi ∧ 2 ≤ s ∧ ∃ c p : Int, (hi - lo) / s = c ∧ 0 ≤ c ∧ c + 1 = (m : Int) ∧ c * s = p ∧ 0 ≤ p ∧ p ≤ 4294967296 ∧ lo + p + s ≤ 2147483647))
    (HS : ∀ W g olds, olds.length = n * 2 → (∀ j u, olds[j]? = some u → W.cell? ⟨g, j, none⟩ = some u) → Calls Yba.prog 7 #[.slice (some ⟨g, 0, none⟩) n n, .int .i32 lo, .int .i32 hi, .int .i32 s] W fun e w' => Strided n m' olds adds W e w')
    (hend : (s = 1 ∧ m' = 1 ∧ adds = [.int .i32 lo, .int .i32 hi]) ∨ ((s == 1) = false ∧ m' = m ∧ ∃ V : Nat → Int, adds = dbl V m ∧ ∀ q : Nat, q < m → V q = lo + (q : Int) * s ∧ -2147483648 ≤ V q ∧ V q ≤ 2147483647)) :
    Calls Yba.prog 4 #[.slice ao n cap, .int .i32 lo, .int .i32 hi, .int .i32 s] w fun e w' => e = .returned (.bool true) ∧ Below w.heap.size w w' := by
  have HS' := hide HS
  have HEND := hide hend
  have HCASE := hide hcase
  clear HS hend hcase
  go_enter Yba.func4, Yba.ntmps4
  go_upto_region 4 with fail
  obtain ⟨t, ht⟩ : ∃ t : Bool, t = ((s != 1) && decide (lo ≤ hi)) := ⟨_, rfl⟩
  have HT := hide ht
  clear ht
  go_cut [29] (fun v wc => w = wc ∧ v = .bool t)
  case first =>
    rcases HCASE.out with ⟨rfl, -⟩ | ⟨hc1, hc2, -⟩ | ⟨hc1, hc2, -⟩
    · go_wp2
      go_meet
      case rel => exact ⟨rfl, by rw [HT.out]; rfl⟩
    · have hd : decide (lo ≤ hi) = false := by simp; omega
      go_wp2
      go_meet
      case rel => exact ⟨rfl, by rw [HT.out, hc1, hd]; rfl⟩
    · go_wp2
      go_meet
      case rel => exact ⟨rfl, by rw [HT.out, hc1]; simp [hc2]⟩
  case rest =>
    obtain ⟨rfl, rfl⟩ := hcut
    go_upto_if 29 with fail
    go_cut [9] (fun v wx => w = wx ∧ v = .int .i64 (m : Int))
    case first =>
      rcases HCASE.out with ⟨rfl, hm0⟩ | ⟨hc1, hc2, hm0⟩ | ⟨hc1, hc2, hc3, c, p, hdiv, hc0, hcm, hp, hp0, hp1, hp2⟩
      · obtain rfl : t = false := by rw [HT.out]; rfl
        clear h1 h2
        go_wp2
        go_meet
        case rel => exact ⟨rfl, by rw [hm0]; rfl⟩
      · obtain rfl : t = false := by rw [HT.out]; simp; omega
        clear h1 h2
        go_wp2
        go_meet
        case rel => exact ⟨rfl, by rw [hm0]; rfl⟩
      · obtain rfl : t = true := by rw [HT.out, hc1]; simp [hc2]
        have HCM := hide hcm
        have hcm2 : c ≤ 1048575 := by omega
        clear h1 h2 hcm
        go_wp2
        go_meet
        case rel => exact ⟨rfl, by rw [HCM.out]⟩
    case rest =>
      obtain ⟨rfl, rfl⟩ := hcut
      clear HT HCASE
      obtain ⟨i0, hi0, hz0, hz1, hz2⟩ := info_parts Yba.info54
      obtain ⟨M, hM⟩ : ∃ M, M = madeCells (Value.agg #[.int .i32 0, .int .i32 0]).cells (n * 2) := ⟨_, rfl⟩
      have hMs : M.size = n * 2 := by rw [hM, size_madeCells]
      have hmk : ∀ W, (Instr.makeSlice 50 (.int .i64 (n : Int)) (.int .i64 (n : Int))).run Yba.prog W = .ok (.slice (some ⟨W.heap.size, 0, none⟩) n n) (W.alloc (.cells M 54)) := by
        intro W
        rw [hM]; exact run_make_any (P := Yba.prog) 50 54 i0 _ 2 8 Yba.underlying50 hi0 hz0 hz1 hz2 .i64 .i64 n (by omega) (by omega) W
      have HMK := hide hmk
      clear hM
      go_wp2
      clear hmk
      go_loopg [60] n (fun gk i wr => ∃ (k q : Nat) (c : Array Value), k ≤ n ∧ gk = n - k ∧ i = .int .i64 k ∧ wr = (w.alloc (.cells c 54)).drewN q ∧ c.size = n * 2 ∧ ∀ q, q < k → c[q * 2]? = some (.int .i32 (F q)) ∧ c[q * 2 + 1]? = some (.int .i32 (L q)))
      case atStart => exact ⟨0, 0, M, Nat.zero_le _, rfl, rfl, rfl, hMs, fun q hq => by omega⟩
      case round =>
        obtain ⟨k, q, c, hk, rfl, rfl, rfl, hcs, hcc⟩ := hrel
        by_cases hlt : k < n
        · obtain rfl := hao (by omega)
          have hkz : (k : Int) < (n : Int) := by omega
          have a1 := h1 k hlt
          have a2 := h2 k hlt
          have hbs : b < w.heap.size := World.block_lt_of_cell? _ _ a1
          obtain ⟨x0, e0⟩ : ∃ x, c[k * 2]? = some x := ⟨_, Array.getElem?_eq_getElem (by omega)⟩
          obtain ⟨x1, e1⟩ : ∃ x, c[k * 2 + 1]? = some x := ⟨_, Array.getElem?_eq_getElem (by omega)⟩
          have HCC := hide hcc
          clear h1 h2 hcc
          go_wp2
          go_region
          all_goals
            go_wp2
            go_roundg (n - (k + 1))
            case measure => omega
            case rel =>
              refine ⟨k + 1, _, (c.setIfInBounds (k * 2) (.int .i32 (F k))).setIfInBounds (k * 2 + 1) (.int .i32 (L k)), by omega, rfl, by go_num, set2_drew _ _ _ _ _ _ _ _, by simpa using hcs, fun x hx => ?_⟩
              exact pair_step hcs hlt HCC.out x hx
        · have : k = n := by omega
          subst this
          obtain rfl := flat_of F L k c hcs hcc
          obtain ⟨X, hX⟩ : ∃ X, X = (flat F L k).toArray := ⟨_, rfl⟩
          have hcp : ∀ ty, (Builtin.copy_ #[50, 50] ty #[.slice (some ⟨w.heap.size + 1, 0, none⟩) k k, .slice (some ⟨w.heap.size, 0, none⟩) k k]).run Yba.prog (((w.alloc (.cells X 54)).drewN q).alloc (.cells M 54)) = .ok (goInt k) (((w.alloc (.cells X 54)).drewN q).alloc (.cells X 54)) := by
            intro ty
            have := run_copy_fresh (P := Yba.prog) ((w.alloc (.cells X 54)).drewN q) 50 50 ty 54 i0 k ⟨w.heap.size, 0, none⟩ k M 54 (flat F L k) Yba.underlying50 hi0 (by rw [flat_len, hz1]) (by rw [flat_len, hMs]) (fun j v hj => ?_) (flat_mem F L k)
            · rw [hX] at this ⊢
              have e : ((w.alloc (.cells (flat F L k).toArray 54)).drewN q).heap.size = w.heap.size + 1 := by simp
              rw [e] at this
              exact this
            · rw [Addr.add_lit, Nat.zero_add, World.cell?_drewN, World.cell?_alloc_new, hX]
              simpa using hj
          have hmk := HMK.out
          have hXa : ∀ x, x < k → X[x * 2]? = some (.int .i32 (F x)) ∧ X[x * 2 + 1]? = some (.int .i32 (L x)) := fun x hx => by rw [hX]; simpa using flat_at F L k x hx
          have HX : Hid (∀ j u, (flat F L k)[j]? = some u → X[j]? = some u) := fun j u hj => by rw [hX, List.getElem?_toArray]; exact hj
          rw [← hX]
          clear hX hcs hcc HMK hMs h1 h2
          have HC := HS'.out (((w.alloc (.cells X 54)).drewN q).alloc (.cells X 54)) w.heap.size (flat F L k) (flat_len F L k) (fun j u hj => by
            rw [World.cell?_alloc_lt _ _ _ (by simp), World.cell?_drewN, World.cell?_alloc_new]; exact HX.out j u hj)
          go_wp2_with fail
          refine HC.mono ?_
          rintro e w2 ⟨g2, cap2, rfl, hb2, hout⟩
          clear HC HS' hcp hmk
          have hbw : Below w.heap.size w w2 := ((below_drewN ((Below.refl _ _).alloc (Nat.le_refl _) _) q).alloc (by simp) _).trans (hb2.mono (by simp; omega))
          have i1 : ∀ x, x < k → w2.cell? ⟨w.heap.size, x * 2, none⟩ = some (.int .i32 (F x)) := fun x hx => keep hb2 (by rw [World.cell?_alloc_lt _ _ _ (by simp), World.cell?_drewN, World.cell?_alloc_new]; exact (hXa x hx).1)
          have i2 : ∀ x, x < k → w2.cell? ⟨w.heap.size, x * 2 + 1, none⟩ = some (.int .i32 (L x)) := fun x hx => keep hb2 (by rw [World.cell?_alloc_lt _ _ _ (by simp), World.cell?_drewN, World.cell?_alloc_new]; exact (hXa x hx).2)
          have j1 : ∀ x, x < k → w2.cell? ⟨w.heap.size + 1, x * 2, none⟩ = some (.int .i32 (F x)) := fun x hx => keep hb2 (by rw [World.cell?_alloc_at _ _ _ _ (by simp)]; exact (hXa x hx).1)
          have j2 : ∀ x, x < k → w2.cell? ⟨w.heap.size + 1, x * 2 + 1, none⟩ = some (.int .i32 (L x)) := fun x hx => keep hb2 (by rw [World.cell?_alloc_at _ _ _ _ (by simp)]; exact (hXa x hx).2)
          have hfl := flat_len F L k
          have o1 : ∀ x, x < k → w2.cell? ⟨g2, x * 2, none⟩ = some (.int .i32 (F x)) := fun x hx => hout _ _ (by rw [List.getElem?_append_left (by omega)]; exact (flat_at F L k x hx).1)
          have o2 : ∀ x, x < k → w2.cell? ⟨g2, x * 2 + 1, none⟩ = some (.int .i32 (L x)) := fun x hx => hout _ _ (by rw [List.getElem?_append_left (by omega)]; exact (flat_at F L k x hx).2)
          have HO : Hid (∀ y u, adds[y]? = some u → w2.cell? ⟨g2, k * 2 + y, none⟩ = some u) := fun y u hy => hout _ _ (by rw [List.getElem?_append_right (by omega), hfl, Nat.add_sub_cancel_left]; exact hy)
          clear hout hfl HX hXa hb2
          have hlenz : ¬ ((k : Int) + (m' : Int) < (k : Int)) := by omega
          have hm' : m' ≤ 1048576 := by rcases HEND.out with ⟨_, h, _⟩ | ⟨_, h, _⟩ <;> omega
          go_wp2
          go_loopg [96] k (fun gk i wr => ∃ x d : Nat, x ≤ k ∧ gk = k - x ∧ i = .int .i64 x ∧ wr = w2.drewN d)
          case atStart => exact ⟨0, 0, Nat.zero_le _, rfl, rfl, rfl⟩
          case round =>
            obtain ⟨x, d, hx, rfl, rfl, rfl⟩ := hrel
            by_cases hxl : x < k
            · have b1 := i1 x hxl
              have b2 := i2 x hxl
              have b3 := j1 x hxl
              have b4 := j2 x hxl
              have b5 := o1 x hxl
              have b6 := o2 x hxl
              have hxz : (x : Int) < (k : Int) := by omega
              have hxz2 : (x : Int) < (k : Int) + (m' : Int) := by omega
              have hxz3 : (x : Int) < ((k + m' : Nat) : Int) := by omega
              clear i1 i2 j1 j2 o1 o2
              go_wp2
              go_quiet (fail)
              go_wp2
              go_roundg (k - (x + 1))
              case measure => omega
              case rel => exact ⟨x + 1, _, by omega, rfl, by go_num, rfl⟩
            · clear i1 i2 j1 j2 o1 o2
              rcases HEND.out with ⟨rfl, rfl, rfl⟩ | ⟨hs1, rfl, V, rfl, hV⟩
              · have b1 := HO.out 0 _ rfl
                have b2 := HO.out 1 _ rfl
                simp only [Nat.add_zero] at b1
                have hkz : (k : Int) < (k : Int) + 1 := by omega
                go_wp2
                go_ret
                exact ⟨rfl, below_drewN hbw _⟩
              · go_wp2
                go_loopg [18] m' (fun gk i wr => ∃ y e : Nat, y ≤ m' ∧ gk = m' - y ∧ i = .int .i64 y ∧ wr = w2.drewN e)
                case atStart => exact ⟨0, _, Nat.zero_le _, rfl, rfl, rfl⟩
                case round =>
                  obtain ⟨y, e, hy, rfl, rfl, rfl⟩ := hrel
                  by_cases hyl : y < m'
                  · obtain ⟨v1, v2, v3⟩ := hV y hyl
                    have b1 := HO.out (y * 2) _ (dbl_at V m' y hyl).1
                    have b2 := HO.out (y * 2 + 1) _ (dbl_at V m' y hyl).2
                    rw [show k * 2 + y * 2 = (k + y) * 2 by omega] at b1
                    rw [show k * 2 + (y * 2 + 1) = (k + y) * 2 + 1 by omega] at b2
                    rw [v1] at b1 b2 v2 v3
                    clear v1 hV
                    have hyz : (y : Int) < (m' : Int) := by omega
                    have hyz3 : (k : Int) + (y : Int) < ((k + m' : Nat) : Int) := by omega
                    revert b1 b2 v2 v3
                    obtain ⟨p, hp⟩ : ∃ p, (y : Int) * s = p := ⟨_, rfl⟩
                    rw [hp]
                    intro b1 b2 v2 v3
                    go_wp2
                    go_roundg (m' - (y + 1))
                    case measure => omega
                    case rel => exact ⟨y + 1, _, by omega, rfl, by go_num, rfl⟩
                  · clear hV
                    go_wp2
                    go_ret
                    exact ⟨rfl, below_drewN hbw _⟩
end Go.Proofs.Ybulkexpyo
