import Derived.Test.YbulkexpwkMerge
import Derived.Deep.CutRange
import Derived.Deep.CutBlock
import Derived.WalkSmall
namespace Go.Proofs.Ybulkexpwk
open Go.RowKit
set_option linter.unusedVariables false

theorem Yba.info21 : (Yba.prog.info? 21).map (fun i => (i.zero, i.size, i.bytes)) = some (some (.int .i32 0), 1, 4) := by kernel_rfl

theorem setL_cells (rk : Nat → Int) (s : St) (t v : Nat) (j : Nat) : (if j = t * 6 + 2 then Value.int .i32 (v : Int) else nodeCell rk s j) = nodeCell rk { s with L := upd s.L t v } j := by
  refine nodeCell_ext rk (fun j => if j = t * 6 + 2 then Value.int .i32 (v : Int) else nodeCell rk s j) _ (fun i => ?_) j
  simp only [node0, node1, node2, node3, node4, node5, upd]
  refine ⟨if_neg (by omega), if_neg (by omega), ?_, if_neg (by omega), if_neg (by omega), if_neg (by omega)⟩
  by_cases e : i = t
  · subst e; simp
  · rw [if_neg (by omega), if_neg e]
theorem setR_cells (rk : Nat → Int) (s : St) (t v : Nat) (j : Nat) : (if j = t * 6 + 3 then Value.int .i32 (v : Int) else nodeCell rk s j) = nodeCell rk { s with R := upd s.R t v } j := by
  refine nodeCell_ext rk (fun j => if j = t * 6 + 3 then Value.int .i32 (v : Int) else nodeCell rk s j) _ (fun i => ?_) j
  simp only [node0, node1, node2, node3, node4, node5, upd]
  refine ⟨if_neg (by omega), if_neg (by omega), if_neg (by omega), ?_, if_neg (by omega), if_neg (by omega)⟩
  by_cases e : i = t
  · subst e; simp
  · rw [if_neg (by omega), if_neg e]
theorem setP_cells (rk : Nat → Int) (s : St) (t : Nat) (v : Int) (j : Nat) : (if j = t * 6 + 1 then Value.int .i32 v else nodeCell rk s j) = nodeCell rk { s with P := upd s.P t v } j := by
  refine nodeCell_ext rk (fun j => if j = t * 6 + 1 then Value.int .i32 v else nodeCell rk s j) _ (fun i => ?_) j
  simp only [node0, node1, node2, node3, node4, node5, upd]
  refine ⟨if_neg (by omega), ?_, if_neg (by omega), if_neg (by omega), if_neg (by omega), if_neg (by omega)⟩
  by_cases e : i = t
  · subst e; simp
  · rw [if_neg (by omega), if_neg e]

theorem ok_L {n t v : Nat} {s : St} (h : Ok n s.L s.R) (hv : v = 0 ∨ v < t) : Ok n (upd s.L t v) s.R :=
  ⟨fun x => by by_cases e : x = t; (· subst e; rw [upd_same]; exact hv); (· rw [upd_other _ _ e]; exact h.left x), h.right⟩
theorem ok_R {n t v : Nat} {s : St} (h : Ok n s.L s.R) (hv : t < v ∧ v ≤ n) : Ok n s.L (upd s.R t v) :=
  ⟨h.left, fun x => by by_cases e : x = t; (· subst e; rw [upd_same]; exact .inr hv); (· rw [upd_other _ _ e]; exact h.right x)⟩

def stk (st : List Nat) : List Value := st.map fun (x : Nat) => Value.int .i32 (x : Int)

/-- The nodes lie in w, in some order that leads on. -/
def Nodes (w : World) (NB n : Nat) (rk : Nat → Int) : Prop := ∃ s : St, w.rowIs NB 28 ((n + 1) * 6) (nodeCell rk s) ∧ Ok n s.L s.R

theorem Nodes.of_block {w w' : World} {NB n : Nat} {rk : Nat → Int} (h : Nodes w NB n rk) (e : w'.heap[NB]? = w.heap[NB]?) : Nodes w' NB n rk := by
  obtain ⟨s, h1, h2⟩ := h
  exact ⟨s, h1.of_block e, h2⟩
theorem Nodes.setL {w : World} {NB n : Nat} {rk : Nat → Int} (h : Nodes w NB n rk) {t v : Nat} (hv : v = 0 ∨ v < t) : Nodes (w.setCell ⟨NB, t * 6 + 2, none⟩ (.int .i32 (v : Int))) NB n rk := by
  obtain ⟨s, h1, h2⟩ := h
  exact ⟨{ s with L := upd s.L t v }, (h1.set _ _).congr (fun j _ => setL_cells rk s t v j), ok_L h2 hv⟩
theorem Nodes.setR {w : World} {NB n : Nat} {rk : Nat → Int} (h : Nodes w NB n rk) {t v : Nat} (hv : t < v ∧ v ≤ n) : Nodes (w.setCell ⟨NB, t * 6 + 3, none⟩ (.int .i32 (v : Int))) NB n rk := by
  obtain ⟨s, h1, h2⟩ := h
  exact ⟨{ s with R := upd s.R t v }, (h1.set _ _).congr (fun j _ => setR_cells rk s t v j), ok_R h2 hv⟩
theorem Nodes.setP {w : World} {NB n : Nat} {rk : Nat → Int} (h : Nodes w NB n rk) (t : Nat) (v : Int) : Nodes (w.setCell ⟨NB, t * 6 + 1, none⟩ (.int .i32 v)) NB n rk := by
  obtain ⟨s, h1, h2⟩ := h
  exact ⟨{ s with P := upd s.P t v }, (h1.set _ _).congr (fun j _ => setP_cells rk s t v j), h2⟩

theorem gset {w w' : World} {NB : Nat} (h : w.grownBy w' (some NB)) (i : Nat) (v : Value) : w.grownBy (w'.setCell ⟨NB, i, none⟩ v) (some NB) :=
  ⟨h.os, h.tape, h.output, by have := h.size; simp; omega, fun k hk hne => (Below.heap_setCell _ _ _ _ (by intro e; exact hne (by rw [e]))).trans (h.block k hk hne)⟩
theorem gdrewN {w w' : World} {row : Option Nat} (h : w.grownBy w' row) (q : Nat) : w.grownBy (w'.drewN q) row := ⟨h.os, h.tape, h.output, h.size, h.block⟩

/-- The frame of a whole round: the nodes may have turned, and the stack's own row above. -/
theorem grown_all {w wr wc w3 : World} {NB g : Nat} {o : Obj} (h1 : w.grownBy wr (some NB)) (h2 : wr.grownBy wc (some NB)) (h3 : (wc.alloc o).grownBy w3 (some g)) (hg : w.heap.size ≤ g) : w.grownBy w3 (some NB) := by
  have s1 := h1.size
  have s2 := h2.size
  have s3 := h3.size
  simp at s3
  refine ⟨h3.os.trans (h2.os.trans h1.os), h3.tape.trans (h2.tape.trans h1.tape), h3.output.trans (h2.output.trans h1.output), by omega, fun k hk hne => ?_⟩
  rw [h3.block k (by simp; omega) (by intro e; injection e with e; omega), Below.heap_alloc _ _ _ (by omega), h2.block k (by omega) hne, h1.block k hk hne]

theorem own_cap {w : World} {B e g cap n : Nat} {xs : List Value} (h : w.ownsRow B e 1 (.slice (some ⟨g, 0, none⟩) n cap) n xs) : n ≤ cap ∧ B ≤ g := by
  rcases h.2 with ⟨h0, _⟩ | ⟨g', cap', cur, h1, hb, hg, hn, _⟩
  · simp at h0
  · simp only [Value.slice.injEq, Option.some.injEq, Addr.mk.injEq, and_true, true_and] at h1
    obtain ⟨rfl, rfl⟩ := h1
    exact ⟨hn, hb⟩
theorem own_pop {w : World} {B g cap : Nat} {ys : List Nat} {y : Nat} (h : w.ownsRow B 21 1 (.slice (some ⟨g, 0, none⟩) (ys.length + 1) cap) (ys.length + 1) (stk (ys ++ [y]))) : w.ownsRow B 21 1 (.slice (some ⟨g, 0, none⟩) ys.length cap) ys.length (stk ys) := by
  refine ⟨by simp [stk], ?_⟩
  rcases h.2 with ⟨h0, _⟩ | ⟨g', cap', cur, h1, hb, hg, hn, hm, hs, ht⟩
  · simp at h0
  · simp only [Value.slice.injEq, Option.some.injEq, Addr.mk.injEq, and_true, true_and] at h1
    obtain ⟨rfl, rfl⟩ := h1
    refine .inr ⟨g, cap, cur, rfl, hb, hg, by omega, hm, hs, ?_⟩
    have : cur.toList.take (ys.length * 1) = (cur.toList.take ((ys.length + 1) * 1)).take (ys.length * 1) := by rw [List.take_take]; congr 1; omega
    rw [this, ht]
    simp [stk]

set_option maxRecDepth 100000 in
set_option maxHeartbeats 1000000 in
theorem cart_any (NB n lo hi : Nat) (rk : Nat → Int) (w : World) (hn : n ≤ 4096) (h1 : 1 ≤ lo) (h2 : lo ≤ hi) (h3 : hi ≤ n + 1) (hN : Nodes w NB n rk) :
    Calls Yba.prog 5 #[.slice (some ⟨NB, 0, none⟩) (n + 1) (n + 1), .int .i64 (lo : Int), .int .i64 (hi : Int)] w fun e w' => ∃ r : Nat, e = .returned (.int .i32 (r : Int)) ∧ r ≤ n ∧ Nodes w' NB n rk ∧ w.grownBy w' (some NB) := by
  obtain ⟨i0, hi0, hz0, hz1, hz2⟩ := info_parts Yba.info21
  have hNB : NB < w.heap.size := by obtain ⟨s, h, _⟩ := hN; exact h.lt
  obtain ⟨M, hM⟩ : ∃ M, M = madeCells (Value.int .i32 0).cells ((hi - lo) * 1) := ⟨_, rfl⟩
  have hMs : M.size = (hi - lo) * 1 := by rw [hM, size_madeCells]
  have hmk : ∀ W, (Instr.makeSlice 30 (.int .i64 0) (.int .i64 ((hi : Int) - (lo : Int)))).run Yba.prog W = .ok (.slice (some ⟨W.heap.size, 0, none⟩) 0 (hi - lo)) (W.alloc (.cells M 21)) := by
    intro W
    rw [hM]; exact run_make_cap (P := Yba.prog) 30 21 i0 _ 1 4 Yba.underlying30 hi0 hz0 hz1 hz2 .i64 .i64 _ (hi - lo) (by omega) (by omega) (by omega) W
  have own0 := World.ownsRow_made (base := w.heap.size) (e := 21) (size := 1) w M (hi - lo) (Nat.le_refl _) (by unfold maxLen; omega) hMs
  clear hM hMs
  go_enter Yba.func5, Yba.ntmps5
  go_wp2
  clear hmk
  go_loopg [8, 7] (hi - lo) (fun gk i v wr => ∃ (k g cap : Nat) (st : List Nat), lo ≤ k ∧ k ≤ hi ∧ gk = hi - k ∧ i = .int .i64 k ∧ v = .slice (some ⟨g, 0, none⟩) st.length cap ∧ wr.ownsRow w.heap.size 21 1 (.slice (some ⟨g, 0, none⟩) st.length cap) st.length (stk st) ∧ st.length ≤ k ∧ (∀ x ∈ st, 1 ≤ x ∧ x < k) ∧ Nodes wr NB n rk ∧ w.grownBy wr (some NB))
  case atStart => exact ⟨lo, w.heap.size, hi - lo, [], Nat.le_refl _, h2, rfl, rfl, rfl, own0, by simp, (fun x hx => by cases hx), hN.of_block (Below.heap_alloc _ _ _ hNB), World.grownBy_alloc w _ _⟩
  case round =>
    obtain ⟨k, g, cap, st, hk1, hk2, rfl, rfl, rfl, hown, hsl, hst, hNr, hg⟩ := hrel
    clear own0 hN
    by_cases hlt : k < hi
    · have hkz : (k : Int) < (hi : Int) := by omega
      obtain ⟨sN, hN1, hN2⟩ := hNr
      have rt : wr.cell? ⟨NB, k * 6 + 5, none⟩ = some (.int .u64 (rk k)) := by rw [hN1.cell (by omega), node5]
      have rr : ∀ x, x ≤ n → wr.cell? ⟨NB, x * 6 + 5, none⟩ = some (.int .u64 (rk x)) := fun x hx => by rw [hN1.cell (by omega), node5]
      have RR := hide rr
      have HN1 := hide hN1
      have HOWN := hide hown
      have HST := hide hst
      have HG := hide hg
      clear rr hN1 hown hst hg
      have hkn : (k : Int) < ((n + 1 : Nat) : Int) := by omega
      have hkn2 : k ≤ n := by omega
      -- the inner loop only pops
      go_upto_block 2 with fail
      go_cut [10, 7] from 24 to 55 (fun last v wx => ∃ (ys : List Nat) (la q : Nat), ys.length ≤ st.length ∧ last = .int .i32 (la : Int) ∧ v = .slice (some ⟨g, 0, none⟩) ys.length cap ∧ (la = 0 ∨ la < k) ∧ wx = wr.drewN q ∧ wr.ownsRow w.heap.size 21 1 (.slice (some ⟨g, 0, none⟩) ys.length cap) ys.length (stk ys) ∧ (∀ x ∈ ys, 1 ≤ x ∧ x < k))
      case first =>
        go_wp2
        go_loopg [10, 7] st.length (fun gk last v wx => ∃ (ys : List Nat) (la q : Nat), ys.length ≤ st.length ∧ gk = ys.length ∧ last = .int .i32 (la : Int) ∧ v = .slice (some ⟨g, 0, none⟩) ys.length cap ∧ (la = 0 ∨ la < k) ∧ wx = wr.drewN q ∧ wr.ownsRow w.heap.size 21 1 (.slice (some ⟨g, 0, none⟩) ys.length cap) ys.length (stk ys) ∧ (∀ x ∈ ys, 1 ≤ x ∧ x < k))
        case atStart => exact ⟨st, 0, 0, Nat.le_refl _, rfl, rfl, rfl, .inl rfl, rfl, HOWN.out, HST.out⟩
        case round =>
          obtain ⟨ys, la, q, hyl, rfl, rfl, rfl, hla, rfl, hoy, hys⟩ := hrel
          have HOY := hide hoy
          have HYS := hide hys
          have HLA := hide hla
          rcases List.eq_nil_or_concat ys with rfl | ⟨zs, y, rfl⟩
          · clear hoy hys hla
            go_wp2
            go_quiet (fail)
            go_wp2
            go_meet
            case rel => exact ⟨[], la, q + nq, hyl, rfl, rfl, HLA.out, World.drewN_drewN .., HOY.out, HYS.out⟩
          · have hy := hys y (by simp)
            have ry := RR.out y (by omega)
            have hlz : (zs.concat y).length = zs.length + 1 := by simp
            rw [hlz] at hoy hyl ⊢
            rw [List.concat_eq_append] at hoy hys
            have cy : wr.cell? ⟨g, zs.length, none⟩ = some (.int .i32 (y : Int)) := by rw [hoy.cellAt zs.length (by omega)]; simp [stk]
            have hyz : (y : Int) < ((n + 1 : Nat) : Int) := by omega
            have HOP := hide (own_pop hoy)
            have hwr : IntKind.i64.wrap ((zs.length : Int) + 1 - 1) = (zs.length : Int) := by rw [IntKind.wrap_i64]; omega
            have hlz2 : (zs.length : Int) < ((zs.length + 1 : Nat) : Int) := by omega
            have hlz3 : 0 < zs.length + 1 := by omega
            have hb : zs.length ≤ 4097 := by omega
            have HYL : Hid (zs.length + 1 ≤ st.length) := hyl
            have HYZ : Hid (∀ x ∈ zs, 1 ≤ x ∧ x < k) := fun x hx => hys x (by simp [hx])
            have hcap := (own_cap hoy).1
            have hcap2 : (zs.length : Int) ≤ (cap : Int) := by omega
            clear hlz hoy hys hla hyl
            by_cases hrk : rk y < rk k
            · go_wp2
              go_quiet (fail)
              go_wp2
              go_roundg zs.length
              case measure => simp
              case rel => exact ⟨zs, y, q + nq, by have := HYL.out; omega, rfl, rfl, rfl, .inr hy.2, rfl, HOP.out, HYZ.out⟩
            · have hrk2 : decide (rk y < rk k) = false := by simpa using hrk
              go_wp2
              go_quiet (fail)
              go_wp2
              go_meet
              case rel => exact ⟨zs.concat y, la, q + nq, by have := HYL.out; simpa using this, rfl, by simp, HLA.out, World.drewN_drewN .., by simpa using HOY.out, HYS.out⟩
      case rest =>
        obtain ⟨ys, la, q, hyl, rfl, rfl, hla, rfl, hoy, hys⟩ := hcut
        have x2 := HN1.out.cell (i := k * 6 + 2) (by omega)
        have ff : ∀ i, wr.frozen? ⟨NB, i, none⟩ = false := fun i => HN1.out.frozen i
        have HOY := hide hoy
        have HYS := hide hys
        have HLA := hide hla
        have hlan : la ≤ n := by omega
        clear hoy hys hla rt
        go_upto_if 62 with fail
        have hN0 : Nodes ((wr.drewN q).setCell ⟨NB, k * 6 + 2, none⟩ (.int .i32 (la : Int))) NB n rk := Nodes.setL ⟨sN, HN1.out, hN2⟩ HLA.out
        have hG0 : wr.grownBy ((wr.drewN q).setCell ⟨NB, k * 6 + 2, none⟩ (.int .i32 (la : Int))) (some NB) := gset (gdrewN (World.grownBy.refl _ _) q) _ _
        have HN0 := hide hN0
        have HG0 := hide hG0
        clear hN0 hG0
        go_cut [] from 61 to 67 (fun wx => Nodes wx NB n rk ∧ wr.grownBy wx (some NB))
        case first =>
          by_cases e0 : la = 0
          · have hl0 : ((la : Int) != 0) = false := by simp; omega
            clear e0
            go_wp2
            go_meet
            case rel => exact ⟨HN0.out, HG0.out⟩
          · have hl0 : ((la : Int) != 0) = true := by simp; omega
            have y1 := HN1.out.cell (i := la * 6 + 1) (by omega)
            have hlz : (la : Int) < ((n + 1 : Nat) : Int) := by omega
            clear e0
            go_wp2
            go_meet
            case rel => exact ⟨HN0.out.setP _ _, gset HG0.out _ _⟩
        case rest =>
          obtain ⟨hN3, hG3⟩ := hcut
          clear HN0 HG0 x2 ff RR HN1 hN2 HLA
          obtain ⟨s3, hN3a, hN3b⟩ := hN3
          have hcap := own_cap HOY.out
          have hne : (Value.slice (some ⟨g, 0, none⟩) ys.length cap).ownBlock ≠ some NB := by simp [Value.ownBlock]; omega
          have HO3 := hide (HOY.out.kept hG3 (.inr hne))
          have ff : ∀ i, wc.frozen? ⟨NB, i, none⟩ = false := fun i => hN3a.frozen i
          have HN3 := hide (show Nodes wc NB n rk from ⟨s3, hN3a, hN3b⟩)
          have HN3a := hide hN3a
          have HG3 := hide hG3
          clear hN3a hG3 hne
          have hyb : ys.length ≤ 4097 := by omega
          go_upto_if 70 with fail
          go_cut [7] from 68 to 86 (fun v wx => v = .slice (some ⟨g, 0, none⟩) ys.length cap ∧ Nodes wx NB n rk ∧ wr.grownBy wx (some NB))
          case first =>
            rcases List.eq_nil_or_concat ys with rfl | ⟨zs, y, rfl⟩
            · go_wp2
              go_meet
              case rel => exact ⟨rfl, HN3.out, HG3.out⟩
            · have hlz : (zs.concat y).length = zs.length + 1 := by simp
              have hoy := HO3.out
              have hys := HYS.out
              rw [List.concat_eq_append] at hys
              rw [hlz, List.concat_eq_append] at hoy
              rw [hlz] at hcap ⊢
              have hy := hys y (by simp)
              have cy : wc.cell? ⟨g, zs.length, none⟩ = some (.int .i32 (y : Int)) := by rw [hoy.cellAt zs.length (by omega)]; simp [stk]
              have z3 := HN3a.out.cell (i := y * 6 + 3) (by omega)
              have z1 := HN3a.out.cell (i := k * 6 + 1) (by omega)
              have hyz : (y : Int) < ((n + 1 : Nat) : Int) := by omega
              have hlz2 : (zs.length : Int) < ((zs.length + 1 : Nat) : Int) := by omega
              have hlz3 : (0 : Int) < (zs.length : Int) + 1 := by omega
              have HY := hide hy
              have hb : zs.length ≤ 4097 := by rw [hlz] at hyb; omega
              clear hlz hoy hys hy hyb
              go_wp2
              go_meet
              case rel => exact ⟨by simp, (HN3.out.setR ⟨HY.out.2, hkn2⟩).setP _ _, gset (gset HG3.out _ _) _ _⟩
          case rest =>
            obtain ⟨rfl, hN4, hG4⟩ := hcut
            clear HN3 HN3a HG3 HO3 ff hN3b
            have hsz := hG4.size
            have hne : (Value.slice (some ⟨g, 0, none⟩) ys.length cap).ownBlock ≠ some NB := by simp [Value.ownBlock]; omega
            have hO4 := HOY.out.kept hG4 (.inr hne)
            have hsz0 := HG.out.size
            clear hne
            go_wp2_with (first
              | (at_builtin; refine wpList_append_own _ rfl _ _ 30 rfl w.heap.size 21 i0 (.int .i32 0) 1 4 Yba.underlying30 hi0 hz0 hz1 hz2 rfl (by decide) _ _ _ rfl (hO4.alloc _) ⟨_, 0, none⟩ 1 1 [.int .i32 (k : Int)] rfl rfl ?c1 ?c2 ?c3 ?c4 ?c5 ?_))
            case c1 => exact one_cell _ _ _ _ rfl
            case c2 => intro u hu; simp at hu; subst hu; rfl
            case c3 => unfold maxLen; omega
            case c4 => omega
            case c5 => simp; omega
            intro v' w3 own3 hg3 _
            obtain ⟨g', cap', hv', hg1, hg2⟩ := own_form own3 (by omega)
            rw [hv'] at own3 ⊢
            have hNBc : NB < wc.heap.size := by omega
            have hN5 : Nodes w3 NB n rk := hN4.of_block ((hg3.block NB (by simp; omega) (by simp [Value.ownBlock]; omega)).trans (Below.heap_alloc _ _ _ hNBc))
            have hG5 : w.grownBy w3 (some NB) := grown_all HG.out hG4 hg3 hcap.2
            have HO5 := hide own3
            clear hv' hg3 hO4 hN4 hG4 own3
            go_wp2
            go_roundg (hi - (k + 1))
            case measure => omega
            case rel =>
              refine ⟨k + 1, g', cap', ys ++ [k], by omega, by omega, rfl, by go_num, by simp, by simpa [stk] using HO5.out, by simp; omega, fun x hx => ?_, hN5, hG5⟩
              rcases List.mem_append.1 hx with hx | hx
              · have := HYS.out x hx; omega
              · simp at hx; omega
    · have hkh : k = hi := by omega
      rcases st with _ | ⟨y, st⟩
      · clear hst hown
        go_wp2
        go_ret
        exact ⟨0, rfl, by omega, hNr, hg⟩
      · have hy := hst y (by simp)
        have cy : wr.cell? ⟨g, 0, none⟩ = some (.int .i32 (y : Int)) := by rw [hown.cellAt 0 (by simp)]; simp [stk]
        have hlb : st.length ≤ 4097 := by simp at hsl; omega
        clear hst hown hsl
        go_wp2
        go_ret
        exact ⟨y, rfl, by omega, hNr, hg⟩
end Go.Proofs.Ybulkexpwk
