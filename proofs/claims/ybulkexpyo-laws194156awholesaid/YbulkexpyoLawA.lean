import Derived.Test.YbulkexpyoTake
import Derived.Deep.CutRange
import Derived.Deep.DeepCutAuto
import Derived.Deep.OwnRows
import Derived.Deep.Light
namespace Go.Proofs.Ybulkexpyo
open Go.RowKit
set_option linter.unusedVariables false

/-- The first k clauses are made. -/
structure Cls (w wr : World) (sz k : Nat) : Prop where
  below : Below w.heap.size w wr
  size : wr.heap.size = w.heap.size + 1 + k
  row : wr.rowIs w.heap.size 24 sz (fun j => if j < k then .pointer (some ⟨w.heap.size + 1 + j, 0, none⟩) else .pointer none)
  num : ∀ j, j < k → wr.cell? ⟨w.heap.size + 1 + j, 2, none⟩ = some (.int .i64 (j : Int))

theorem cls_start (w : World) (sz : Nat) : Cls w (w.alloc (.cells (madeCells #[.pointer none] sz) 24)) sz 0 :=
  ⟨(Below.refl _ _).alloc (Nat.le_refl _) _, by simp, (World.rowIs_made w _ sz 24).congr (fun j _ => by simp), fun j hj => by omega⟩

theorem cls_step {w wr : World} {sz k : Nat} (h : Cls w wr sz k) : Cls w ((wr.alloc (.cells #[.slice none 0 0, .slice none 0 0, .int .i64 (k : Int), .nilIface] 30)).setCell ⟨w.heap.size, k, none⟩ (.pointer (some ⟨wr.heap.size, 0, none⟩))) sz (k + 1) := by
  have hs := h.size
  refine ⟨(h.below.alloc (by omega) _).setCell (Nat.le_refl _) _, by simp; omega, ((h.row.alloc _).set k _).congr (fun j hj => ?_), fun j hj => ?_⟩
  · by_cases e : j = k
    · subst e; simp [hs]
    · rw [if_neg e]
      by_cases hlt : j < k
      · rw [if_pos hlt, if_pos (by omega)]
      · rw [if_neg hlt, if_neg (by omega)]
  · rw [World.cell?_setCell_other _ _ _ _ (fun e => by have := congrArg Addr.block e; simp at this; omega)]
    by_cases e : j = k
    · subst e
      rw [← hs, World.cell?_alloc_new]; rfl
    · rw [World.cell?_alloc_past _ _ _ (by omega)]; exact h.num j (by omega)

/-- What the law leans on once both rows of clauses are made. -/
structure Mid (w wc : World) (sz : Nat) : Prop where
  below : Below w.heap.size w wc
  size : wc.heap.size = w.heap.size + 2 + sz
  cls : ∀ j, j < sz → wc.cell? ⟨w.heap.size, j, none⟩ = some (.pointer (some ⟨w.heap.size + 1 + j, 0, none⟩))
  orig : ∀ j, j < sz → wc.cell? ⟨w.heap.size + 1 + sz, j, none⟩ = some (.pointer (some ⟨w.heap.size + 1 + j, 0, none⟩))
  num : ∀ j, j < sz → wc.cell? ⟨w.heap.size + 1 + j, 2, none⟩ = some (.int .i64 (j : Int))

theorem mid_of {w wr : World} {sz : Nat} (h : Cls w wr sz sz) : Mid w (wr.alloc (.cells ((List.range sz).map fun j => Value.pointer (some ⟨w.heap.size + 1 + j, 0, none⟩)).toArray 24)) sz := by
  have hs := h.size
  refine ⟨h.below.alloc (by omega) _, by simp; omega, fun j hj => ?_, fun j hj => ?_, fun j hj => ?_⟩
  · rw [World.cell?_alloc_past _ _ _ (by omega), h.row.cell hj, if_pos hj]
  · rw [World.cell?_alloc_at _ _ _ _ hs.symm]; simp [hj]
  · rw [World.cell?_alloc_past _ _ _ (by omega)]; exact h.num j hj

set_option maxRecDepth 100000 in
set_option maxHeartbeats 4000000 in
theorem lawA_plain (n : Nat) (nx vars : Int) (la : Option Addr) (ll lc : Nat) (w : World) (hn : n ≤ 255) (hnx : -2147483648 ≤ nx ∧ nx ≤ 2147483647) :
    Calls Yba.prog 3 #[.int .u8 (n : Int), .bool false, .int .i32 nx, .int .i32 vars, .slice la ll lc] w fun e w' => e = .returned (.bool true) ∧ Below w.heap.size w w' := by
  obtain ⟨i0, hi, hz0, hz1, hz2⟩ := info_parts Yba.info24
  obtain ⟨M, hM⟩ : ∃ M, M = madeCells #[Value.pointer none] (n + 1) := ⟨_, rfl⟩
  have hMs : M.size = n + 1 := by rw [hM, size_madeCells]
  have hmk : ∀ W, (Instr.makeSlice 23 (.int .i64 ((n : Int) + 1)) (.int .i64 ((n : Int) + 1))).run Yba.prog W = .ok (.slice (some ⟨W.heap.size, 0, none⟩) (n + 1) (n + 1)) (W.alloc (.cells M 24)) := by
    intro W
    have := run_make_any (P := Yba.prog) 23 24 i0 _ 1 8 Yba.underlying23 hi hz0 hz1 hz2 .i64 .i64 (n + 1) (by omega) (by omega) W
    rw [Nat.mul_one] at this
    rw [hM]; exact this
  have HMK := hide hmk
  have HM := hide hM
  have HMS := hide hMs
  clear hM hMs
  go_enter Yba.func3, Yba.ntmps3
  go_wp2
  clear hmk
  go_loopg [13] (n + 1) (fun gk i wr => ∃ k : Nat, k ≤ n + 1 ∧ gk = n + 1 - k ∧ i = .int .i64 k ∧ Cls w wr (n + 1) k)
  case atStart => exact ⟨0, Nat.zero_le _, rfl, rfl, by rw [HM.out]; exact cls_start w (n + 1)⟩
  case round =>
    obtain ⟨k, hk, rfl, rfl, hC⟩ := hrel
    by_cases hlt : k < n + 1
    · have hkz : (k : Int) < (n : Int) + 1 := by omega
      have hkz2 : (k : Int) < ((n + 1 : Nat) : Int) := by omega
      have hst1 : ∀ o, (wr.alloc o).cell? ⟨w.heap.size, k, none⟩ = some (if k < k then .pointer (some ⟨w.heap.size + 1 + k, 0, none⟩) else .pointer none) := fun o => (hC.row.alloc o).cell hlt
      simp only [Nat.lt_irrefl, if_false] at hst1
      have hst2 : ∀ o, (wr.alloc o).frozen? ⟨w.heap.size, k, none⟩ = false := fun o => (hC.row.alloc o).frozen k
      go_wp2
      go_roundg (n + 1 - (k + 1))
      case measure => omega
      case rel => exact ⟨k + 1, by omega, rfl, by go_num, cls_step hC⟩
    · have : k = n + 1 := by omega
      subst this
      have hcs := hC.size
      have hcp : ∀ ty, (Builtin.copy_ #[23, 23] ty #[.slice (some ⟨wr.heap.size, 0, none⟩) (n + 1) (n + 1), .slice (some ⟨w.heap.size, 0, none⟩) (n + 1) (n + 1)]).run Yba.prog (wr.alloc (.cells M 24)) = .ok (goInt ((n + 1 : Nat) : Int)) (wr.alloc (.cells ((List.range (n + 1)).map fun j => Value.pointer (some ⟨w.heap.size + 1 + j, 0, none⟩)).toArray 24)) := by
        intro ty
        refine run_copy_fresh (P := Yba.prog) wr 23 23 ty 24 i0 (n + 1) ⟨w.heap.size, 0, none⟩ (n + 1) M 24 ((List.range (n + 1)).map fun j => Value.pointer (some ⟨w.heap.size + 1 + j, 0, none⟩)) Yba.underlying23 hi (by simp [hz1]) (by simp [HMS.out]) (fun j u hj => ?_) (fun u hu => ?_)
        · rw [Addr.add_lit, Nat.zero_add]
          have hjk : j < n + 1 := by have := (List.getElem?_eq_some_iff.1 hj).1; simpa using this
          simp only [List.getElem?_map, List.getElem?_range hjk, Option.map_some, Option.some.injEq] at hj
          rw [hC.row.cell hjk, if_pos hjk, hj]
        · simp only [List.mem_map] at hu
          obtain ⟨i, _, rfl⟩ := hu
          rfl
      have hm := mid_of hC
      have hXr : ∀ j, j < n + 1 → ((List.range (n + 1)).map fun j => Value.pointer (some ⟨w.heap.size + 1 + j, 0, none⟩)).toArray[j]? = some (.pointer (some ⟨w.heap.size + 1 + j, 0, none⟩)) := fun j hj => by simp [hj]
      revert hcp hm hXr
      generalize ((List.range (n + 1)).map fun j => Value.pointer (some ⟨w.heap.size + 1 + j, 0, none⟩)).toArray = X
      intro hcp hm hXr
      have hmk := HMK.out
      obtain ⟨r, hr⟩ : ∃ r : Nat, nx % 4294967296 % ((n : Int) + 1) = (r : Int) := ⟨(nx % 4294967296 % ((n : Int) + 1)).toNat, by have := Int.emod_nonneg (nx % 4294967296) (show (n : Int) + 1 ≠ 0 by omega); omega⟩
      have hrn : r ≤ n := by have := Int.emod_lt_of_pos (nx % 4294967296) (show 0 < (n : Int) + 1 by omega); omega
      clear HMK HM HMS hi hz0 hz1 hz2
      have HT := take_plain w.heap.size (n + 1) r vars (some ⟨w.heap.size + 1 + r, 0, none⟩) (wr.alloc (.cells X 24)) (by omega) (by omega) (hm.cls r (by omega))
      simp only [World.size_alloc] at HT
      have HS : Hid (∀ S q, Calls Yba.prog 6 #[.slice (some ⟨w.heap.size, 0, none⟩) (n + 1) (n + 1), .slice (some ⟨wr.heap.size, 0, none⟩) (n + 1) (n + 1)] (((wr.alloc (.cells X 24)).alloc (.cells S 37)).drewN q) fun e w' => e = .returned (.bool true) ∧ ∃ k, w' = (((wr.alloc (.cells X 24)).alloc (.cells S 37)).drewN q).drewN k) := by
        intro S q
        refine asame_true w.heap.size wr.heap.size (n + 1) (n + 1) (n + 1) (fun j => ⟨w.heap.size + 1 + j, 0, none⟩) _ (by omega) (fun _ => rfl) (fun j hj => ?_) (fun j hj => ?_) (fun j hj => ?_)
        · rw [World.cell?_drewN, World.cell?_alloc_past _ _ _ (by simp; omega)]; exact hm.cls j hj
        · rw [World.cell?_drewN, World.cell?_alloc_past _ _ _ (by simp), hcs]; exact hm.orig j hj
        · show ((((wr.alloc _).alloc _).drewN q).cell? ⟨w.heap.size + 1 + j, 0 + 2, none⟩) = _
          rw [World.cell?_drewN, World.cell?_alloc_past _ _ _ (by simp; omega)]; exact hm.num j hj
      have c1 := hXr r (by omega)
      have c2 := hC.num r (by omega)
      have hl1 : w.heap.size + 1 + r < wr.heap.size := by omega
      have hl2 : w.heap.size < wr.heap.size := by omega
      have hrz : (r : Int) < (n : Int) + 1 := by omega
      have hrz2 : (r : Int) < ((n + 1 : Nat) : Int) := by omega
      have HB : Hid (∀ S q, Below w.heap.size w (((wr.alloc (.cells X 24)).alloc (.cells S 37)).drewN q)) := fun S q => below_drewN (hm.below.alloc (by simp; omega) _) q
      obtain ⟨i1, hi1, _⟩ := info_parts Yba.info30
      have hpn := fun (a : Addr) (W : World) => run_neq_ptr_same (P := Yba.prog) (tp := 24) a Yba.underlying24 hi1 W
      clear hcs hXr hm hC
      go_wp2_with fail
      refine HT.mono ?_
      rintro e w2 ⟨rfl, q, rfl⟩
      clear HT hcp hmk hr
      go_wp2_with fail
      refine (HS.out _ _).mono ?_
      rintro e w3 ⟨rfl, k, rfl⟩
      go_wp2
      go_ret
      exact ⟨rfl, HB.out _ _⟩

theorem Yba.info47 : (Yba.prog.info? 47).isSome = true := by kernel_rfl
theorem Yba.info21 : (Yba.prog.info? 21).map (fun i => (i.zero, i.size, i.bytes)) = some (some (.int .i32 0), 1, 4) := by kernel_rfl

/-- A row of int32. -/
def Ints (c : Array Value) (sz : Nat) : Prop := c.size = sz ∧ ∀ j, j < sz → ∃ z, c[j]? = some (.int .i32 z)
theorem Ints.set {c : Array Value} {sz : Nat} (h : Ints c sz) (k : Nat) (z : Int) : Ints (c.setIfInBounds k (.int .i32 z)) sz := by
  refine ⟨by simpa using h.1, fun j hj => ?_⟩
  by_cases e : k = j
  · subst e; exact ⟨z, by rw [Array.getElem?_setIfInBounds_self_of_lt (by rw [h.1]; exact hj)]⟩
  · rw [Array.getElem?_setIfInBounds_ne e]; exact h.2 j hj
theorem ints_made (sz : Nat) : Ints (madeCells #[.int .i32 0] sz) sz := ⟨size_madeCells _ _, fun j hj => ⟨0, by simp [madeCells, hj, Nat.mod_one]⟩⟩

set_option maxRecDepth 100000 in
set_option maxHeartbeats 4000000 in
theorem lawA_index (n : Nat) (nx vars : Int) (la : Option Addr) (lb loff ll lc : Nat) (z : Nat → Int) (w : World) (hn : n ≤ 255) (hll : ll ≤ 9223372036854775807) (hnx : -2147483648 ≤ nx ∧ nx ≤ 2147483647) (hvx : -2147483648 ≤ vars ∧ vars ≤ 2147483647) (hla : 0 < ll → la = some ⟨lb, loff, none⟩) (hz : ∀ i, i < ll → w.cell? ⟨lb, loff + i, none⟩ = some (.int .i32 (z i)) ∧ -2147483648 ≤ z i ∧ z i ≤ 2147483647) :
    Calls Yba.prog 3 #[.int .u8 (n : Int), .bool true, .int .i32 nx, .int .i32 vars, .slice la ll lc] w fun e w' => e = .returned (.bool true) ∧ Below w.heap.size w w' := by
  obtain ⟨i0, hi, hz0, hz1, hz2⟩ := info_parts Yba.info24
  obtain ⟨M, hM⟩ : ∃ M, M = madeCells #[Value.pointer none] (n + 1) := ⟨_, rfl⟩
  have hMs : M.size = n + 1 := by rw [hM, size_madeCells]
  have hmk : ∀ W, (Instr.makeSlice 23 (.int .i64 ((n : Int) + 1)) (.int .i64 ((n : Int) + 1))).run Yba.prog W = .ok (.slice (some ⟨W.heap.size, 0, none⟩) (n + 1) (n + 1)) (W.alloc (.cells M 24)) := by
    intro W
    have := run_make_any (P := Yba.prog) 23 24 i0 _ 1 8 Yba.underlying23 hi hz0 hz1 hz2 .i64 .i64 (n + 1) (by omega) (by omega) W
    rw [Nat.mul_one] at this
    rw [hM]; exact this
  have HMK := hide hmk
  have HM := hide hM
  have HMS := hide hMs
  clear hM hMs
  go_enter Yba.func3, Yba.ntmps3
  go_wp2
  clear hmk
  go_loopg [13] (n + 1) (fun gk i wr => ∃ k : Nat, k ≤ n + 1 ∧ gk = n + 1 - k ∧ i = .int .i64 k ∧ Cls w wr (n + 1) k)
  case atStart => exact ⟨0, Nat.zero_le _, rfl, rfl, by rw [HM.out]; exact cls_start w (n + 1)⟩
  case round =>
    obtain ⟨k, hk, rfl, rfl, hC⟩ := hrel
    by_cases hlt : k < n + 1
    · have hkz : (k : Int) < (n : Int) + 1 := by omega
      have hkz2 : (k : Int) < ((n + 1 : Nat) : Int) := by omega
      have hst1 : ∀ o, (wr.alloc o).cell? ⟨w.heap.size, k, none⟩ = some (if k < k then .pointer (some ⟨w.heap.size + 1 + k, 0, none⟩) else .pointer none) := fun o => (hC.row.alloc o).cell hlt
      simp only [Nat.lt_irrefl, if_false] at hst1
      have hst2 : ∀ o, (wr.alloc o).frozen? ⟨w.heap.size, k, none⟩ = false := fun o => (hC.row.alloc o).frozen k
      go_wp2
      go_roundg (n + 1 - (k + 1))
      case measure => omega
      case rel => exact ⟨k + 1, by omega, rfl, by go_num, cls_step hC⟩
    · have : k = n + 1 := by omega
      subst this
      have hcs := hC.size
      have hcp : ∀ ty, (Builtin.copy_ #[23, 23] ty #[.slice (some ⟨wr.heap.size, 0, none⟩) (n + 1) (n + 1), .slice (some ⟨w.heap.size, 0, none⟩) (n + 1) (n + 1)]).run Yba.prog (wr.alloc (.cells M 24)) = .ok (goInt ((n + 1 : Nat) : Int)) (wr.alloc (.cells ((List.range (n + 1)).map fun j => Value.pointer (some ⟨w.heap.size + 1 + j, 0, none⟩)).toArray 24)) := by
        intro ty
        refine run_copy_fresh (P := Yba.prog) wr 23 23 ty 24 i0 (n + 1) ⟨w.heap.size, 0, none⟩ (n + 1) M 24 ((List.range (n + 1)).map fun j => Value.pointer (some ⟨w.heap.size + 1 + j, 0, none⟩)) Yba.underlying23 hi (by simp [hz1]) (by simp [HMS.out]) (fun j u hj => ?_) (fun u hu => ?_)
        · rw [Addr.add_lit, Nat.zero_add]
          have hjk : j < n + 1 := by have := (List.getElem?_eq_some_iff.1 hj).1; simpa using this
          simp only [List.getElem?_map, List.getElem?_range hjk, Option.map_some, Option.some.injEq] at hj
          rw [hC.row.cell hjk, if_pos hjk, hj]
        · simp only [List.mem_map] at hu
          obtain ⟨i, _, rfl⟩ := hu
          rfl
      have hm := mid_of hC
      have hXr : ∀ j, j < n + 1 → ((List.range (n + 1)).map fun j => Value.pointer (some ⟨w.heap.size + 1 + j, 0, none⟩)).toArray[j]? = some (.pointer (some ⟨w.heap.size + 1 + j, 0, none⟩)) := fun j hj => by simp [hj]
      revert hcp hm hXr
      generalize ((List.range (n + 1)).map fun j => Value.pointer (some ⟨w.heap.size + 1 + j, 0, none⟩)).toArray = X
      intro hcp hm hXr
      have hmk := HMK.out
      clear HMK HM HMS hi hz0 hz1 hz2
      have HCS := hide hcs
      clear hcs
      obtain ⟨r1, hr1⟩ : ∃ r : Nat, nx % 4294967296 % ((n : Int) + 1 + 1) = (r : Int) := ⟨(nx % 4294967296 % ((n : Int) + 1 + 1)).toNat, by have := Int.emod_nonneg (nx % 4294967296) (show (n : Int) + 1 + 1 ≠ 0 by omega); omega⟩
      have hrn1 : r1 ≤ n + 1 := by have := Int.emod_lt_of_pos (nx % 4294967296) (show 0 < (n : Int) + 1 + 1 by omega); omega
      obtain ⟨r2, hr2⟩ : ∃ r : Nat, vars % 4294967296 % ((n : Int) + 1 + 1) = (r : Int) := ⟨(vars % 4294967296 % ((n : Int) + 1 + 1)).toNat, by have := Int.emod_nonneg (vars % 4294967296) (show (n : Int) + 1 + 1 ≠ 0 by omega); omega⟩
      have hrn2 : r2 ≤ n + 1 := by have := Int.emod_lt_of_pos (vars % 4294967296) (show 0 < (n : Int) + 1 + 1 by omega); omega
      obtain ⟨wm, hwm⟩ : ∃ wm, wm = wr.alloc (.cells X 24) := ⟨_, rfl⟩
      have HWM := hide hwm
      clear hwm
      go_upto_region 21 with fail
      obtain ⟨t, ht⟩ : ∃ t : Bool, t = (decide (r1 = 0) && decide (r2 = 0)) := ⟨_, rfl⟩
      have HT := hide ht
      obtain ⟨nv, hnv⟩ : ∃ nv : Int, nv = if r1 = 0 ∧ r2 = 0 then 0 else (r1 : Int) - 1 := ⟨_, rfl⟩
      have HNV := hide hnv
      obtain ⟨vv, hvv⟩ : ∃ vv : Int, vv = (r2 : Int) - 1 := ⟨_, rfl⟩
      have HVV := hide hvv
      have hb1 : -1 ≤ nv ∧ nv ≤ n := by rw [hnv]; split <;> omega
      have hb2 : -1 ≤ vv ∧ vv ≤ n := by omega
      have hb3 : 0 ≤ nv ∨ 0 ≤ vv := by rw [hnv]; split <;> omega
      clear ht hnv hvv
      clear hr1 hr2
      go_cut [140, 19, 20] from 135 to 140 (fun v s19 s20 wc => wr.alloc (.cells X 24) = wc ∧ v = .bool t ∧ s19 = .int .i32 ((r1 : Int) - 1) ∧ s20 = .int .i32 vv)
      case first =>
        by_cases e1 : r1 = 0
        · have h1 : (r1 : Int) - 1 < 0 := by omega
          by_cases e2 : r2 = 0
          · have h2 : (r2 : Int) - 1 < 0 := by omega
            have HE := hide (And.intro e1 e2)
            clear e1 e2
            go_wp2
            go_meet
            case rel => go_light; exact ⟨rfl, by rw [HT.out, HE.out.1, HE.out.2]; rfl, rfl, by rw [HVV.out]⟩
          · have h2 : decide ((r2 : Int) - 1 < 0) = false := by simp; omega
            have HE := hide (And.intro e1 e2)
            clear e1 e2
            go_wp2
            go_meet
            case rel => go_light; exact ⟨rfl, by rw [HT.out]; simp [HE.out.2], rfl, by rw [HVV.out]⟩
        · have h1 : decide ((r1 : Int) - 1 < 0) = false := by simp; omega
          have HE := hide e1
          clear e1
          go_wp2
          go_meet
          case rel => go_light; exact ⟨rfl, by rw [HT.out]; simp [HE.out], rfl, by rw [HVV.out]⟩
      case rest =>
        obtain ⟨rfl, rfl, rfl, rfl⟩ := hcut
        go_upto_if 140 with fail
        go_cut [19] from 135 to 140 (fun v wc => wr.alloc (.cells X 24) = wc ∧ v = .int .i32 nv)
        case first =>
          cases t with
          | true =>
            go_wp2
            go_meet
            case rel => go_light; exact ⟨rfl, by have := HT.out; simp at this; rw [HNV.out, if_pos this]⟩
          | false =>
            go_wp2
            go_meet
            case rel => go_light; exact ⟨rfl, by have := HT.out; simp at this; rw [HNV.out, if_neg (fun h => this h.1 h.2)]⟩
        case rest =>
          obtain ⟨rfl, rfl⟩ := hcut
          clear HT HNV HVV HWM wm hcp hmk
          obtain ⟨i2, hi, hz0, hz1, hz2⟩ := info_parts Yba.info21
          obtain ⟨M2, hM2⟩ : ∃ M, M = madeCells #[Value.int .i32 0] (n + 1) := ⟨_, rfl⟩
          have hM2s : M2.size = n + 1 := by rw [hM2, size_madeCells]
          have hI0 : Ints M2 (n + 1) := by rw [hM2]; exact ints_made _
          have hmk2 : ∀ W, (Instr.makeSlice 22 (.int .i64 ((n : Int) + 1)) (.int .i64 ((n : Int) + 1))).run Yba.prog W = .ok (.slice (some ⟨W.heap.size, 0, none⟩) (n + 1) (n + 1)) (W.alloc (.cells M2 21)) := by
            intro W
            have := run_make_any (P := Yba.prog) 22 21 i2 _ 1 4 Yba.underlying22 hi hz0 hz1 hz2 .i64 .i64 (n + 1) (by omega) (by omega) W
            rw [Nat.mul_one] at this
            rw [hM2]; exact this
          have HMK2 := hide hmk2
          have HM2S := hide hM2s
          clear hM2 hM2s
          have HC := hide hC
          have HXR := hide hXr
          have HM := hide hm
          have HZ := hide hz
          clear hC hXr hm hz
          go_wp2
          clear hmk2
          go_loopg [22] (n + 1) (fun gk i wx => ∃ (k : Nat) (c : Array Value), k ≤ n + 1 ∧ gk = n + 1 - k ∧ i = .int .i64 k ∧ wx = (wr.alloc (.cells X 24)).alloc (.cells c 21) ∧ Ints c (n + 1))
          case atStart => exact ⟨0, M2, Nat.zero_le _, rfl, rfl, rfl, hI0⟩
          case round =>
            obtain ⟨k, c, hk, rfl, rfl, rfl, hIc⟩ := hrel
            by_cases hkl : k < n + 1
            · have hkz : (k : Int) < (n : Int) + 1 := by omega
              have hkz2 : (k : Int) < ((n + 1 : Nat) : Int) := by omega
              obtain ⟨y, hy⟩ := hIc.2 k hkl
              have hcsz := hIc.1
              by_cases hkl2 : k < ll
              · obtain rfl := hla (by omega)
                obtain ⟨z1, z2, z3⟩ := HZ.out k hkl2
                have z1' : wr.cell? ⟨lb, loff + k, none⟩ = some (.int .i32 (z k)) := keep (HC.out.below) z1
                have hlb : lb < w.heap.size := World.block_lt_of_cell? _ _ z1
                have hlb2 : lb < wr.heap.size := World.block_lt_of_cell? _ _ z1'
                have hkz3 : (k : Int) < (ll : Int) := by omega
                clear z1
                obtain ⟨y2, hy2⟩ := (hIc.set k (-1)).2 k hkl
                go_wp2
                go_roundg (n + 1 - (k + 1))
                case measure => omega
                case rel => exact ⟨k + 1, _, by omega, rfl, by go_num, rfl, hIc.set k _⟩
              · have hd : decide ((k : Int) < (ll : Int)) = false := by simp; omega
                go_wp2
                go_roundg (n + 1 - (k + 1))
                case measure => omega
                case rel => exact ⟨k + 1, _, by omega, rfl, by go_num, rfl, hIc.set k _⟩
            · have : k = n + 1 := by omega
              subst this
              have hcp2 : ∀ ty, (Builtin.copy_ #[22, 22] ty #[.slice (some ⟨wr.heap.size + 1 + 1, 0, none⟩) (n + 1) (n + 1), .slice (some ⟨wr.heap.size + 1, 0, none⟩) (n + 1) (n + 1)]).run Yba.prog (((wr.alloc (.cells X 24)).alloc (.cells c 21)).alloc (.cells M2 21)) = .ok (goInt ((n + 1 : Nat) : Int)) (((wr.alloc (.cells X 24)).alloc (.cells c 21)).alloc (.cells c 21)) := by
                intro ty
                have := run_copy_fresh (P := Yba.prog) ((wr.alloc (.cells X 24)).alloc (.cells c 21)) 22 22 ty 21 i2 (n + 1) ⟨wr.heap.size + 1, 0, none⟩ (n + 1) M2 21 c.toList Yba.underlying22 hi (by simp [hz1, hIc.1]) (by simp [HM2S.out, hIc.1]) (fun j u hj => ?_) (fun u hu => ?_)
                · simpa using this
                · rw [Addr.add_lit, Nat.zero_add, World.cell?_alloc_at _ _ _ _ (by simp)]
                  simpa using hj
                · obtain ⟨j, hj, rfl⟩ := List.getElem_of_mem hu
                  obtain ⟨y, hy⟩ := hIc.2 j (by have := hIc.1; simp at hj; omega)
                  rw [Array.getElem?_eq_getElem (by simpa using hj)] at hy
                  simp at hy
                  simp [hy]; rfl
              have hmk2 := HMK2.out
              obtain ⟨W3, hW3⟩ : ∃ W3, W3 = (((wr.alloc (.cells X 24)).alloc (.cells c 21)).alloc (.cells c 21)).alloc (.cells #[.map none, .map none, .int .u64 0, .int .i32 (-1), .int .i32 (-1), .slice (some ⟨wr.heap.size + 1, 0, none⟩) (n + 1) (n + 1)] 47) := ⟨_, rfl⟩
              have s3 : wr.heap.size + 1 + 1 + 1 + 1 = W3.heap.size := by rw [hW3]; simp
              have hsr := HCS.out
              have F1 : ∀ j, j < n + 1 → W3.cell? ⟨w.heap.size, j, none⟩ = some (.pointer (some ⟨w.heap.size + 1 + j, 0, none⟩)) := fun j hj => by
                rw [hW3, World.cell?_alloc_past _ _ _ (by simp; omega), World.cell?_alloc_past _ _ _ (by simp; omega), World.cell?_alloc_past _ _ _ (by simp; omega)]; exact HM.out.cls j hj
              have F2 : ∀ j, j < n + 1 → W3.cell? ⟨wr.heap.size, j, none⟩ = some (.pointer (some ⟨w.heap.size + 1 + j, 0, none⟩)) := fun j hj => by
                rw [hW3, World.cell?_alloc_past _ _ _ (by simp; omega), World.cell?_alloc_past _ _ _ (by simp; omega), World.cell?_alloc_past _ _ _ (by simp), World.cell?_alloc_at _ _ _ _ rfl]; exact HXR.out j hj
              have F3 : ∀ j, j < n + 1 → W3.cell? ⟨w.heap.size + 1 + j, 2, none⟩ = some (.int .i64 (j : Int)) := fun j hj => by
                rw [hW3, World.cell?_alloc_past _ _ _ (by simp; omega), World.cell?_alloc_past _ _ _ (by simp; omega), World.cell?_alloc_past _ _ _ (by simp; omega)]; exact HM.out.num j hj
              have F4 : ∀ j, j < n + 1 → ∃ y, W3.cell? ⟨wr.heap.size + 1, j, none⟩ = some (.int .i32 y) ∧ W3.cell? ⟨wr.heap.size + 1 + 1, j, none⟩ = some (.int .i32 y) := fun j hj => by
                obtain ⟨y, hy⟩ := hIc.2 j hj
                refine ⟨y, ?_, ?_⟩
                · rw [hW3, World.cell?_alloc_past _ _ _ (by simp), World.cell?_alloc_past _ _ _ (by simp), World.cell?_alloc_at _ _ _ _ (by simp)]; exact hy
                · rw [hW3, World.cell?_alloc_past _ _ _ (by simp), World.cell?_alloc_at _ _ _ _ (by simp)]; exact hy
              have F5 : W3.cell? ⟨wr.heap.size + 1 + 1 + 1, 3, none⟩ = some (.int .i32 (-1)) ∧ W3.cell? ⟨wr.heap.size + 1 + 1 + 1, 4, none⟩ = some (.int .i32 (-1)) ∧ W3.cell? ⟨wr.heap.size + 1 + 1 + 1, 5, none⟩ = some (.slice (some ⟨wr.heap.size + 1, 0, none⟩) (n + 1) (n + 1)) := by
                refine ⟨?_, ?_, ?_⟩ <;> (rw [hW3, World.cell?_alloc_at _ _ _ _ (by simp)]; rfl)
              have FB : Below w.heap.size w W3 := by
                rw [hW3]
                exact ((HM.out.below.alloc (by simp; omega) _).alloc (by simp; omega) _).alloc (by simp; omega) _
              have G1 := hide F1
              have G2 := hide F2
              have G3 := hide F3
              have G4 := hide F4
              have G5 := hide F5
              have GS := hide s3
              have GW := hide hW3
              clear F1 F2 F3 F4 F5 s3 hW3 hsr
              go_wp2_with fail
              rw [← GW.out, GS.out]
              clear GW hcp2 hmk2 HMK2 HM2S HM HXR HC HZ HCS hi hz0 hz1 hz2 hIc hI0
              obtain ⟨g5a, g5b, g5c⟩ := G5.out
              have hwl : w.heap.size < W3.heap.size := World.block_lt_of_cell? _ _ (G1.out 0 (by omega))
              have hIl : wr.heap.size + 1 + 1 + 1 < W3.heap.size := World.block_lt_of_cell? _ _ g5a
              revert G2 G4 g5a g5b g5c hIl
              generalize wr.heap.size + 1 + 1 + 1 = I
              generalize wr.heap.size + 1 + 1 = cpb
              generalize wr.heap.size + 1 = lkb
              generalize wr.heap.size = ob
              intro G2 G4 g5a g5b g5c hIl
              clear G5 GS
              have HS : Hid (∀ W', Below W3.heap.size W3 W' → Calls Yba.prog 6 #[.slice (some ⟨w.heap.size, 0, none⟩) (n + 1) (n + 1), .slice (some ⟨ob, 0, none⟩) (n + 1) (n + 1)] W' fun e w' => e = .returned (.bool true) ∧ ∃ k, w' = W'.drewN k) := by
                intro W' hb
                refine asame_true w.heap.size ob (n + 1) (n + 1) (n + 1) (fun j => ⟨w.heap.size + 1 + j, 0, none⟩) _ (by omega) (fun _ => rfl) (fun j hj => keep hb (G1.out j hj)) (fun j hj => keep hb (G2.out j hj)) (fun j hj => keep hb ?_)
                exact G3.out j hj
              obtain ⟨i3, hi3, _⟩ := info_parts Yba.info30
              have hpn := fun (a : Addr) (W : World) => run_neq_ptr_same (P := Yba.prog) (tp := 24) a Yba.underlying24 hi3 W
              obtain ⟨i4, hi4⟩ : ∃ i, Yba.prog.info? 47 = some i := Option.isSome_iff_exists.1 Yba.info47
              have hpn2 := fun (a : Addr) (W : World) => run_neq_ptr_same (P := Yba.prog) (tp := 35) a Yba.underlying35 hi4 W
              by_cases hpick : 0 ≤ nv ∧ (vv < 0 ∨ nv ≤ vv)
              · obtain ⟨x, rfl⟩ : ∃ x : Nat, nv = (x : Int) := ⟨nv.toNat, by omega⟩
                have hxn : x ≤ n := by omega
                obtain ⟨y, y1, y2⟩ := G4.out x (by omega)
                have o1 := G2.out x (by omega)
                have hob : ob < W3.heap.size := World.block_lt_of_cell? _ _ o1
                have hcpb : cpb < W3.heap.size := World.block_lt_of_cell? _ _ y2
                have hxz : (x : Int) < ((n + 1 : Nat) : Int) := by omega
                have hxz2 : (x : Int) < (n : Int) + 1 := by omega
                have hx0 : (0 : Int) ≤ (x : Int) := by omega
                have hor := hpick.2
                have HT := take_next w.heap.size I lkb (n + 1) x vv y (some ⟨w.heap.size + 1 + x, 0, none⟩) W3 (by omega) (by omega) (by omega) (G1.out x (by omega)) g5c y1
                clear hpick hb1 hb2 hb3
                refine HT.mono ?_
                rintro e w2 ⟨rfl, q, rfl⟩
                clear HT
                rcases hor with hv | hv
                · have hwl' := hwl
                  go_wp2
                  go_quiet (fail)
                  go_wp2
                  go_loopg [30] (n + 1) (fun gk i wy => ∃ j : Nat, j ≤ n + 1 ∧ gk = n + 1 - j ∧ i = .int .i64 j ∧ Below W3.heap.size W3 wy ∧ wy.cell? ⟨W3.heap.size, 0, none⟩ = some (.slice (some ⟨w.heap.size, 0, none⟩) (n + 1) (n + 1)))
                  case atStart => exact ⟨0, Nat.zero_le _, rfl, rfl, by repeat (first | exact Below.refl _ _ | apply below_drewN | (refine Below.alloc ?_ (by simp) _)), by rw [World.cell?_drewN, World.cell?_alloc_past _ _ _ (by simp), World.cell?_drewN, World.cell?_alloc_new]; rfl⟩
                  case round =>
                    obtain ⟨j, hj, rfl, rfl, hby, hcy⟩ := hrel
                    by_cases hjl : j < n + 1
                    · obtain ⟨y', ya, yb⟩ := G4.out j hjl
                      have d1 := keep hby ya
                      have d2 := keep hby yb
                      have d3 := keep hby g5c
                      have hjz : (j : Int) < ((n + 1 : Nat) : Int) := by omega
                      have hjz2 : (j : Int) < (n : Int) + 1 := by omega
                      clear ya yb g5a g5b g5c
                      go_wp2
                      go_quiet (fail)
                      go_wp2
                      go_roundg (n + 1 - (j + 1))
                      case measure => omega
                      case rel => exact ⟨j + 1, by omega, rfl, by go_num, below_drewN hby _, hcy⟩
                    · clear g5a g5b g5c
                      go_wp2_with fail
                      refine (HS.out _ hby).mono ?_
                      rintro e w4 ⟨rfl, k4, rfl⟩
                      go_wp2
                      go_ret
                      exact ⟨rfl, FB.trans ((below_drewN hby _).mono (by omega))⟩
                · have hv2 : decide (vv < 0) = false := by simp; omega
                  go_wp2
                  go_quiet (fail)
                  go_wp2
                  go_loopg [30] (n + 1) (fun gk i wy => ∃ j : Nat, j ≤ n + 1 ∧ gk = n + 1 - j ∧ i = .int .i64 j ∧ Below W3.heap.size W3 wy ∧ wy.cell? ⟨W3.heap.size, 0, none⟩ = some (.slice (some ⟨w.heap.size, 0, none⟩) (n + 1) (n + 1)))
                  case atStart => exact ⟨0, Nat.zero_le _, rfl, rfl, by repeat (first | exact Below.refl _ _ | apply below_drewN | (refine Below.alloc ?_ (by simp) _)), by rw [World.cell?_drewN, World.cell?_alloc_past _ _ _ (by simp), World.cell?_drewN, World.cell?_alloc_new]; rfl⟩
                  case round =>
                    obtain ⟨j, hj, rfl, rfl, hby, hcy⟩ := hrel
                    by_cases hjl : j < n + 1
                    · obtain ⟨y', ya, yb⟩ := G4.out j hjl
                      have d1 := keep hby ya
                      have d2 := keep hby yb
                      have d3 := keep hby g5c
                      have hjz : (j : Int) < ((n + 1 : Nat) : Int) := by omega
                      have hjz2 : (j : Int) < (n : Int) + 1 := by omega
                      clear ya yb g5a g5b g5c
                      go_wp2
                      go_quiet (fail)
                      go_wp2
                      go_roundg (n + 1 - (j + 1))
                      case measure => omega
                      case rel => exact ⟨j + 1, by omega, rfl, by go_num, below_drewN hby _, hcy⟩
                    · clear g5a g5b g5c
                      go_wp2_with fail
                      refine (HS.out _ hby).mono ?_
                      rintro e w4 ⟨rfl, k4, rfl⟩
                      go_wp2
                      go_ret
                      exact ⟨rfl, FB.trans ((below_drewN hby _).mono (by omega))⟩
              · obtain ⟨x, rfl⟩ : ∃ x : Nat, vv = (x : Int) := ⟨vv.toNat, by omega⟩
                have hxn : x ≤ n := by omega
                have hor : nv < 0 ∨ (0 ≤ nv ∧ (x : Int) < nv) := by omega
                obtain ⟨y, y1, y2⟩ := G4.out x (by omega)
                have o1 := G2.out x (by omega)
                have hob : ob < W3.heap.size := World.block_lt_of_cell? _ _ o1
                have hcpb : cpb < W3.heap.size := World.block_lt_of_cell? _ _ y2
                have hxz : (x : Int) < ((n + 1 : Nat) : Int) := by omega
                have hxz2 : (x : Int) < (n : Int) + 1 := by omega
                have hx0 : (0 : Int) ≤ (x : Int) := by omega
                have HT := take_vars w.heap.size I lkb (n + 1) x nv y (some ⟨w.heap.size + 1 + x, 0, none⟩) W3 (by omega) (by omega) hor (G1.out x (by omega)) g5c y1
                clear hpick hb1 hb2 hb3
                refine HT.mono ?_
                rintro e w2 ⟨rfl, q, rfl⟩
                clear HT
                rcases hor with hv | ⟨hv, hv3⟩
                · have hv2 : decide (0 ≤ nv) = false := by simp; omega
                  go_wp2
                  go_quiet (fail)
                  go_wp2
                  go_loopg [30] (n + 1) (fun gk i wy => ∃ j : Nat, j ≤ n + 1 ∧ gk = n + 1 - j ∧ i = .int .i64 j ∧ Below W3.heap.size W3 wy ∧ wy.cell? ⟨W3.heap.size, 0, none⟩ = some (.slice (some ⟨w.heap.size, 0, none⟩) (n + 1) (n + 1)))
                  case atStart => exact ⟨0, Nat.zero_le _, rfl, rfl, by repeat (first | exact Below.refl _ _ | apply below_drewN | (refine Below.alloc ?_ (by simp) _)), by rw [World.cell?_drewN, World.cell?_alloc_past _ _ _ (by simp), World.cell?_drewN, World.cell?_alloc_new]; rfl⟩
                  case round =>
                    obtain ⟨j, hj, rfl, rfl, hby, hcy⟩ := hrel
                    by_cases hjl : j < n + 1
                    · obtain ⟨y', ya, yb⟩ := G4.out j hjl
                      have d1 := keep hby ya
                      have d2 := keep hby yb
                      have d3 := keep hby g5c
                      have hjz : (j : Int) < ((n + 1 : Nat) : Int) := by omega
                      have hjz2 : (j : Int) < (n : Int) + 1 := by omega
                      clear ya yb g5a g5b g5c
                      go_wp2
                      go_quiet (fail)
                      go_wp2
                      go_roundg (n + 1 - (j + 1))
                      case measure => omega
                      case rel => exact ⟨j + 1, by omega, rfl, by go_num, below_drewN hby _, hcy⟩
                    · clear g5a g5b g5c
                      go_wp2_with fail
                      refine (HS.out _ hby).mono ?_
                      rintro e w4 ⟨rfl, k4, rfl⟩
                      go_wp2
                      go_ret
                      exact ⟨rfl, FB.trans ((below_drewN hby _).mono (by omega))⟩
                · have hv2 : decide ((x : Int) < 0) = false := by simp
                  have hv4 : decide (nv ≤ (x : Int)) = false := by simp; omega
                  go_wp2
                  go_quiet (fail)
                  go_wp2
                  go_loopg [30] (n + 1) (fun gk i wy => ∃ j : Nat, j ≤ n + 1 ∧ gk = n + 1 - j ∧ i = .int .i64 j ∧ Below W3.heap.size W3 wy ∧ wy.cell? ⟨W3.heap.size, 0, none⟩ = some (.slice (some ⟨w.heap.size, 0, none⟩) (n + 1) (n + 1)))
                  case atStart => exact ⟨0, Nat.zero_le _, rfl, rfl, by repeat (first | exact Below.refl _ _ | apply below_drewN | (refine Below.alloc ?_ (by simp) _)), by rw [World.cell?_drewN, World.cell?_alloc_past _ _ _ (by simp), World.cell?_drewN, World.cell?_alloc_new]; rfl⟩
                  case round =>
                    obtain ⟨j, hj, rfl, rfl, hby, hcy⟩ := hrel
                    by_cases hjl : j < n + 1
                    · obtain ⟨y', ya, yb⟩ := G4.out j hjl
                      have d1 := keep hby ya
                      have d2 := keep hby yb
                      have d3 := keep hby g5c
                      have hjz : (j : Int) < ((n + 1 : Nat) : Int) := by omega
                      have hjz2 : (j : Int) < (n : Int) + 1 := by omega
                      clear ya yb g5a g5b g5c
                      go_wp2
                      go_quiet (fail)
                      go_wp2
                      go_roundg (n + 1 - (j + 1))
                      case measure => omega
                      case rel => exact ⟨j + 1, by omega, rfl, by go_num, below_drewN hby _, hcy⟩
                    · clear g5a g5b g5c
                      go_wp2_with fail
                      refine (HS.out _ hby).mono ?_
                      rintro e w4 ⟨rfl, k4, rfl⟩
                      go_wp2
                      go_ret
                      exact ⟨rfl, FB.trans ((below_drewN hby _).mono (by omega))⟩
end Go.Proofs.Ybulkexpyo
