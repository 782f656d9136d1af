import Derived.Test.YbulkexpwyBuild
import Derived.Laws.Pointers
import Derived.BigGuardPart
namespace Go.Proofs.Ybulkexpwy
open Go.RowKit
set_option linter.unusedVariables false

theorem Yba.info5' : ∃ i, Yba.prog.info? 5 = some i := by obtain ⟨i, hi, _⟩ := info_parts Yba.info5; exact ⟨i, hi⟩

theorem law_long (f : ByteArray) (s : Int) (a : Option Addr) (n cap : Nat) (w : World) (hn : 1048576 < n) (hm : n ≤ 9223372036854775807) :
    Calls Yba.prog 4 #[.string f, .int .u8 s, .slice a n cap] w fun e w' => e = .returned (.bool true) ∧ Below w.heap.size w w' := by
  have h : (1048576 : Int) < (n : Int) := by omega
  go_enter Yba.func4, Yba.ntmps4
  go_wp2
  go_ret
  exact ⟨rfl, Below.refl _ _⟩

theorem law_of (f : ByteArray) (s : Int) (ao : Option Addr) (n cap : Nat) (w : World) (hn : n ≤ 1048576)
    (HB : Calls Yba.prog 9 #[.int .u8 s, .slice ao n cap] w fun e w' => Built w e w') :
    Calls Yba.prog 4 #[.string f, .int .u8 s, .slice ao n cap] w fun e w' => e = .returned (.bool true) ∧ Below w.heap.size w w' := by
  go_enter Yba.func4, Yba.ntmps4
  go_wp2_with fail
  refine HB.mono ?_
  rintro e w1 ⟨hb1, hcase⟩
  clear HB
  rcases hcase with rfl | ⟨g, k, c, Z, rfl, hgw, hkc, hk, hZ⟩
  · have q1 := fun W => run_neq_slice_nil_any (P := Yba.prog) W 47 5 none 0 0 0 0 Yba.underlying47
    have q2 := fun W => Lib.run_eql_slice_nil (P := Yba.prog) W 47 5 none 0 0 0 0 Yba.underlying47
    have HN := new_any f none 0 0 false w1 (fun S => pre_short none 0 0 (.slice none 0 0) _ (by omega) _ _ _)
    go_wp2_with (first | (go_at_call 10; refine HN.mono ?_; rintro e w' ⟨rfl, rfl⟩))
    go_quiet (fail)
    go_wp2_with (first | (go_at_call 11; refine (same_nil _).mono ?_; rintro e w' ⟨rfl, k, rfl⟩))
    go_ret
    exact ⟨rfl, hb1.trans ((below_drewN (((Below.refl _ _).alloc (Nat.le_refl _) _).alloc (by simp) _) _).mono hb1.size)⟩
  · have q1 := fun W => run_neq_slice_nil_any (P := Yba.prog) W 47 5 (some ⟨g, 0, none⟩) k c 0 0 Yba.underlying47
    have q2 := fun W => Lib.run_eql_slice_nil (P := Yba.prog) W 47 5 (some ⟨g, 0, none⟩) k c 0 0 Yba.underlying47
    obtain ⟨i0, hi, hz0, hz1, hz2⟩ := info_parts Yba.info5
    obtain ⟨M, hM⟩ : ∃ M, M = madeCells (Value.int .u8 0).cells (k * 1) := ⟨_, rfl⟩
    have hMs : M.size = k * 1 := by rw [hM, size_madeCells]
    have hmk : ∀ W, (Instr.makeSlice 47 (.int .i64 (k : Int)) (.int .i64 (k : Int))).run Yba.prog W = .ok (.slice (some ⟨W.heap.size, 0, none⟩) k k) (W.alloc (.cells M 5)) := by
      intro W
      rw [hM]; exact run_make_any (P := Yba.prog) 47 5 i0 _ 1 1 Yba.underlying47 hi hz0 hz1 hz2 .i64 .i64 k (by omega) (by omega) W
    obtain ⟨X, hX⟩ : ∃ X, X = ((List.range k).map fun i => Value.int .u8 (Z i)).toArray := ⟨_, rfl⟩
    have hcp : ∀ ty, (Builtin.copy_ #[47, 47] ty #[.slice (some ⟨w1.heap.size, 0, none⟩) k k, .slice (some ⟨g, 0, none⟩) k c]).run Yba.prog (w1.alloc (.cells M 5)) = .ok (goInt k) (w1.alloc (.cells X 5)) := by
      intro ty
      rw [hX]
      refine run_copy_fresh (P := Yba.prog) w1 47 47 ty 5 i0 k ⟨g, 0, none⟩ c M 5 ((List.range k).map fun i => Value.int .u8 (Z i)) Yba.underlying47 hi (by simp [hz1]) (by simp [hMs]) (fun j u hj => ?_) (fun u hu => ?_)
      · rw [Addr.add_lit]
        have hjk : j < k := by have := (List.getElem?_eq_some_iff.1 hj).1; simpa using this
        simp [hjk] at hj
        rw [Nat.zero_add, (hZ j hjk).1, hj]
      · simp only [List.mem_map] at hu
        obtain ⟨i, _, rfl⟩ := hu
        rfl
    have hXc : ∀ i, i < k → X[i]? = some (.int .u8 (Z i)) := fun i hi => by rw [hX]; simp [hi]
    clear hM hMs hX
    have hgl : ∀ i, i < k → g < w1.heap.size := fun i hi => World.block_lt_of_cell? _ _ (hZ i hi).1
    have hpn := fun (a : Addr) (W : World) => run_neq_ptr_same (P := Yba.prog) (tp := 53) a Yba.underlying53 hi W
    -- the three ways: too short, a mark, none
    obtain ⟨bo, HN⟩ : ∃ bo, (∀ S, Calls Yba.prog 15 #[.slice (some ⟨g, 0, none⟩) k c, .slice (some ⟨w1.heap.size + 1 + 1, 0, none⟩) 3 3] (((w1.alloc (.cells X 5)).alloc (.cells S 52)).alloc (.cells #[.int .u8 239, .int .u8 187, .int .u8 191] 5 (3, 4))) fun e w' => e = .returned (.bool bo) ∧ w' = ((w1.alloc (.cells X 5)).alloc (.cells S 52)).alloc (.cells #[.int .u8 239, .int .u8 187, .int .u8 191] 5 (3, 4))) ∧
        ((bo = false ∧ k < 3) ∨ (3 ≤ k ∧ bo = bomB (Z 0) (Z 1) (Z 2))) := by
      by_cases h3 : k < 3
      · exact ⟨false, fun S => pre_short _ k c (.slice none 0 0) _ h3 _ _ _, .inl ⟨rfl, h3⟩⟩
      · refine ⟨bomB (Z 0) (Z 1) (Z 2), fun S => pre_long g 0 k c _ 0 3 (Z 0) (Z 1) (Z 2) _ (by omega) hkc (hZ 0 (by omega)).2 (hZ 1 (by omega)).2 (hZ 2 (by omega)).2 (fun i hi => ?_) (fun i hi => ?_), .inr ⟨by omega, rfl⟩⟩
        · have hgl0 := hgl 0 (by omega)
          rw [World.cell?_alloc_past _ _ _ (by simp; omega), World.cell?_alloc_past _ _ _ (by simp; omega), World.cell?_alloc_past _ _ _ (by omega), Nat.zero_add, (hZ i (by omega)).1]
          have : i = 0 ∨ i = 1 ∨ i = 2 := by omega
          rcases this with rfl | rfl | rfl <;> rfl
        · rw [Joins.cell_alloc_mark_at _ _ _ _ _ _ (by simp), Nat.zero_add]
          have : i = 0 ∨ i = 1 ∨ i = 2 := by omega
          rcases this with rfl | rfl | rfl <;> rfl
    have HW := new_any f (some ⟨g, 0, none⟩) k c bo (w1.alloc (.cells X 5)) (by simpa using HN.1)
    have HS : Hid (∀ S q, Calls Yba.prog 11 #[.slice (some ⟨g, 0, none⟩) k c, .slice (some ⟨w1.heap.size, 0, none⟩) k k] ((((w1.alloc (.cells X 5)).alloc (.cells S 52)).alloc (.cells #[.int .u8 239, .int .u8 187, .int .u8 191] 5 (3, 4))).drewN q) fun e w' => e = .returned (.bool true) ∧ ∃ m, w' = ((((w1.alloc (.cells X 5)).alloc (.cells S 52)).alloc (.cells #[.int .u8 239, .int .u8 187, .int .u8 191] 5 (3, 4))).drewN q).drewN m) := by
      intro S q
      refine same_true g w1.heap.size k c k Z _ (by omega) (fun i hi => ?_) (fun i hi => ?_)
      · have hgl0 := hgl i hi
        rw [World.cell?_drewN, World.cell?_alloc_past _ _ _ (by simp; omega), World.cell?_alloc_past _ _ _ (by simp; omega), World.cell?_alloc_past _ _ _ (by omega)]
        exact (hZ i hi).1
      · rw [World.cell?_drewN, World.cell?_alloc_past _ _ _ (by simp; omega), World.cell?_alloc_past _ _ _ (by simp), World.cell?_alloc_at _ _ _ _ rfl]
        exact hXc i hi
    have HB2 : Hid (∀ S m, Below w.heap.size w ((((w1.alloc (.cells X 5)).alloc (.cells S 52)).alloc (.cells #[.int .u8 239, .int .u8 187, .int .u8 191] 5 (3, 4))).drewN m)) := fun S m =>
      hb1.trans ((below_drewN ((((Below.refl _ _).alloc (Nat.le_refl _) _).alloc (by simp) _).alloc (by simp; omega) _) m).mono hb1.size)
    have HW' := hide HW
    obtain ⟨_, hcase⟩ := HN
    clear hXc HW hi hz0 hz1 hz2
    rcases hcase with ⟨rfl, h3⟩ | ⟨h3, hbo⟩
    · have hd : decide ((3 : Int) ≤ (k : Int)) = false := by simp; omega
      by_cases hk0 : 0 < k
      · have hd0 : (0 : Int) < (k : Int) := by omega
        have hgl0 := hgl 0 hk0
        clear hZ hgl
        go_wp2_with (first | (go_at_call 10; refine HW'.out.mono ?_; rintro e w' ⟨rfl, rfl⟩))
        go_quiet (fail)
        go_wp2_with fail
        refine (HS.out _ _).mono ?_
        rintro e w' ⟨rfl, m, rfl⟩
        go_wp2
        go_ret
        exact ⟨rfl, HB2.out _ _⟩
      · have hd0 : Hid (decide ((0 : Int) < (k : Int)) = false) := by show _ = _; simp; omega
        clear hZ hgl hk0
        go_wp2_with (first | (go_at_call 10; refine HW'.out.mono ?_; rintro e w' ⟨rfl, rfl⟩))
        have hd1 : decide (0 < k) = false := by have := hd0.out; simp at this ⊢; omega
        go_quiet (fail)
        go_wp2_with fail
        refine (HS.out _ _).mono ?_
        rintro e w' ⟨rfl, m, rfl⟩
        go_wp2
        go_ret
        exact ⟨rfl, HB2.out _ _⟩
    · have hd : (3 : Int) ≤ (k : Int) := by omega
      have hd0 : 0 < k := by omega
      have hd1 : (1 : Int) < (k : Int) := by omega
      have hd2 : (2 : Int) < (k : Int) := by omega
      have hgl0 := hgl 0 (by omega)
      have z0 := (hZ 0 (by omega)).1
      have z1 := (hZ 1 (by omega)).1
      have z2 := (hZ 2 (by omega)).1
      clear hZ hgl
      revert z0 z1 z2 hbo
      generalize Z 0 = x0
      generalize Z 1 = x1
      generalize Z 2 = x2
      intro hbo z0 z1 z2
      by_cases e0 : x0 = 239
      · by_cases e1 : x1 = 187
        · by_cases e2 : x2 = 191
          · subst e0 e1 e2
            obtain rfl : bo = true := by rw [hbo]; rfl
            clear hbo
            go_wp2_with (first | (go_at_call 10; refine HW'.out.mono ?_; rintro e w' ⟨rfl, rfl⟩))
            go_quiet (fail)
            go_wp2_with fail
            refine (HS.out _ _).mono ?_
            rintro e w' ⟨rfl, m, rfl⟩
            go_wp2
            go_ret
            exact ⟨rfl, HB2.out _ _⟩
          · have t2 : (x2 == 191) = false := by simpa using e2
            subst e0 e1
            obtain rfl : bo = false := by rw [hbo]; simp [bomB, t2]
            clear hbo e2
            go_wp2_with (first | (go_at_call 10; refine HW'.out.mono ?_; rintro e w' ⟨rfl, rfl⟩))
            go_quiet (fail)
            go_wp2_with fail
            refine (HS.out _ _).mono ?_
            rintro e w' ⟨rfl, m, rfl⟩
            go_wp2
            go_ret
            exact ⟨rfl, HB2.out _ _⟩
        · have t1 : (x1 == 187) = false := by simpa using e1
          subst e0
          obtain rfl : bo = false := by rw [hbo]; simp [bomB, t1]
          clear hbo e1
          go_wp2_with (first | (go_at_call 10; refine HW'.out.mono ?_; rintro e w' ⟨rfl, rfl⟩))
          go_quiet (fail)
          go_wp2_with fail
          refine (HS.out _ _).mono ?_
          rintro e w' ⟨rfl, m, rfl⟩
          go_wp2
          go_ret
          exact ⟨rfl, HB2.out _ _⟩
      · have t0 : (x0 == 239) = false := by simpa using e0
        obtain rfl : bo = false := by rw [hbo]; simp [bomB, t0]
        clear hbo e0
        go_wp2_with (first | (go_at_call 10; refine HW'.out.mono ?_; rintro e w' ⟨rfl, rfl⟩))
        go_quiet (fail)
        go_wp2_with fail
        refine (HS.out _ _).mono ?_
        rintro e w' ⟨rfl, m, rfl⟩
        go_wp2
        go_ret
        exact ⟨rfl, HB2.out _ _⟩
end Go.Proofs.Ybulkexpwy
