import Derived.Test.YbulkexpwyScan
namespace Go.Proofs.Ybulkexpwy
open Go.RowKit
set_option linter.unusedVariables false

theorem Yba.info5 : (Yba.prog.info? 5).map (fun i => (i.zero, i.size, i.bytes)) = some (some (.int .u8 0), 1, 1) := by kernel_rfl

/-- What zzs194153cbuild hands back: nil, or a row of bytes of the call's own. -/
def Built (w : World) (e : Ending) (w' : World) : Prop :=
  Below w.heap.size w w' ∧ (e = .returned (.slice none 0 0) ∨ ∃ (g k c : Nat) (Z : Nat → Int), e = .returned (.slice (some ⟨g, 0, none⟩) k c) ∧ w.heap.size ≤ g ∧ k ≤ c ∧ k ≤ 1048579 ∧ ∀ i, i < k → w'.cell? ⟨g, i, none⟩ = some (.int .u8 (Z i)) ∧ 0 ≤ Z i ∧ Z i ≤ 255)

def bcells (zs : List Int) : List Value := zs.map (Value.int .u8)
theorem bcells_one (zs : List Int) : ∀ u ∈ bcells zs, u.oneCell' = true := ints_oneCell .u8 zs

theorem built_cells {w : World} {B g m : Nat} {L : List Int} (own : w.ownsRow B 5 1 (.slice (some ⟨g, 0, none⟩) m m) m (bcells L)) (hL : ∀ z ∈ L, 0 ≤ z ∧ z ≤ 255) :
    ∀ i, i < m → w.cell? ⟨g, i, none⟩ = some (.int .u8 (L.getD i 0)) ∧ 0 ≤ L.getD i 0 ∧ L.getD i 0 ≤ 255 := by
  intro i hi
  have hl : L.length = m := by have := own.1; simpa [bcells] using this
  refine ⟨?_, hL _ (by rw [List.getD_eq_getElem?_getD, List.getElem?_eq_getElem (by omega)]; exact List.getElem_mem _)⟩
  rw [own.cellAt i (by omega)]
  simp [bcells, List.getD, show i < L.length by omega]

theorem build0_nil (s : Int) (w : World) (hs : (s % 3 == 0) = true) (h0 : 0 ≤ s) (h1 : s ≤ 255) :
    Calls Yba.prog 9 #[.int .u8 s, .slice none 0 0] w fun e w' => Built w e w' := by
  have q1 := fun W => Lib.run_eql_slice_nil (P := Yba.prog) W 47 5 none 0 0 0 0 Yba.underlying47
  go_enter Yba.func9, Yba.ntmps9
  go_wp2
  go_ret
  exact ⟨Below.refl _ _, .inl rfl⟩

theorem build0_some (s : Int) (a : Addr) (zs : List Int) (n cap : Nat) (w : World) (hs : (s % 3 == 0) = true) (h0 : 0 ≤ s) (h1 : s ≤ 255) (hn : n ≤ 1048576) (hl : zs.length = n)
    (hc : ∀ j u, (bcells zs)[j]? = some u → w.cell? (a.add j) = some u) (hz : ∀ z ∈ zs, 0 ≤ z ∧ z ≤ 255) :
    Calls Yba.prog 9 #[.int .u8 s, .slice (some a) n cap] w fun e w' => Built w e w' := by
  have q1 := fun W => Lib.run_eql_slice_nil (P := Yba.prog) W 47 5 (some a) n cap 0 0 Yba.underlying47
  obtain ⟨i0, hi, hz0, hz1, hz2⟩ := info_parts Yba.info5
  obtain ⟨M, hM⟩ : ∃ M, M = madeCells (Value.int .u8 0).cells (n * 1) := ⟨_, rfl⟩
  have hMs : M.size = n * 1 := by rw [hM, size_madeCells]
  have hmk : ∀ W, (Instr.makeSlice 47 (.int .i64 (n : Int)) (.int .i64 (n : Int))).run Yba.prog W = .ok (.slice (some ⟨W.heap.size, 0, none⟩) n n) (W.alloc (.cells M 5)) := by
    intro W
    rw [hM]; exact run_make_any (P := Yba.prog) 47 5 i0 _ 1 1 Yba.underlying47 hi hz0 hz1 hz2 .i64 .i64 n (by omega) (by omega) W
  obtain ⟨X, hX⟩ : ∃ X, X = (bcells zs).toArray := ⟨_, rfl⟩
  have hcp : ∀ ty, (Builtin.copy_ #[47, 47] ty #[.slice (some ⟨w.heap.size, 0, none⟩) n n, .slice (some a) n cap]).run Yba.prog (w.alloc (.cells M 5)) = .ok (goInt n) (w.alloc (.cells X 5)) := by
    intro ty
    rw [hX]
    exact run_copy_fresh (P := Yba.prog) w 47 47 ty 5 i0 n a cap M 5 (bcells zs) Yba.underlying47 hi (by simp [bcells, hl, hz1]) (by simp [bcells, hl, hMs]) hc (bcells_one zs)
  have HX : Hid (X = (bcells zs).toArray) := hX
  clear hi hz0 hz1 hz2 hM hMs hX hc
  go_enter Yba.func9, Yba.ntmps9
  go_wp2
  go_ret
  refine ⟨(Below.refl _ _).alloc (Nat.le_refl _) _, .inr ⟨w.heap.size, n, n, fun i => zs.getD i 0, rfl, Nat.le_refl _, Nat.le_refl _, by omega, fun i hi => ?_⟩⟩
  have hm := hz (zs.getD i 0) (by rw [List.getD_eq_getElem?_getD, List.getElem?_eq_getElem (by omega)]; exact List.getElem_mem _)
  refine ⟨?_, hm⟩
  rw [World.cell?_alloc_new, HX.out]
  simp [bcells, List.getD, show i < zs.length by omega]

theorem build_pre (s : Int) (pre : List Int) (ao : Option Addr) (zs : List Int) (n cap : Nat) (w : World) (hs : ((s % 3 == 0) = false ∧ (s % 3 == 1) = true ∧ pre = [239, 187, 191]) ∨ ((s % 3 == 0) = false ∧ (s % 3 == 1) = false ∧ pre = [239, 187])) (h0 : 0 ≤ s) (h1 : s ≤ 255) (hn : n ≤ 1048576) (hl : zs.length = n)
    (hao : ao = none → n = 0 ∧ cap = 0) (hc : ∀ a, ao = some a → ∀ j u, (bcells zs)[j]? = some u → w.cell? (a.add j) = some u) (hz : ∀ z ∈ zs, 0 ≤ z ∧ z ≤ 255) :
    Calls Yba.prog 9 #[.int .u8 s, .slice ao n cap] w fun e w' => Built w e w' := by
  obtain ⟨i0, hi, hz0, hz1, hz2⟩ := info_parts Yba.info5
  rcases hs with ⟨hs0, hs1, rfl⟩ | ⟨hs0, hs1, rfl⟩
  · go_enter Yba.func9, Yba.ntmps9
    go_wp2_with (first
      | (at_make; refine wpList_make_own _ rfl _ _ 47 rfl (w.heap.size + 1) 5 i0 (.int .u8 0) 1 Yba.underlying47 hi hz0 hz1 _ _ _ (3 + n) rfl rfl (by omega) ?m1 ?m2 ?m3 ?_))
    case m1 => rw [hz2]; omega
    case m2 => unfold maxLen; omega
    case m3 => simp
    intro w1 own1 hg1
    have pc : ∀ j u, [Value.int .u8 239, Value.int .u8 187, Value.int .u8 191][j]? = some u → w1.cell? ((⟨w.heap.size, 0, none⟩ : Addr).add j) = some u := by
      intro j u hj
      rw [Addr.add_lit]
      refine hg1.cell ?_ (by simp)
      rw [World.cell?_alloc_new]
      simpa using hj
    have hb1 : Below w.heap.size w w1 := ((Below.refl _ _).alloc (Nat.le_refl _) _).grown hg1 (by simp) (by simp)
    clear hg1
    go_wp2_with (first
      | (at_builtin; refine wpList_append_fits _ rfl _ _ 47 rfl (w.heap.size + 1) 5 i0 1 Yba.underlying47 hi hz1 (w.heap.size + 1) 0 (3 + n) [] rfl own1 ⟨w.heap.size, 0, none⟩ 3 3 [Value.int .u8 239, Value.int .u8 187, Value.int .u8 191] rfl rfl pc ?m4 ?m5 ?_))
    case m4 => intro u hu; simp at hu; rcases hu with rfl | rfl | rfl <;> rfl
    case m5 => omega
    intro w2 own2 hg2
    try simp only [List.nil_append, Nat.zero_add] at own2
    have hb2 : Below w.heap.size w w2 := hb1.grown hg2 (by have := hb1.size; omega) (fun q hq => by simp at hq; omega)
    have hc2 : ∀ a, ao = some a → ∀ j u, (bcells zs)[j]? = some u → w2.cell? (a.add j) = some u := fun a ha j u hj => keep hb2 (hc a ha j u hj)
    clear hg2 own1 pc hc
    go_wp2_with (first
      | (at_builtin; refine wpList_append_fits_any _ rfl _ _ 47 rfl (w.heap.size + 1) 5 i0 1 Yba.underlying47 hi hz1 (w.heap.size + 1) 3 (3 + n) _ rfl own2 ao n cap (bcells zs) rfl ?m6 hao hc2 (bcells_one zs) ?m7 ?_))
    case m6 => simp [bcells, hl]
    case m7 => omega
    intro w3 own3 hg3
    have hb3 : Below w.heap.size w w3 := hb2.grown hg3 (by have := hb2.size; omega) (fun q hq => by simp at hq; omega)
    clear hg3 own2 hc2
    go_wp2
    go_ret
    refine ⟨hb3, .inr ⟨w.heap.size + 1, 3 + n, 3 + n, fun i => ([(239 : Int), 187, 191] ++ zs).getD i 0, rfl, by omega, Nat.le_refl _, by omega, built_cells (L := [(239 : Int), 187, 191] ++ zs) own3 (fun z hm => ?_)⟩⟩
    simp only [List.mem_append, List.mem_cons, List.not_mem_nil, or_false] at hm
    rcases hm with hm | hm
    · omega
    · exact hz _ hm
  · go_enter Yba.func9, Yba.ntmps9
    go_wp2_with (first
      | (at_make; refine wpList_make_own _ rfl _ _ 47 rfl (w.heap.size + 1) 5 i0 (.int .u8 0) 1 Yba.underlying47 hi hz0 hz1 _ _ _ (2 + n) rfl rfl (by omega) ?m1 ?m2 ?m3 ?_))
    case m1 => rw [hz2]; omega
    case m2 => unfold maxLen; omega
    case m3 => simp
    intro w1 own1 hg1
    have pc : ∀ j u, [Value.int .u8 239, Value.int .u8 187][j]? = some u → w1.cell? ((⟨w.heap.size, 0, none⟩ : Addr).add j) = some u := by
      intro j u hj
      rw [Addr.add_lit]
      refine hg1.cell ?_ (by simp)
      rw [World.cell?_alloc_new]
      simpa using hj
    have hb1 : Below w.heap.size w w1 := ((Below.refl _ _).alloc (Nat.le_refl _) _).grown hg1 (by simp) (by simp)
    clear hg1
    go_wp2_with (first
      | (at_builtin; refine wpList_append_fits _ rfl _ _ 47 rfl (w.heap.size + 1) 5 i0 1 Yba.underlying47 hi hz1 (w.heap.size + 1) 0 (2 + n) [] rfl own1 ⟨w.heap.size, 0, none⟩ 2 2 [Value.int .u8 239, Value.int .u8 187] rfl rfl pc ?m4 ?m5 ?_))
    case m4 => intro u hu; simp at hu; rcases hu with rfl | rfl <;> rfl
    case m5 => omega
    intro w2 own2 hg2
    try simp only [List.nil_append, Nat.zero_add] at own2
    have hb2 : Below w.heap.size w w2 := hb1.grown hg2 (by have := hb1.size; omega) (fun q hq => by simp at hq; omega)
    have hc2 : ∀ a, ao = some a → ∀ j u, (bcells zs)[j]? = some u → w2.cell? (a.add j) = some u := fun a ha j u hj => keep hb2 (hc a ha j u hj)
    clear hg2 own1 pc hc
    go_wp2_with (first
      | (at_builtin; refine wpList_append_fits_any _ rfl _ _ 47 rfl (w.heap.size + 1) 5 i0 1 Yba.underlying47 hi hz1 (w.heap.size + 1) 2 (2 + n) _ rfl own2 ao n cap (bcells zs) rfl ?m6 hao hc2 (bcells_one zs) ?m7 ?_))
    case m6 => simp [bcells, hl]
    case m7 => omega
    intro w3 own3 hg3
    have hb3 : Below w.heap.size w w3 := hb2.grown hg3 (by have := hb2.size; omega) (fun q hq => by simp at hq; omega)
    clear hg3 own2 hc2
    go_wp2
    go_ret
    refine ⟨hb3, .inr ⟨w.heap.size + 1, 2 + n, 2 + n, fun i => ([(239 : Int), 187] ++ zs).getD i 0, rfl, by omega, Nat.le_refl _, by omega, built_cells (L := [(239 : Int), 187] ++ zs) own3 (fun z hm => ?_)⟩⟩
    simp only [List.mem_append, List.mem_cons, List.not_mem_nil, or_false] at hm
    rcases hm with hm | hm
    · omega
    · exact hz _ hm
end Go.Proofs.Ybulkexpwy
