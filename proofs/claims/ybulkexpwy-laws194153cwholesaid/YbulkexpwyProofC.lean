/-
  The proof of Rows.LawS194153CWholeSaid: the guide's shell, its hole filled by law_of, law_long (YbulkexpwyLawC).
-/
import Derived.Test.YbulkexpwyLawC
import Derived.WalkKit
import Derived.ProofKit
import Derived.OpenShut
import Derived.ShutString
import Derived.ChangeOld
import Derived.Below
namespace Go.Proofs.Ybulkexpwy.lawS194153CWhole
open Go.ChangeShapes Go.WideShapes Go.ChangeAt Go.RowKit
open Go.ChangeMaps (open_string shut_string)
set_option linter.unusedVariables false

theorem own : ownKnob Yba.prog.godebug = none := by kernel_rfl
theorem laidOut : laidOutB Yba.prog = true := by kernel_rfl

/-- WHAT THE WALK IS TOLD OF A SLICE OF INTEGERS THAT CAME IN: it is nil; or it leads to a row of 'cap' cells, the numbers 'zs' (the first 'len' are its elements, the rest its spare room), each fitting its kind. -/
def IsRow (k : IntKind) (w : World) (a : Option Addr) (len cap : Nat) (zs : List Int) : Prop :=
  (a = none ∧ len = 0 ∧ cap = 0 ∧ zs = []) ∨
  ∃ x, a = some x ∧ len ≤ cap ∧ cap ≤ maxLen ∧ zs.length = cap ∧ (∀ i, i < zs.length → w.cell? (x.add i) = some (.int k (zs.getD i 0))) ∧ ∀ n ∈ zs, (Lit.int k n).wf = true

/-! ### STEP 1: THE WALK: the Go text returns true, AND WRITES NOTHING THAT WAS THERE: 'Below w.heap.size w w'' (Derived/Below.lean: '.refl', '.alloc', '.drew', '.setCell' at a new block, '.trans'). Open each 'IsRow' by 'rcases' AHEAD of 'go_enter'; part every test ahead of the walk. -/
theorem walk (a0 : ByteArray) (a1 : Int) (a2 : Option Addr) (len2 cap2 : Nat) (z2 : List Int) (w : World) (w0 : a0.size ≤ maxLen) (w1 : (Lit.int .u8 a1).wf = true) (w2 : IsRow .u8 w a2 len2 cap2 z2) :
    Calls Yba.prog 4 #[.string a0, .int .u8 a1, .slice a2 len2 cap2] w fun e w' => e = .returned (.bool true) ∧ Below w.heap.size w w' := by
  have hs := bounds_u8 w1
  have hm3 : a1 % 3 = 0 ∨ a1 % 3 = 1 ∨ a1 % 3 = 2 := by omega
  rcases w2 with ⟨rfl, rfl, rfl, rfl⟩ | ⟨x, rfl, hl, hm, hz, hc, hwz⟩
  · refine law_of a0 a1 none 0 0 w (by omega) ?_
    rcases hm3 with h | h | h
    · exact build0_nil a1 w (by simp [h]) hs.1 hs.2
    · exact build_pre a1 [239, 187, 191] none [] 0 0 w (.inl ⟨by simp [h], by simp [h], rfl⟩) hs.1 hs.2 (by omega) rfl (fun _ => ⟨rfl, rfl⟩) (fun a ha => by cases ha) (by simp)
    · exact build_pre a1 [239, 187] none [] 0 0 w (.inr ⟨by simp [h], by simp [h], rfl⟩) hs.1 hs.2 (by omega) rfl (fun _ => ⟨rfl, rfl⟩) (fun a ha => by cases ha) (by simp)
  · by_cases h1 : 1048576 < len2
    · exact law_long a0 a1 (some x) len2 cap2 w h1 (by unfold maxLen at hm; omega)
    · have hlen : (z2.take len2).length = len2 := by rw [List.length_take]; omega
      have hcells : ∀ j u, (bcells (z2.take len2))[j]? = some u → w.cell? (x.add j) = some u := by
        intro j u hj
        have hjl : j < len2 := by have := (List.getElem?_eq_some_iff.1 hj).1; simp only [bcells, List.length_map, hlen] at this; exact this
        rw [hc j (by omega)]
        simp only [bcells, List.getElem?_map, List.getElem?_take, if_pos hjl, List.getElem?_eq_getElem (show j < z2.length by omega), Option.map_some, Option.some.injEq] at hj
        rw [← hj]
        simp [List.getD, show j < z2.length by omega]
      have hbd : ∀ z ∈ z2.take len2, 0 ≤ z ∧ z ≤ 255 := fun z hz => bounds_u8 (hwz z (List.mem_of_mem_take hz))
      refine law_of a0 a1 (some x) len2 cap2 w (by omega) ?_
      rcases hm3 with h | h | h
      · exact build0_some a1 x (z2.take len2) len2 cap2 w (by simp [h]) hs.1 hs.2 (by omega) hlen hcells hbd
      · exact build_pre a1 [239, 187, 191] (some x) (z2.take len2) len2 cap2 w (.inl ⟨by simp [h], by simp [h], rfl⟩) hs.1 hs.2 (by omega) hlen (fun h => by cases h) (fun a ha => by cases ha; exact hcells) hbd
      · exact build_pre a1 [239, 187] (some x) (z2.take len2) len2 cap2 w (.inr ⟨by simp [h], by simp [h], rfl⟩) hs.1 hs.2 (by omega) hlen (fun h => by cases h) (fun a ha => by cases ha; exact hcells) hbd

/-! ### THE ROW's STEP: WRITTEN OUT: LEAVE IT -/
set_option maxRecDepth 100000 in
theorem lifted (os : Os) (started : os.Started) (H : Type) (enc : TypeId × Value → H) :
    ReturnsInHanded {} Yba.checked os 4 .any (Rows.lawS194153CWholeSpec.pre6 enc Yba.prog Yba.f4 Rows.lawS194153CWholeRow.domain false) (Rows.lawS194153CWholeSpec.post enc Yba.prog Yba.f4 false true false false) := by
  refine returnsInHanded_of_change (C := Yba.checked) own started (by kernel_rfl) Yba.func4
    (ChangeSpec.witness6 (enc := enc) (C := Yba.checked) false ⟨#[], #[.string ByteArray.empty, .int .u8 0, .slice none 0 0], []⟩ 8 (by kernel_rfl) (by kernel_rfl) (by kernel_rfl) (by kernel_rfl)) ?_
  intro W base args ds gs before hval0 hW hcnd _
  have hval : ∀ (j : Nat) t v, Yba.f4.params[j]? = some t → args[j]? = some v → Value.okWide Yba.prog W .any base t v := hval0
  have hW' := hW
  obtain ⟨p, q, hA0, hV, rfl, hfz, hnd⟩ := hW
  have hA : DataW.TrodAll enc Yba.prog W 0 (fun _ => true) true Yba.f4.params.toList args.toList ds p := hA0
  rw [Yba.params4] at hA hval
  obtain ⟨v0, vs0, d0, ds0, p0, q0, hargs, rfl, rfl, h0, r0⟩ := trodAll_cons hA
  obtain ⟨v1, vs1, d1, ds1, p1, q1, rfl, rfl, rfl, h1, r1⟩ := trodAll_cons r0
  obtain ⟨v2, vs2, d2, ds2, p2, q2, rfl, rfl, rfl, h2, r2⟩ := trodAll_cons r1
  obtain ⟨rfl, rfl, rfl⟩ := trodAll_nil r2
  obtain rfl : args = #[v0, v1, v2] := by cases args; simp_all
  obtain ⟨rfl, rfl⟩ := trodVars_none hV
  obtain ⟨a0, rfl, rfl, rfl, w0⟩ := open_string Yba.underlying9 (hval 0 9 v0 rfl rfl) h0
  obtain ⟨a1, rfl, rfl, rfl, w1⟩ := open_int Yba.underlying5 (hval 1 5 v1 rfl rfl) h1
  obtain ⟨a2, len2, cap2, rfl⟩ := okWide_slice Yba.underlying47 (hval 2 47 v2 rfl rfl)
  have k2 := h2
  have lt2 : ∀ x ∈ p2, x.block < W.heap.size := by obtain ⟨m, hm⟩ := k2; exact DataW.trod_lt m _ _ _ hm
  obtain ⟨z2, w2⟩ : ∃ zs, IsRow .u8 W a2 len2 cap2 zs := by
    obtain ⟨fuel, hf⟩ := h2
    rcases open_ints Yba.underlying47 Yba.underlying5 (by kernel_rfl) hf with ⟨hcs, _⟩ | ⟨x, l, c, zs, hcs, _, hl, hm, hz, _, hcell, hwz⟩
    · simp [Value.cells] at hcs
      obtain ⟨rfl, rfl, rfl⟩ := hcs
      exact ⟨[], .inl ⟨rfl, rfl, rfl, rfl⟩⟩
    · simp [Value.cells] at hcs
      obtain ⟨rfl, rfl, rfl⟩ := hcs
      exact ⟨zs, .inr ⟨_, rfl, hl, hm, by simpa using hz, hcell, hwz⟩⟩
  clear hA0 hval0
  refine (walk a0 a1 a2 len2 cap2 z2 W w0 w1 w2).mono fun e W' ⟨he, bel⟩ => ?_
  subst he
  exact ⟨_, rfl, _, _, _, [], _, [], hW', trodAll_mk1 (shut_bool Yba.underlying4 _), (trodAll_cons_mk (shut_string Yba.underlying9 w0) (trodAll_cons_mk (shut_int Yba.underlying5 w1) (trodAll_cons_mk (Below.trod laidOut (by kernel_rfl) (of_decide_eq_true (by kernel_rfl)) k2 bel lt2) trodAll_mk0))), rfl, bel.frame _, fun h => by cases h⟩

theorem over : Rows.lawS194153CWholeRow.holds Yba.pinned (OpenSpec.ofChange Rows.lawS194153CWholeSpec) :=
  OpenClaim.holds_of_wide 4 Yba.f4 rfl rfl rfl rfl rfl rfl rfl ⟨rfl, rfl, rfl, rfl, rfl⟩ rfl rfl rfl rfl rfl (by kernel_rfl) Yba.func4 (by kernel_rfl)
    (of_decide_eq_true (by kernel_rfl)) (by unfold Func.isWrapper; first | (rw [if_pos (by decide +kernel)]; kernel_rfl) | (rw [if_neg (by decide +kernel)]; exact ⟨rfl, rfl⟩))
    (fun os started H enc _ => lifted os started H enc)

/-- ████ THE STATEMENT ████ -/
theorem proved : Rows.LawS194153CWholeSaid := over
#print axioms proved
end Go.Proofs.Ybulkexpwy.lawS194153CWhole
