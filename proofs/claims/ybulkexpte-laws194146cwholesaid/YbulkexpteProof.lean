import Derived.Test.YbulkexpteLaw
import Derived.OpenShut
import Derived.ShutString
import Derived.ChangeOld
import Derived.Deep.SlicePairs
namespace Go.Proofs.Ybulkexpte.lawS194146CWhole
open Go.ChangeShapes Go.WideShapes Go.ChangeAt Go.RowKit Go.Deep
open Go.ChangeMaps (open_string shut_string)
set_option linter.unusedVariables false

theorem own : ownKnob Yba.prog.godebug = none := by kernel_rfl
theorem laidOut : laidOutB Yba.prog = true := by kernel_rfl

theorem walk (s : Int) (a0 : Option Addr) (len cap : Nat) (F L : Nat → Int) (w : World) (ws : (Lit.int .u8 s).wf = true)
    (h : (a0 = none ∧ len = 0 ∧ cap = 0) ∨ ∃ a, a0 = some a ∧ len ≤ maxLen ∧ ∀ i, i < len → w.cell? (a.add (i * 2)) = some (.int .u16 (F i)) ∧ w.cell? (a.add (i * 2 + 1)) = some (.int .u16 (L i)) ∧ (Lit.int .u16 (F i)).wf = true ∧ (Lit.int .u16 (L i)).wf = true) :
    Calls Yba.prog 3 #[.int .u8 s, .slice a0 len cap] w fun e w' => e = .returned (.bool true) ∧ Below w.heap.size w w' := by
  have hs := bounds_u8 ws
  rcases h with ⟨rfl, rfl, rfl⟩ | ⟨a, rfl, hm, hc⟩
  · exact law_nil s w
  · by_cases h1 : 1048576 < len
    · exact law_long s (some a) len cap w h1 (by unfold maxLen at hm; omega)
    · by_cases h0 : len = 0
      · subst h0
        exact law_empty s a cap w
      · obtain ⟨b, off, spot⟩ := a
        have hspot : spot = none := by simpa [Addr.add] using World.cell?_spot (hc 0 (by omega)).1
        subst hspot
        refine law_some b off len cap s F L w (by omega) (by omega) hs.1 hs.2 (fun i hi => bounds_u16 (hc i hi).2.2.1) (fun i hi => bounds_u16 (hc i hi).2.2.2) (fun i hi => ?_) (fun i hi => ?_)
        · rw [← add_plain]; exact (hc i hi).1
        · rw [Nat.add_assoc, ← add_plain]; exact (hc i hi).2.1

theorem Yba.cells27 : Yba.prog.cellsOf 27 = 2 := by kernel_rfl
theorem Yba.cells25 : Yba.prog.cellsOf 25 = 1 := by kernel_rfl

set_option maxRecDepth 100000 in
theorem lifted (os : Os) (started : os.Started) (H : Type) (enc : TypeId × Value → H) :
    ReturnsInHanded {} Yba.checked os 3 .any (Rows.lawS194146CWholeSpec.pre6 enc Yba.prog Yba.f3 Rows.lawS194146CWholeRow.domain false) (Rows.lawS194146CWholeSpec.post enc Yba.prog Yba.f3 false true false false) := by
  refine returnsInHanded_of_change (C := Yba.checked) own started (by kernel_rfl) Yba.func3
    (ChangeSpec.witness6 (enc := enc) (C := Yba.checked) false ⟨#[], #[.int .u8 0, .slice none 0 0], []⟩ 8 (by kernel_rfl) (by kernel_rfl) (by kernel_rfl) (by kernel_rfl)) ?_
  intro W base args ds gs before hval0 hW hcnd _
  have hval : ∀ (j : Nat) t v, Yba.f3.params[j]? = some t → args[j]? = some v → Value.okWide Yba.prog W .any base t v := hval0
  have hW' := hW
  obtain ⟨p, q, hA0, hV, rfl, hfz, hnd⟩ := hW
  have hA : DataW.TrodAll enc Yba.prog W 0 (fun _ => true) true Yba.f3.params.toList args.toList ds p := hA0
  rw [Yba.params3] at hA hval
  obtain ⟨v0, vs0, d0, ds0, p0, q0, hargs, rfl, rfl, h0, r0⟩ := trodAll_cons hA
  obtain ⟨v1, vs1, d1, ds1, p1, q1, rfl, rfl, rfl, h1, r1⟩ := trodAll_cons r0
  obtain ⟨rfl, rfl, rfl⟩ := trodAll_nil r1
  obtain rfl : args = #[v0, v1] := by cases args; simp_all
  obtain ⟨rfl, rfl⟩ := trodVars_none hV
  obtain ⟨a0, rfl, rfl, rfl, w0⟩ := open_int Yba.underlying5 (hval 0 5 v0 rfl rfl) h0
  obtain ⟨a1, len1, cap1, rfl⟩ := okWide_slice Yba.underlying22 (hval 1 22 v1 rfl rfl)
  have k1 := h1
  have lt1 : ∀ x ∈ p1, x.block < W.heap.size := by obtain ⟨m, hm⟩ := k1; exact DataW.trod_lt m _ _ _ hm
  obtain ⟨F, L, w1⟩ : ∃ F L : Nat → Int, (a1 = none ∧ len1 = 0 ∧ cap1 = 0) ∨ ∃ a, a1 = some a ∧ len1 ≤ maxLen ∧ ∀ i, i < len1 → W.cell? (a.add (i * 2)) = some (.int .u16 (F i)) ∧ W.cell? (a.add (i * 2 + 1)) = some (.int .u16 (L i)) ∧ (Lit.int .u16 (F i)).wf = true ∧ (Lit.int .u16 (L i)).wf = true := by
    obtain ⟨fuel, hf⟩ := h1
    rcases open_slice_pairs Yba.underlying22 Yba.underlying27 Yba.cells27 rfl rfl Yba.cells25 Yba.cells25 hf with ⟨hcs, _⟩ | ⟨a, len, cap, m, n, V0, V1, D0, D1, P0, P1, hcs, _, hl, hm, hmm, _, hx⟩
    · simp [Value.cells] at hcs
      obtain ⟨rfl, rfl, rfl⟩ := hcs
      exact ⟨fun _ => 0, fun _ => 0, .inl ⟨rfl, rfl, rfl⟩⟩
    · simp [Value.cells] at hcs
      obtain ⟨rfl, rfl, rfl⟩ := hcs
      have hlm : len1 ≤ m := by rw [hmm]; split <;> omega
      have each : ∀ i, i < len1 → ∃ q : Int × Int, W.cell? (a.add (i * 2)) = some (.int .u16 q.1) ∧ W.cell? (a.add (i * 2 + 1)) = some (.int .u16 q.2) ∧ (Lit.int .u16 q.1).wf = true ∧ (Lit.int .u16 q.2).wf = true := by
        intro i hi
        obtain ⟨e0, e1, t0, t1⟩ := hx i (by omega)
        obtain ⟨x, ex, _, wx⟩ := DataW.trod_int Yba.underlying25 t0
        obtain ⟨y, ey, _, wy⟩ := DataW.trod_int Yba.underlying25 t1
        simp at ex ey
        rw [ex] at e0
        rw [ey] at e1
        exact ⟨(x, y), e0, e1, wx, wy⟩
      obtain ⟨q, hq⟩ := choose_lt each
      exact ⟨fun i => (q i).1, fun i => (q i).2, .inr ⟨_, rfl, by omega, hq⟩⟩
  clear hA0 hval0
  refine (walk a0 a1 len1 cap1 F L W w0 w1).mono fun e W' ⟨he, bel⟩ => ?_
  subst he
  exact ⟨_, rfl, _, _, _, [], _, [], hW', trodAll_mk1 (shut_bool Yba.underlying4 _), (trodAll_cons_mk (shut_int Yba.underlying5 w0) (trodAll_cons_mk (Below.trod laidOut (by kernel_rfl) (of_decide_eq_true (by kernel_rfl)) k1 bel lt1) trodAll_mk0)), rfl, bel.frame _, fun h => by cases h⟩

theorem over : Rows.lawS194146CWholeRow.holds Yba.pinned (OpenSpec.ofChange Rows.lawS194146CWholeSpec) :=
  OpenClaim.holds_of_wide 3 Yba.f3 rfl rfl rfl rfl rfl rfl rfl ⟨rfl, rfl, rfl, rfl, rfl⟩ rfl rfl rfl rfl rfl (by kernel_rfl) Yba.func3 (by kernel_rfl)
    (of_decide_eq_true (by kernel_rfl)) (by unfold Func.isWrapper; first | (rw [if_pos (by decide +kernel)]; kernel_rfl) | (rw [if_neg (by decide +kernel)]; exact ⟨rfl, rfl⟩))
    (fun os started H enc _ => lifted os started H enc)

/-- THE STATEMENT -/
theorem proved : Rows.LawS194146CWholeSaid := over
#print axioms proved
end Go.Proofs.Ybulkexpte.lawS194146CWhole
