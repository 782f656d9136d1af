import Derived.Test.YbulkexpyoLawC
import Derived.OpenShut
import Derived.ShutString
import Derived.ChangeOld
import Derived.Deep.SlicePairs
namespace Go.Proofs.Ybulkexpyo.lawS194156CWhole
open Go.ChangeShapes Go.WideShapes Go.ChangeAt Go.RowKit Go.Deep
open Go.ChangeMaps (open_string shut_string)
set_option linter.unusedVariables false

theorem own : ownKnob Yba.prog.godebug = none := by kernel_rfl
theorem laidOut : laidOutB Yba.prog = true := by kernel_rfl

/-- The plain arithmetic: c = (hi - lo) / s. -/
theorem arith (lo hi s : Int) (hs : 2 ≤ s) (h : lo ≤ hi) (hlo : -2147483648 ≤ lo ∧ lo ≤ 2147483647) (hhi : -2147483648 ≤ hi ∧ hi ≤ 2147483647) : 0 ≤ (hi - lo) / s ∧ (hi - lo) / s ≤ 4294967296 ∧ 0 ≤ (hi - lo) / s * s ∧ (hi - lo) / s * s ≤ hi - lo ∧ hi - lo < ((hi - lo) / s + 1) * s := by
  have h0 : 0 ≤ (hi - lo) / s := Int.ediv_nonneg (by omega) (by omega)
  have h1 : (hi - lo) / s * s ≤ hi - lo := Int.ediv_mul_le _ (by omega)
  have h2 : hi - lo < ((hi - lo) / s + 1) * s := Int.lt_ediv_add_one_mul_self _ (by omega)
  have h3 : 0 ≤ (hi - lo) / s * s := Int.mul_nonneg h0 (by omega)
  have h4 : (hi - lo) / s * 1 ≤ (hi - lo) / s * s := Int.mul_le_mul_of_nonneg_left (by omega) h0
  refine ⟨h0, by omega, h3, h1, h2⟩

theorem walk (a0 : Option Addr) (len cap : Nat) (F L : Nat → Int) (lo hi s : Int) (w : World) (wlo : (Lit.int .i32 lo).wf = true) (whi : (Lit.int .i32 hi).wf = true) (ws : (Lit.int .i32 s).wf = true)
    (h : (a0 = none ∧ len = 0 ∧ cap = 0) ∨ ∃ a, a0 = some a ∧ len ≤ maxLen ∧ ∀ i, i < len → w.cell? (a.add (i * 2)) = some (.int .i32 (F i)) ∧ w.cell? (a.add (i * 2 + 1)) = some (.int .i32 (L i))) :
    Calls Yba.prog 4 #[.slice a0 len cap, .int .i32 lo, .int .i32 hi, .int .i32 s] w fun e w' => e = .returned (.bool true) ∧ Below w.heap.size w w' := by
  have blo := bounds_i32 wlo
  have bhi := bounds_i32 whi
  have bs := bounds_i32 ws
  by_cases hlong : 1048576 < len
  · refine longC a0 len cap lo hi s w hlong ?_
    rcases h with ⟨_, h, _⟩ | ⟨_, _, h, _⟩
    · omega
    · unfold maxLen at h; omega
  obtain ⟨b, off, hao, h1, h2⟩ : ∃ b off, (0 < len → a0 = some ⟨b, off, none⟩) ∧ (∀ i, i < len → w.cell? ⟨b, off + i * 2, none⟩ = some (.int .i32 (F i))) ∧ (∀ i, i < len → w.cell? ⟨b, off + i * 2 + 1, none⟩ = some (.int .i32 (L i))) := by
    rcases h with ⟨_, h, _⟩ | ⟨a, rfl, hm, hc⟩
    · exact ⟨0, 0, fun h' => by omega, fun i hi => by omega, fun i hi => by omega⟩
    · by_cases h0 : len = 0
      · exact ⟨0, 0, fun h' => by omega, fun i hi => by omega, fun i hi => by omega⟩
      · obtain ⟨b, off, spot⟩ := a
        have hspot : spot = none := by simpa [Addr.add] using World.cell?_spot (hc 0 (by omega)).1
        subst hspot
        refine ⟨b, off, fun _ => rfl, fun i hi => ?_, fun i hi => ?_⟩
        · rw [← add_plain]; exact (hc i hi).1
        · rw [Nat.add_assoc, ← add_plain]; exact (hc i hi).2
  by_cases hs1 : s = 1
  · subst hs1
    exact mainC a0 b off len cap 0 1 F L lo hi 1 [.int .i32 lo, .int .i32 hi] w (by omega) (by omega) hao h1 h2 blo bhi bs (.inl ⟨rfl, rfl⟩) (fun W g olds hl hc => strided_one g len lo hi olds W (by omega) hl hc) (.inl ⟨rfl, rfl, rfl⟩)
  have hne : (s != 1) = true := by simpa using hs1
  have heq : (s == 1) = false := by simpa using hs1
  by_cases hle : hi < lo
  · refine mainC a0 b off len cap 0 0 F L lo hi s (dbl (fun q => lo + (q : Int) * s) 0) w (by omega) (by omega) hao h1 h2 blo bhi bs (.inr (.inl ⟨hne, hle, rfl⟩)) (fun W g olds hl hc => ?_) (.inr ⟨heq, rfl, fun q => lo + (q : Int) * s, rfl, fun q hq => by omega⟩)
    exact strided_loop g len 0 lo hi s (fun q => lo + (q : Int) * s) olds W (by omega) (by omega) hl hc heq (by simp) (fun q hq => by omega) (by simpa using hle)
  by_cases hlow : s < 1
  · exact outC a0 len cap lo hi s w (by omega) hne (by omega) hlow
  obtain ⟨c0, c1, p0, p1, p2⟩ := arith lo hi s (by omega) (by omega) blo bhi
  obtain ⟨c, hc⟩ : ∃ c, (hi - lo) / s = c := ⟨_, rfl⟩
  obtain ⟨p, hp⟩ : ∃ p, c * s = p := ⟨_, rfl⟩
  rw [hc] at c0 c1 p0 p1 p2
  have p2' : hi - lo < p + s := by rw [Int.add_mul, Int.one_mul, hp] at p2; exact p2
  rw [hp] at p0 p1
  by_cases hlate : 2147483647 < lo + p + s ∨ 1048576 < c + 1
  · exact lateC a0 len cap lo hi s c p w (by omega) blo bhi bs.2 hne (by omega) (by omega) hc c0 c1 hp p0 (by omega) hlate
  have hq : ∀ q : Nat, (q : Int) ≤ c → 0 ≤ (q : Int) * s ∧ (q : Int) * s ≤ p := fun q hq => by
    refine ⟨Int.mul_nonneg (by omega) (by omega), ?_⟩
    rw [← hp]; exact Int.mul_le_mul_of_nonneg_right hq (by omega)
  have hsucc : ∀ q : Nat, ((q + 1 : Nat) : Int) * s = (q : Int) * s + s := fun q => by rw [Int.natCast_add, Int.add_mul]; simp
  refine mainC a0 b off len cap (c.toNat + 1) (c.toNat + 1) F L lo hi s (dbl (fun q => lo + (q : Int) * s) (c.toNat + 1)) w (by omega) (by omega) hao h1 h2 blo bhi bs
    (.inr (.inr ⟨hne, by omega, by omega, c, p, hc, c0, by omega, hp, p0, by omega, by omega⟩)) (fun W g olds hl hc => ?_) (.inr ⟨heq, rfl, fun q => lo + (q : Int) * s, rfl, fun q hq' => ?_⟩)
  · refine strided_loop g len (c.toNat + 1) lo hi s (fun q => lo + (q : Int) * s) olds W (by omega) (by omega) hl hc heq (by simp) (fun q hq' => ?_) ?_
    · have := hq q (by omega)
      refine ⟨by omega, ?_, by omega, by omega⟩
      show lo + ((q + 1 : Nat) : Int) * s = lo + (q : Int) * s + s
      rw [hsucc]; omega
    · show hi < lo + ((c.toNat + 1 : Nat) : Int) * s
      rw [hsucc, show (c.toNat : Int) = c by omega, hp]; omega
  · have := hq q (by omega)
    exact ⟨rfl, show -2147483648 ≤ lo + (q : Int) * s by omega, show lo + (q : Int) * s ≤ 2147483647 by omega⟩

theorem Yba.cells52 : Yba.prog.cellsOf 52 = 2 := by kernel_rfl
theorem Yba.cells21 : Yba.prog.cellsOf 21 = 1 := by kernel_rfl

set_option maxRecDepth 100000 in
theorem lifted (os : Os) (started : os.Started) (H : Type) (enc : TypeId × Value → H) :
    ReturnsInHanded {} Yba.checked os 4 .any (Rows.lawS194156CWholeSpec.pre6 enc Yba.prog Yba.f4 Rows.lawS194156CWholeRow.domain false) (Rows.lawS194156CWholeSpec.post enc Yba.prog Yba.f4 false true false false) := by
  refine returnsInHanded_of_change (C := Yba.checked) own started (by kernel_rfl) Yba.func4
    (ChangeSpec.witness6 (enc := enc) (C := Yba.checked) false ⟨#[], #[.slice none 0 0, .int .i32 0, .int .i32 0, .int .i32 0], []⟩ 8 (by kernel_rfl) (by kernel_rfl) (by kernel_rfl) (by kernel_rfl)) ?_
  intro W base args ds gs before hval0 hW hcnd _
  have hval : ∀ (j : Nat) t v, Yba.f4.params[j]? = some t → args[j]? = some v → Value.okWide Yba.prog W .any base t v := hval0
  have hW' := hW
  obtain ⟨p, q, hA0, hV, rfl, hfz, hnd⟩ := hW
  have hA : DataW.TrodAll enc Yba.prog W 0 (fun _ => true) true Yba.f4.params.toList args.toList ds p := hA0
  rw [Yba.params4] at hA hval
  obtain ⟨v0, vs0, d0, ds0, p0, q0, hargs, rfl, rfl, h0, r0⟩ := trodAll_cons hA
  obtain ⟨v1, vs1, d1, ds1, p1, q1, rfl, rfl, rfl, h1, r1⟩ := trodAll_cons r0
  obtain ⟨v2, vs2, d2, ds2, p2, q2, rfl, rfl, rfl, h2, r2⟩ := trodAll_cons r1
  obtain ⟨v3, vs3, d3, ds3, p3, q3, rfl, rfl, rfl, h3, r3⟩ := trodAll_cons r2
  obtain ⟨rfl, rfl, rfl⟩ := trodAll_nil r3
  obtain rfl : args = #[v0, v1, v2, v3] := by cases args; simp_all
  obtain ⟨rfl, rfl⟩ := trodVars_none hV
  obtain ⟨a0, len0, cap0, rfl⟩ := okWide_slice Yba.underlying49 (hval 0 49 v0 rfl rfl)
  have k0 := h0
  have lt0 : ∀ x ∈ p0, x.block < W.heap.size := by obtain ⟨m, hm⟩ := k0; exact DataW.trod_lt m _ _ _ hm
  obtain ⟨a1, rfl, rfl, rfl, w1⟩ := open_int Yba.underlying21 (hval 1 21 v1 rfl rfl) h1
  obtain ⟨a2, rfl, rfl, rfl, w2⟩ := open_int Yba.underlying21 (hval 2 21 v2 rfl rfl) h2
  obtain ⟨a3, rfl, rfl, rfl, w3⟩ := open_int Yba.underlying21 (hval 3 21 v3 rfl rfl) h3
  obtain ⟨F, L, w0⟩ : ∃ F L : Nat → Int, (a0 = none ∧ len0 = 0 ∧ cap0 = 0) ∨ ∃ a, a0 = some a ∧ len0 ≤ maxLen ∧ ∀ i, i < len0 → W.cell? (a.add (i * 2)) = some (.int .i32 (F i)) ∧ W.cell? (a.add (i * 2 + 1)) = some (.int .i32 (L i)) := by
    obtain ⟨fuel, hf⟩ := h0
    rcases open_slice_pairs Yba.underlying49 Yba.underlying52 Yba.cells52 rfl rfl Yba.cells21 Yba.cells21 hf with ⟨hcs, _⟩ | ⟨a, len, cap, m, n, V0, V1, D0, D1, P0, P1, hcs, _, hl, hm, hmm, _, hx⟩
    · simp [Value.cells] at hcs
      obtain ⟨rfl, rfl, rfl⟩ := hcs
      exact ⟨fun _ => 0, fun _ => 0, .inl ⟨rfl, rfl, rfl⟩⟩
    · simp [Value.cells] at hcs
      obtain ⟨rfl, rfl, rfl⟩ := hcs
      have hlm : len0 ≤ m := by rw [hmm]; split <;> omega
      have each : ∀ i, i < len0 → ∃ q : Int × Int, W.cell? (a.add (i * 2)) = some (.int .i32 q.1) ∧ W.cell? (a.add (i * 2 + 1)) = some (.int .i32 q.2) := by
        intro i hi
        obtain ⟨e0, e1, t0, t1⟩ := hx i (by omega)
        obtain ⟨x, ex, _, wx⟩ := DataW.trod_int Yba.underlying21 t0
        obtain ⟨y, ey, _, wy⟩ := DataW.trod_int Yba.underlying21 t1
        simp at ex ey
        rw [ex] at e0
        rw [ey] at e1
        exact ⟨(x, y), e0, e1⟩
      obtain ⟨q, hq⟩ := choose_lt each
      exact ⟨fun i => (q i).1, fun i => (q i).2, .inr ⟨_, rfl, by omega, hq⟩⟩
  clear hA0 hval0
  refine (walk a0 len0 cap0 F L a1 a2 a3 W w1 w2 w3 w0).mono fun e W' ⟨he, bel⟩ => ?_
  subst he
  exact ⟨_, rfl, _, _, _, [], _, [], hW', trodAll_mk1 (shut_bool Yba.underlying4 _), (trodAll_cons_mk (Below.trod laidOut (by kernel_rfl) (of_decide_eq_true (by kernel_rfl)) k0 bel lt0) (trodAll_cons_mk (shut_int Yba.underlying21 w1) (trodAll_cons_mk (shut_int Yba.underlying21 w2) (trodAll_cons_mk (shut_int Yba.underlying21 w3) trodAll_mk0)))), rfl, bel.frame _, fun h => by cases h⟩

theorem over : Rows.lawS194156CWholeRow.holds Yba.pinned (OpenSpec.ofChange Rows.lawS194156CWholeSpec) :=
  OpenClaim.holds_of_wide 4 Yba.f4 rfl rfl rfl rfl rfl rfl rfl ⟨rfl, rfl, rfl, rfl, rfl⟩ rfl rfl rfl rfl rfl (by kernel_rfl) Yba.func4 (by kernel_rfl)
    (of_decide_eq_true (by kernel_rfl)) (by unfold Func.isWrapper; first | (rw [if_pos (by decide +kernel)]; kernel_rfl) | (rw [if_neg (by decide +kernel)]; exact ⟨rfl, rfl⟩))
    (fun os started H enc _ => lifted os started H enc)

/-- THE STATEMENT -/
theorem proved : Rows.LawS194156CWholeSaid := over
#print axioms proved
end Go.Proofs.Ybulkexpyo.lawS194156CWhole
