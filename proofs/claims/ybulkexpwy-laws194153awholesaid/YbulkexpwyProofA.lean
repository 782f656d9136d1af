/-
  The proof of Rows.LawS194153AWholeSaid: the row's step, by walkA, longA (YbulkexpwyLawA).
-/
import Derived.Test.YbulkexpwyLawA
import Derived.WalkKit
import Derived.ProofKit
import Derived.OpenShut
import Derived.ShutString
import Derived.ChangeOld
import Derived.Below
import Derived.Deep.Slices
namespace Go.Proofs.Ybulkexpwy.lawS194153AWhole
open Go.ChangeShapes Go.WideShapes Go.ChangeAt Go.RowKit Go.Deep
open Go.ChangeMaps (open_string shut_string)
set_option linter.unusedVariables false

theorem own : ownKnob Yba.prog.godebug = none := by kernel_rfl
theorem laidOut : laidOutB Yba.prog = true := by kernel_rfl

theorem Yba.cells26 : Yba.prog.cellsOf 26 = 5 := by kernel_rfl
theorem Yba.cells5 : Yba.prog.cellsOf 5 = 1 := by kernel_rfl
theorem Yba.cells2 : Yba.prog.cellsOf 2 = 1 := by kernel_rfl
theorem Yba.cells24 : Yba.prog.cellsOf 24 = 1 := by kernel_rfl
theorem Yba.cells9 : Yba.prog.cellsOf 9 = 1 := by kernel_rfl
theorem Yba.cells4 : Yba.prog.cellsOf 4 = 1 := by kernel_rfl

instance : Inhabited KD := ⟨⟨0, 0, 0, ⟨#[]⟩, false⟩⟩

section
variable {H : Type} {enc : TypeId × Value → H} {w : World} {base : Nat} {spare : Nat → Bool} {held : Bool}

theorem trod_float {P : Program} {t : TypeId} {k : FloatKind} {fuel : Nat} {v : Value} {x : DataW H × List MemPlace} (ht : P.underlying t = some (.float k)) (h : DataW.trod enc P w base spare held fuel t [v] = some x) : ∃ b, v = .float k b := by
  cases fuel with
  | zero => simp [DataW.trod] at h
  | succ n =>
    simp only [DataW.trod, ht] at h
    split at h
    all_goals simp_all

/-- The data of one key, read. -/
theorem kd_open {fuel : Nat} {cs : List Value} {x : DataW H × List MemPlace} (h : DataW.trod enc Yba.prog w base spare held fuel 26 cs = some x) :
    ∃ d : KD, cs = [.int .u8 d.kd, .int .i64 d.ii, .float .f64 d.ff, .string d.ss, .bool d.nl] ∧ d.ok := by
  obtain ⟨xs, n, _, _, hl, hxl, hf⟩ := DataW.trod_struct Yba.underlying26 h
  rw [Yba.cells26] at hl
  match cs, hl, xs, hxl with
  | [v0, v1, v2, v3, v4], _, [y0, y1, y2, y3, y4], _ =>
    have g0 := hf 0 _ rfl
    have g1 := hf 1 _ rfl
    have g2 := hf 2 _ rfl
    have g3 := hf 3 _ rfl
    have g4 := hf 4 _ rfl
    simp [Yba.cells5, Yba.cells2, Yba.cells24, Yba.cells9, Yba.cells4] at g0 g1 g2 g3 g4
    obtain ⟨kd, e0, _, w0⟩ := DataW.trod_int Yba.underlying5 g0
    obtain ⟨ii, e1, _, w1⟩ := DataW.trod_int Yba.underlying2 g1
    obtain ⟨ff, e2⟩ := trod_float Yba.underlying24 g2
    obtain ⟨ss, e3, _, _⟩ := DataW.trod_string Yba.underlying9 g3
    obtain ⟨nl, e4, _⟩ := DataW.trod_bool Yba.underlying4 g4
    simp at e0 e1 e3 e4
    subst e0 e1 e2 e3 e4
    refine ⟨⟨kd, ii, ff, ss, nl⟩, rfl, ?_⟩
    simp only [Lit.wf, Bool.and_eq_true, decide_eq_true_eq] at w0 w1
    exact ⟨w0.1, w0.2, w1.1, w1.2⟩
/-- The keys that came in. -/
theorem keys_form {a : Option Addr} {len cap : Nat} {d : DataW H} {p : List MemPlace} (h : DataW.Trod enc Yba.prog w base spare held 22 (.slice a len cap) d p) :
    ∃ (b o : Nat) (δ : Nat → KD), (0 < len → a = some ⟨b, o, none⟩) ∧ (∀ i, i < len → KAt w b (o + i * 5) (δ i)) ∧ (∀ i, i < len → (δ i).ok) ∧ len ≤ maxLen := by
  obtain ⟨fuel, hf⟩ := h
  rcases open_slice Yba.underlying22 hf with ⟨hcs, _⟩ | ⟨x, len', cap', m, n, D, Pl, hcs, _, hl, hm, hmm, _, hx⟩
  · simp [Value.cells] at hcs
    obtain ⟨rfl, rfl, rfl⟩ := hcs
    exact ⟨0, 0, fun _ => ⟨0, 0, 0, ⟨#[]⟩, false⟩, fun h => by omega, fun i hi => by omega, fun i hi => by omega, by omega⟩
  · simp [Value.cells] at hcs
    obtain ⟨rfl, rfl, rfl⟩ := hcs
    have hlm : len ≤ m := by rw [hmm]; split <;> omega
    have each : ∀ i, i < len → ∃ d : KD, d.ok ∧ w.cell? (x.add (i * 5)) = some (.int .u8 d.kd) ∧ w.cell? (x.add (i * 5 + 1)) = some (.int .i64 d.ii) ∧ w.cell? (x.add (i * 5 + 2)) = some (.float .f64 d.ff) ∧ w.cell? (x.add (i * 5 + 3)) = some (.string d.ss) ∧ w.cell? (x.add (i * 5 + 4)) = some (.bool d.nl) := by
      intro i hi
      obtain ⟨cs', h1, h2⟩ := hx i (by omega)
      rw [Yba.cells26] at h1
      obtain ⟨_, hlen, hcell⟩ := World.cells?_some h1
      obtain ⟨d, rfl, hd⟩ := kd_open h2
      have e0 := hcell 0 (by omega)
      have e1 := hcell 1 (by omega)
      have e2 := hcell 2 (by omega)
      have e3 := hcell 3 (by omega)
      have e4 := hcell 4 (by omega)
      rw [add_add] at e0 e1 e2 e3 e4
      exact ⟨d, hd, by simpa using e0, by simpa using e1, by simpa using e2, by simpa using e3, by simpa using e4⟩
    obtain ⟨δ, hδ⟩ := choose_lt each
    obtain ⟨b, o, spot⟩ := x
    by_cases h0 : len = 0
    · subst h0
      exact ⟨b, o, δ, fun h => by omega, fun i hi => by omega, fun i hi => by omega, by omega⟩
    · have hspot : spot = none := by simpa [Addr.add] using World.cell?_spot (hδ 0 (by omega)).2.1
      subst hspot
      refine ⟨b, o, δ, fun _ => rfl, fun i hi => ?_, fun i hi => (hδ i hi).1, by omega⟩
      obtain ⟨_, c0, c1, c2, c3, c4⟩ := hδ i hi
      rw [add_plain] at c0 c1 c2 c3 c4
      exact ⟨c0, by rw [Nat.add_assoc]; exact c1, by rw [Nat.add_assoc]; exact c2, by rw [Nat.add_assoc]; exact c3, by rw [Nat.add_assoc]; exact c4⟩

/-- The pending places that came in. -/
theorem pend_form {a : Option Addr} {len cap : Nat} {d : DataW H} {p : List MemPlace} (h : DataW.Trod enc Yba.prog w base (fun _ => true) held 23 (.slice a len cap) d p) :
    ∃ (b o : Nat) (A : Nat → Int), (0 < len → a = some ⟨b, o, none⟩) ∧ (∀ i, i < len → w.cell? ⟨b, o + i, none⟩ = some (.int .u32 (A i))) ∧ (∀ i, i < len → 0 ≤ A i ∧ A i < 4294967296) ∧ len ≤ maxLen := by
  obtain ⟨fuel, hf⟩ := h
  rcases open_ints Yba.underlying23 Yba.underlying27 (by kernel_rfl) hf with ⟨hcs, _⟩ | ⟨x, l, c, zs, hcs, _, hl, hm, hz, _, hcell, hwz⟩
  · simp [Value.cells] at hcs
    obtain ⟨rfl, rfl, rfl⟩ := hcs
    exact ⟨0, 0, fun _ => 0, fun h => by omega, fun i hi => by omega, fun i hi => by omega, by omega⟩
  · simp [Value.cells] at hcs
    obtain ⟨rfl, rfl, rfl⟩ := hcs
    have hz : zs.length = cap := by simpa using hz
    obtain ⟨b, o, spot⟩ := x
    by_cases h0 : len = 0
    · subst h0
      exact ⟨b, o, fun _ => 0, fun h => by omega, fun i hi => by omega, fun i hi => by omega, by omega⟩
    · have hspot : spot = none := by simpa [Addr.add] using World.cell?_spot (hcell 0 (by omega))
      subst hspot
      refine ⟨b, o, fun i => zs.getD i 0, fun _ => rfl, fun i hi => by rw [← add_plain]; exact hcell i (by omega), fun i hi => ?_, by omega⟩
      have hw := hwz (zs.getD i 0) (by simp [List.getD, List.getElem?_eq_getElem (show i < zs.length by omega)])
      simp only [Lit.wf, Bool.and_eq_true, decide_eq_true_eq] at hw
      have e1 : IntKind.u32.max = 4294967295 := by decide
      have e2 : IntKind.u32.min = 0 := by decide
      rw [e1, e2] at hw
      show 0 ≤ zs.getD i 0 ∧ zs.getD i 0 < 4294967296
      omega
end

theorem walk (a0 : Option Addr) (b0 o0 n cap0 : Nat) (δ : Nat → KD) (pOn : Bool) (a2 : Option Addr) (b2 o2 m cap2 : Nat) (P : Nat → Int) (d0 : KD) (pick pf : Int) (w : World)
    (e0 : 0 < n → a0 = some ⟨b0, o0, none⟩) (hK : ∀ i, i < n → KAt w b0 (o0 + i * 5) (δ i)) (hδ : ∀ i, i < n → (δ i).ok) (hn : n ≤ maxLen) (hd0 : d0.ok)
    (e2 : 0 < m → a2 = some ⟨b2, o2, none⟩) (hP : ∀ i, i < m → w.cell? ⟨b2, o2 + i, none⟩ = some (.int .u32 (P i))) (hPb : ∀ i, i < m → 0 ≤ P i ∧ P i < 4294967296) (hm : m ≤ maxLen)
    (w4 : (Lit.int .u8 pick).wf = true) (w5 : (Lit.int .u32 pf).wf = true) :
    Calls Yba.prog 3 #[.slice a0 n cap0, .bool pOn, .slice a2 m cap2, .agg #[.int .u8 d0.kd, .int .i64 d0.ii, .float .f64 d0.ff, .string d0.ss, .bool d0.nl], .int .u8 pick, .int .u32 pf] w fun e w' => e = .returned (.bool true) ∧ Below w.heap.size w w' := by
  have hp := bounds_u8 w4
  have hf : 0 ≤ pf ∧ pf ≤ 4294967295 := by
    simp only [Lit.wf, Bool.and_eq_true, decide_eq_true_eq] at w5
    have q1 : IntKind.u32.max = 4294967295 := by decide
    have q2 : IntKind.u32.min = 0 := by decide
    rw [q1, q2] at w5
    exact w5
  by_cases h : 65536 < n ∨ 65536 < m
  · exact longA a0 n cap0 pOn a2 m cap2 d0 pick pf w h (by unfold maxLen at hn; omega) (by unfold maxLen at hm; omega)
  · exact walkA a0 b0 o0 n cap0 δ pOn a2 b2 o2 m cap2 P d0 pick pf w (by omega) (by omega) e0 hK hδ hd0 e2 hP hPb hf.1 (by omega) hp.1 hp.2

set_option maxRecDepth 100000 in
theorem lifted (os : Os) (started : os.Started) (H : Type) (enc : TypeId × Value → H) :
    ReturnsInHanded {} Yba.checked os 3 .any (Rows.lawS194153AWholeSpec.pre6 enc Yba.prog Yba.f3 Rows.lawS194153AWholeRow.domain false) (Rows.lawS194153AWholeSpec.post enc Yba.prog Yba.f3 false true false false) := by
  refine returnsInHanded_of_change (C := Yba.checked) own started (by kernel_rfl) Yba.func3
    (ChangeSpec.witness6 (enc := enc) (C := Yba.checked) false ⟨#[], #[.slice none 0 0, .bool false, .slice none 0 0, .agg #[.int .u8 0, .int .i64 0, .float .f64 0, .string ByteArray.empty, .bool false], .int .u8 0, .int .u32 0], []⟩ 8 (by kernel_rfl) (by kernel_rfl) (by kernel_rfl) (by kernel_rfl)) ?_
  intro W base args ds gs before hval0 hW hcnd _
  have hval : ∀ (j : Nat) t v, Yba.f3.params[j]? = some t → args[j]? = some v → Value.okWide Yba.prog W .any base t v := hval0
  have hW' := hW
  obtain ⟨p, q, hA0, hV, rfl, hfz, hnd⟩ := hW
  have hA : DataW.TrodAll enc Yba.prog W 0 (fun _ => true) true Yba.f3.params.toList args.toList ds p := hA0
  rw [Yba.params3] at hA hval
  obtain ⟨v0, vs0, d0, ds0, p0, q0, hargs, rfl, rfl, h0, r0⟩ := trodAll_cons hA
  obtain ⟨v1, vs1, d1, ds1, p1, q1, rfl, rfl, rfl, h1, r1⟩ := trodAll_cons r0
  obtain ⟨v2, vs2, d2, ds2, p2, q2, rfl, rfl, rfl, h2, r2⟩ := trodAll_cons r1
  obtain ⟨v3, vs3, d3, ds3, p3, q3, rfl, rfl, rfl, h3, r3⟩ := trodAll_cons r2
  obtain ⟨v4, vs4, d4, ds4, p4, q4, rfl, rfl, rfl, h4, r4⟩ := trodAll_cons r3
  obtain ⟨v5, vs5, d5, ds5, p5, q5, rfl, rfl, rfl, h5, r5⟩ := trodAll_cons r4
  obtain ⟨rfl, rfl, rfl⟩ := trodAll_nil r5
  obtain rfl : args = #[v0, v1, v2, v3, v4, v5] := by cases args; simp_all
  obtain ⟨rfl, rfl⟩ := trodVars_none hV
  obtain ⟨a0, len0, cap0, rfl⟩ := okWide_slice Yba.underlying22 (hval 0 22 v0 rfl rfl)
  have k0 := h0
  have lt0 : ∀ x ∈ p0, x.block < W.heap.size := by obtain ⟨m, hm⟩ := k0; exact DataW.trod_lt m _ _ _ hm
  obtain ⟨b0, o0, δ, e0, hK, hδ, m0⟩ := keys_form h0
  obtain ⟨a1, rfl, rfl, rfl⟩ := open_bool Yba.underlying4 (hval 1 4 v1 rfl rfl) h1
  obtain ⟨a2, len2, cap2, rfl⟩ := okWide_slice Yba.underlying23 (hval 2 23 v2 rfl rfl)
  have k2 := h2
  have lt2 : ∀ x ∈ p2, x.block < W.heap.size := by obtain ⟨m, hm⟩ := k2; exact DataW.trod_lt m _ _ _ hm
  obtain ⟨b2, o2, A2, e2, hP, hPb, m2⟩ := pend_form h2
  obtain ⟨cs3, rfl, hsz3⟩ := okWide_struct Yba.underlying26 (hval 3 26 v3 rfl rfl)
  have k3 := h3
  have lt3 : ∀ x ∈ p3, x.block < W.heap.size := by obtain ⟨m, hm⟩ := k3; exact DataW.trod_lt m _ _ _ hm
  obtain ⟨dk, hcs3, hdk⟩ : ∃ d : KD, cs3 = #[.int .u8 d.kd, .int .i64 d.ii, .float .f64 d.ff, .string d.ss, .bool d.nl] ∧ d.ok := by
    obtain ⟨fuel, hf⟩ := h3
    obtain ⟨d, hc, hd⟩ := kd_open hf
    exact ⟨d, by cases cs3; simpa [Value.cells] using hc, hd⟩
  subst hcs3
  obtain ⟨a4, rfl, rfl, rfl, w4⟩ := open_int Yba.underlying5 (hval 4 5 v4 rfl rfl) h4
  obtain ⟨a5, rfl, rfl, rfl, w5⟩ := open_int Yba.underlying27 (hval 5 27 v5 rfl rfl) h5
  clear hA0 hval0
  refine (walk a0 b0 o0 len0 cap0 δ a1 a2 b2 o2 len2 cap2 A2 dk a4 a5 W e0 hK hδ m0 hdk e2 hP hPb m2 w4 w5).mono fun e W' ⟨he, bel⟩ => ?_
  subst he
  exact ⟨_, rfl, _, _, _, [], _, [], hW', trodAll_mk1 (shut_bool Yba.underlying4 _), (trodAll_cons_mk (Below.trod laidOut (by kernel_rfl) (of_decide_eq_true (by kernel_rfl)) k0 bel lt0) (trodAll_cons_mk (shut_bool Yba.underlying4 _) (trodAll_cons_mk (Below.trod laidOut (by kernel_rfl) (of_decide_eq_true (by kernel_rfl)) k2 bel lt2) (trodAll_cons_mk (Below.trod laidOut (by kernel_rfl) (of_decide_eq_true (by kernel_rfl)) k3 bel lt3) (trodAll_cons_mk (shut_int Yba.underlying5 w4) (trodAll_cons_mk (shut_int Yba.underlying27 w5) trodAll_mk0)))))), rfl, bel.frame _, fun h => by cases h⟩

theorem over : Rows.lawS194153AWholeRow.holds Yba.pinned (OpenSpec.ofChange Rows.lawS194153AWholeSpec) :=
  OpenClaim.holds_of_wide 3 Yba.f3 rfl rfl rfl rfl rfl rfl rfl ⟨rfl, rfl, rfl, rfl, rfl⟩ rfl rfl rfl rfl rfl (by kernel_rfl) Yba.func3 (by kernel_rfl)
    (of_decide_eq_true (by kernel_rfl)) (by unfold Func.isWrapper; first | (rw [if_pos (by decide +kernel)]; kernel_rfl) | (rw [if_neg (by decide +kernel)]; exact ⟨rfl, rfl⟩))
    (fun os started H enc _ => lifted os started H enc)

/-- THE STATEMENT -/
theorem proved : Rows.LawS194153AWholeSaid := over
#print axioms proved
end Go.Proofs.Ybulkexpwy.lawS194153AWhole
