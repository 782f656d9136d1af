/-
  LawS194153AWhole.
-/
import Derived.Test.YbulkexpwyMapScan
import Derived.Deep.Light
import Derived.Deep.RegionHeld3
namespace Go.Proofs.Ybulkexpwy
open Go.RowKit
set_option linter.unusedVariables false

theorem Yba.info30 : (Yba.prog.info? 30).map (fun i => (i.zero, i.size, i.bytes)) = some (some .nilIface, 1, 16) := by kernel_rfl
theorem Yba.info4 : (Yba.prog.info? 4).map (fun i => (i.zero, i.size, i.bytes)) = some (some (.bool false), 1, 1) := by kernel_rfl

/-- The plain data of one key, and where it lies. -/
structure KD where
  kd : Int
  ii : Int
  ff : Nat
  ss : ByteArray
  nl : Bool
def KD.k (d : KD) : K := bk d.kd d.ii d.ff d.ss d.nl
def KD.ok (d : KD) : Prop := 0 ≤ d.kd ∧ d.kd ≤ 255 ∧ -9223372036854775808 ≤ d.ii ∧ d.ii ≤ 9223372036854775807
structure KAt (w : World) (b o : Nat) (d : KD) : Prop where
  c0 : w.cell? ⟨b, o, none⟩ = some (.int .u8 d.kd)
  c1 : w.cell? ⟨b, o + 1, none⟩ = some (.int .i64 d.ii)
  c2 : w.cell? ⟨b, o + 2, none⟩ = some (.float .f64 d.ff)
  c3 : w.cell? ⟨b, o + 3, none⟩ = some (.string d.ss)
  c4 : w.cell? ⟨b, o + 4, none⟩ = some (.bool d.nl)
theorem KAt.below {w w' : World} {b o : Nat} {d : KD} (h : KAt w b o d) {B : Nat} (hb : Below B w w') (hB : b < B) : KAt w' b o d :=
  ⟨(hb.cell (p := ⟨b, o, none⟩) hB).trans h.c0, (hb.cell (p := ⟨b, o + 1, none⟩) hB).trans h.c1, (hb.cell (p := ⟨b, o + 2, none⟩) hB).trans h.c2, (hb.cell (p := ⟨b, o + 3, none⟩) hB).trans h.c3, (hb.cell (p := ⟨b, o + 4, none⟩) hB).trans h.c4⟩
theorem KAt.lt {w : World} {b o : Nat} {d : KD} (h : KAt w b o d) : b < w.heap.size := World.block_lt_of_cell? _ _ h.c0

/-- zzs194153abuild at a key's data. -/
theorem build_kd (d : KD) (hd : d.ok) (w : World) : Calls Yba.prog 5 #[.agg #[.int .u8 d.kd, .int .i64 d.ii, .float .f64 d.ff, .string d.ss, .bool d.nl]] w fun e w' => e = .returned d.k.val ∧ ∃ cs, w' = w.alloc (.cells cs 26) :=
  build d.kd d.ii d.ff d.ss d.nl w hd.1 hd.2.1 hd.2.2.1 hd.2.2.2

theorem K.val_form (k : K) : k.val = .nilIface ∨ ∃ t v, k.val = .iface t v := by
  cases k with
  | nil => exact .inl rfl
  | _ => exact .inr ⟨_, _, rfl⟩

theorem bk_ne (kd ii : Int) (ff : Nat) (ss : ByteArray) : bk kd ii ff ss false ≠ .nil := by
  unfold bk
  rw [if_neg (by simp)]
  split
  · intro h; cases h
  · split
    · intro h; cases h
    · split <;> (intro h; cases h)
theorem amk_at (k : K) (hk : k ≠ .nil) (a b : Int) (s : ByteArray) (hm : k.mk = ⟨a, b, s⟩) (w : World) : Calls Yba.prog 6 #[k.val] w fun e w' => e = .returned (.agg #[.int .u8 a, .int .u64 b, .string s]) ∧ ∃ cs, w' = w.alloc (.cells cs 37) := by
  refine (amk k hk w).mono ?_
  rintro e w' ⟨rfl, h⟩
  exact ⟨by rw [K.key_mk, hm]; rfl, h⟩

@[go_sem] theorem run_store_float (P : Program) (w : World) (a : Addr) (m : Mode) (k : FloatKind) (b : Nat) : (store a (.float k b) m).run P w = stored P w a (.float k b) m := run_store P w a _ m rfl

@[go_sem high] theorem eq37 (p q a b : Int) (t s : ByteArray) (w : World) : (binOp .eql 37 (.agg #[.int .u8 p, .int .u64 q, .string t]) (.agg #[.int .u8 a, .int .u64 b, .string s])).run Yba.prog w = .ok (.bool ((p == a) && (q == b) && (t.toList == s.toList))) w := by
  have hu : Yba.prog.underlying 37 = some (.struct (Yba.prog.fieldsOf 37)) := by unfold Program.fieldsOf; rw [Yba.underlying37]
  rw [run_eql_struct, run_equalIn_agg w 9999 37 _ _ hu (by kernel_rfl)]
  unfold Program.fieldsOf; rw [Yba.underlying37]
  have p0 : ∀ x y z, (part 5 #[x, y, z] 0).run Yba.prog w = .ok x w := fun x y z => by kernel_rfl
  have p1 : ∀ x y z, (part 35 #[x, y, z] 1).run Yba.prog w = .ok y w := fun x y z => by kernel_rfl
  have p2 : ∀ x y z, (part 9 #[x, y, z] 2).run Yba.prog w = .ok z w := fun x y z => by kernel_rfl
  have e0 := run_equalIn_int (P := Yba.prog) w 9998 5 .u8 .u8 p a Yba.underlying5
  have e1 := run_equalIn_int (P := Yba.prog) w 9998 35 .u64 .u64 q b Yba.underlying35
  have e2 := run_equalIn_string (P := Yba.prog) w 9998 9 t s Yba.underlying9
  simp only [Nat.reduceAdd] at e0 e1 e2
  simp only [Op.eqFields]
  simp [p0, p1, p2, e0, e1, e2, Sem.run_bind, Result.andThen, Sem.run_ite]
  cases h0 : (p == a) <;> cases h1 : (q == b) <;> cases h2 : (t.toList == s.toList) <;> simp_all

/-- len(pend). -/
def lenP (r : Option Nat) (D : DataW Unit) : Int := if r.isSome then (Maps.size D : Int) else 0

/-- After k rounds of the first loop. -/
structure L1 (w wr : World) (n k : Nat) (κ : Nat → K) (d0 : KD) : Prop where
  below : Below w.heap.size w wr
  size : w.heap.size + 3 ≤ wr.heap.size
  box : KAt wr w.heap.size 0 d0
  ks : wr.rowIs (w.heap.size + 1) 30 n (fun i => if i < k then (κ i).val else .nilIface)
  be : wr.rowIs (w.heap.size + 2) 30 n (fun i => if i < k then (κ i).val else .nilIface)

theorem KAt.alloc (w : World) (d : KD) : KAt (w.alloc (.cells #[.int .u8 d.kd, .int .i64 d.ii, .float .f64 d.ff, .string d.ss, .bool d.nl] 26)) w.heap.size 0 d := ⟨by simp, by simp, by simp, by simp, by simp⟩
theorem KAt.set {w : World} {b o : Nat} {d : KD} (h : KAt w b o d) {x : Addr} (hx : b ≠ x.block) (v : Value) : KAt (w.setCell x v) b o d := by
  have e : ∀ j, (w.setCell x v).cell? ⟨b, j, none⟩ = w.cell? ⟨b, j, none⟩ := fun j => World.cell?_of_block (w := w) (Below.heap_setCell w x v b hx)
  exact ⟨(e _).trans h.c0, (e _).trans h.c1, (e _).trans h.c2, (e _).trans h.c3, (e _).trans h.c4⟩

theorem L1.start (w : World) (n : Nat) (κ : Nat → K) (d0 : KD) (M : Array Value) (hM : M = madeCells #[Value.nilIface] n) :
    L1 w (((w.alloc (.cells #[.int .u8 d0.kd, .int .i64 d0.ii, .float .f64 d0.ff, .string d0.ss, .bool d0.nl] 26)).alloc (.cells M 30)).alloc (.cells M 30)) n 0 κ d0 := by
  have hb0 := (Below.refl w.heap.size w).alloc (Nat.le_refl _) (.cells #[.int .u8 d0.kd, .int .i64 d0.ii, .float .f64 d0.ff, .string d0.ss, .bool d0.nl] 26)
  have hb1 := hb0.alloc (by simp) (.cells M 30)
  have hb2 := hb1.alloc (by simp; omega) (.cells M 30)
  refine ⟨hb2, by simp, ?_, ?_, ?_⟩
  · have h := KAt.alloc w d0
    have h1 := h.below ((Below.refl (w.heap.size + 1) _).alloc (by simp) (.cells M 30)) (by omega)
    exact h1.below ((Below.refl (w.heap.size + 1) _).alloc (by simp) (.cells M 30)) (by omega)
  · have := ((World.rowIs_made (w.alloc (.cells #[.int .u8 d0.kd, .int .i64 d0.ii, .float .f64 d0.ff, .string d0.ss, .bool d0.nl] 26)) .nilIface n 30).alloc (.cells M 30))
    rw [hM]; rw [hM] at this; simpa using this
  · have := World.rowIs_made ((w.alloc (.cells #[.int .u8 d0.kd, .int .i64 d0.ii, .float .f64 d0.ff, .string d0.ss, .bool d0.nl] 26)).alloc (.cells M 30)) .nilIface n 30
    rw [hM] at this ⊢; simpa using this

theorem L1.alloc {w wr : World} {n k : Nat} {κ : Nat → K} {d0 : KD} (h : L1 w wr n k κ d0) (o : Obj) : L1 w (wr.alloc o) n k κ d0 := by
  have hs := h.size
  exact ⟨h.below.alloc (by omega) o, by simp; omega, h.box.below ((Below.refl (w.heap.size + 1) _).alloc (by omega) o) (by omega), h.ks.alloc o, h.be.alloc o⟩

theorem L1.step {w wr : World} {n k : Nat} {κ : Nat → K} {d0 : KD} (h : L1 w wr n k κ d0) (o : Obj) : L1 w (((wr.setCell ⟨w.heap.size + 1, k, none⟩ (κ k).val).setCell ⟨w.heap.size + 2, k, none⟩ (κ k).val).alloc o) n (k + 1) κ d0 := by
  have hs := h.size
  refine L1.alloc ⟨((h.below).setCell (by simp) _).setCell (by simp) _, by simp; omega, ?_, ?_, ?_⟩ o
  · exact ((h.box).set (by simp) _).set (by simp) _
  · refine (((h.ks).set k (κ k).val).setOther (by simp) _).congr fun i hi => ?_
    by_cases e : i = k
    · subst e; simp
    · simp only [e, if_false]
      by_cases e2 : i < k
      · rw [if_pos e2, if_pos (by omega)]
      · rw [if_neg e2, if_neg (by omega)]
  · refine (((h.be).setOther (by simp) _).set k (κ k).val).congr fun i hi => ?_
    by_cases e : i = k
    · subst e; simp
    · simp only [e, if_false]
      by_cases e2 : i < k
      · rw [if_pos e2, if_pos (by omega)]
      · rw [if_neg e2, if_neg (by omega)]

/-- All is kept while blocks from B + 3 on turn. -/
theorem L1.kept {w wr wx : World} {n k : Nat} {κ : Nat → K} {d0 : KD} (h : L1 w wr n k κ d0) (hb : Below (w.heap.size + 3) wr wx) : L1 w wx n k κ d0 := by
  have hs := h.size
  have row : ∀ {b : Nat} {f : Nat → Value}, b < w.heap.size + 3 → wr.rowIs b 30 n f → wx.rowIs b 30 n f := fun hlt hr => by
    obtain ⟨c, h1, h2, h3⟩ := hr
    exact ⟨c, (hb.block _ hlt).trans h1, h2, h3⟩
  exact ⟨h.below.trans (hb.mono (by omega)), Nat.le_trans hs hb.size, h.box.below hb (by omega), row (by omega) h.ks, row (by omega) h.be⟩

/-- After k rounds of the third loop. -/
structure L3 (w wx : World) (GL n k : Nat) (κ : Nat → K) (d0 : KD) (r : Option Nat) (N : Nat) (D : DataW Unit) : Prop where
  l1 : L1 w wx n n κ d0
  pm : PM wx r N D
  live : wx.rowIs GL 4 n (fun i => .bool (if i < k then liveK κ r D i else false))
theorem L3.set {w wx : World} {GL n k : Nat} {κ : Nat → K} {d0 : KD} {r : Option Nat} {N : Nat} {D : DataW Unit} (h : L3 w wx GL n k κ d0 r N D) (hG : w.heap.size + 3 ≤ GL) (x : Bool) (hx : liveK κ r D k = x) : L3 w (wx.setCell ⟨GL, k, none⟩ (.bool x)) GL n (k + 1) κ d0 r N D := by
  have hs := h.l1.size
  refine ⟨h.l1.kept ((Below.refl _ _).setCell hG _), fun b hb => ?_, ?_⟩
  · refine (h.pm b hb).setCell (fun e => ?_) _
    obtain ⟨es, cl, h1, _⟩ := h.pm b hb
    obtain ⟨c, h2, _⟩ := h.live
    simp only at e
    rw [e] at h1
    rw [h1] at h2
    cases h2
  · refine (h.live.set k (.bool x)).congr fun i hi => ?_
    by_cases e : i = k
    · subst e; simp [hx]
    · simp only [e, if_false]
      by_cases e2 : i < k
      · rw [if_pos e2, if_pos (by omega)]
      · rw [if_neg e2, if_neg (by omega)]
theorem L3.start {w wz : World} {n : Nat} {κ : Nat → K} {d0 : KD} {r : Option Nat} {N : Nat} {D : DataW Unit} (h1 : L1 w wz n n κ d0) (h2 : PM wz r N D) (M : Array Value) (hM : M = madeCells #[Value.bool false] n) : L3 w (wz.alloc (.cells M 4)) wz.heap.size n 0 κ d0 r N D := by
  refine ⟨h1.alloc _, h2.below ((Below.refl _ _).alloc (Nat.le_refl _) _), ?_⟩
  have := World.rowIs_made wz (.bool false) n 4
  rw [hM]; simpa using this

/-- All that is read from scan on: nothing of it is written any more. -/
structure Fin (w wM : World) (G26 GV GM GL n : Nat) (κ : Nat → K) (r : Option Nat) (N : Nat) (D : DataW Unit) (a bb : Int) (ss : ByteArray) : Prop where
  below : Below w.heap.size w wM
  sw : SW wM GM (w.heap.size + 1) n κ r N D
  be : ∀ i, i < n → wM.cell? ⟨w.heap.size + 2, i, none⟩ = some (κ i).val
  live : ∀ i, i < n → wM.cell? ⟨GL, i, none⟩ = some (.bool (liveK κ r D i))
  m0 : wM.cell? ⟨G26, 0, none⟩ = some (.int .u8 a)
  m1 : wM.cell? ⟨G26, 1, none⟩ = some (.int .u64 bb)
  m2 : wM.cell? ⟨G26, 2, none⟩ = some (.string ss)
  cV : wM.cell? ⟨GM, 1, none⟩ = some (.slice (some ⟨GV, 0, none⟩) n n)
  vals : ∀ i, i < n → wM.cell? ⟨GV, i, none⟩ = some .nilIface
theorem Fin.kept {w wM wx : World} {G26 GV GM GL n : Nat} {κ : Nat → K} {r : Option Nat} {N : Nat} {D : DataW Unit} {a bb : Int} {ss : ByteArray} (h : Fin w wM G26 GV GM GL n κ r N D a bb ss) (hb : Below wM.heap.size wM wx) : Fin w wx G26 GV GM GL n κ r N D a bb ss :=
  ⟨h.below.trans (hb.mono h.below.size), h.sw.below hb, fun i hi => keep hb (h.be i hi), fun i hi => keep hb (h.live i hi), keep hb h.m0, keep hb h.m1, keep hb h.m2, keep hb h.cV, fun i hi => keep hb (h.vals i hi)⟩

theorem Fin.start {w wv : World} {GL n : Nat} {κ : Nat → K} {d0 : KD} {r : Option Nat} {N : Nat} {D : DataW Unit} (h : L3 w wv GL n n κ d0 r N D) (o1 o2 o3 : Obj) (a bb : Int) (ss : ByteArray) (M : Array Value) (hM : M = madeCells #[Value.nilIface] n) :
    Fin w ((((((wv.alloc o1).alloc o2).alloc o3).alloc (.cells #[.int .u8 a, .int .u64 bb, .string ss] 37)).alloc (.cells M 30)).alloc (.cells #[.slice (some ⟨w.heap.size + 1, 0, none⟩) n n, .slice (some ⟨wv.heap.size + 1 + 1 + 1 + 1, 0, none⟩) n n, .map none, .int .i64 0, .int .i64 0, .bool false, .int .i64 0, .bool false, .int .i64 0, .int .i64 0, .int .i64 0, .map r, .int .i64 0] 42))
      (wv.heap.size + 1 + 1 + 1) (wv.heap.size + 1 + 1 + 1 + 1) (wv.heap.size + 1 + 1 + 1 + 1 + 1) GL n κ r N D a bb ss := by
  have hb3 : Below wv.heap.size wv (((wv.alloc o1).alloc o2).alloc o3) := (((Below.refl _ _).alloc (Nat.le_refl _) _).alloc (by simp) _).alloc (by simp; omega) _
  have hs3 : (((wv.alloc o1).alloc o2).alloc o3).heap.size = wv.heap.size + 1 + 1 + 1 := by simp
  generalize ((wv.alloc o1).alloc o2).alloc o3 = w3 at hb3 hs3 ⊢
  have hx4 : ∀ i v, #[Value.int .u8 a, .int .u64 bb, .string ss][i]? = some v → (w3.alloc (.cells #[.int .u8 a, .int .u64 bb, .string ss] 37)).cell? ⟨wv.heap.size + 1 + 1 + 1, i, none⟩ = some v := fun i v hv => by
    rw [World.cell?_alloc_at _ _ _ _ hs3.symm]; exact hv
  have hb4 : Below wv.heap.size wv (w3.alloc (.cells #[.int .u8 a, .int .u64 bb, .string ss] 37)) := hb3.alloc hb3.size _
  have hs4 : (w3.alloc (.cells #[.int .u8 a, .int .u64 bb, .string ss] 37)).heap.size = wv.heap.size + 1 + 1 + 1 + 1 := by simp [hs3]
  generalize w3.alloc (.cells #[.int .u8 a, .int .u64 bb, .string ss] 37) = w4 at hx4 hb4 hs4 ⊢
  have hrow : (w4.alloc (.cells M 30)).rowIs (wv.heap.size + 1 + 1 + 1 + 1) 30 n (fun _ => .nilIface) := by
    have := World.rowIs_made w4 .nilIface n 30
    rw [hs4] at this
    rw [hM]; exact this
  have hk5 : Below w4.heap.size w4 (w4.alloc (.cells M 30)) := (Below.refl _ _).alloc (Nat.le_refl _) _
  have hs5 : (w4.alloc (.cells M 30)).heap.size = wv.heap.size + 1 + 1 + 1 + 1 + 1 := by simp [hs4]
  have hb5 : Below wv.heap.size wv (w4.alloc (.cells M 30)) := hb4.alloc hb4.size _
  generalize w4.alloc (.cells M 30) = w5 at hrow hk5 hs5 hb5 ⊢
  have hk6 := fun o => (Below.refl w5.heap.size w5).alloc (Nat.le_refl _) o
  have hb6 := fun o => hb5.alloc hb5.size o
  have hx6 : ∀ (c : Array Value) i v, c[i]? = some v → (w5.alloc (.cells c 42)).cell? ⟨wv.heap.size + 1 + 1 + 1 + 1 + 1, i, none⟩ = some v := fun c i v hv => by
    rw [World.cell?_alloc_at _ _ _ _ hs5.symm]; exact hv
  refine ⟨h.l1.below.trans ((hb6 _).mono h.l1.below.size), ⟨hx6 _ 0 _ rfl, hx6 _ 11 _ rfl, fun i hi => ?_, h.pm.below (hb6 _)⟩, fun i hi => ?_, fun i hi => ?_, ?_, ?_, ?_, hx6 _ 1 _ rfl, fun i hi => ?_⟩
  · have := h.l1.ks.cell hi
    simp only [hi, if_true] at this
    exact keep (hb6 _) this
  · have := h.l1.be.cell hi
    simp only [hi, if_true] at this
    exact keep (hb6 _) this
  · have := h.live.cell hi
    simp only [hi, if_true] at this
    exact keep (hb6 _) this
  · exact keep (hk6 _) (keep hk5 (hx4 0 _ rfl))
  · exact keep (hk6 _) (keep hk5 (hx4 1 _ rfl))
  · exact keep (hk6 _) (keep hk5 (hx4 2 _ rfl))
  · exact keep (hk6 _) (hrow.cell hi)

theorem below_drewN {B : Nat} {w w' : World} (h : Below B w w') (q : Nat) : Below B w (w'.drewN q) := ⟨h.os, h.tape, h.output, h.size, h.block⟩

def Want (p : Nat → Bool) (n : Nat) (wi : Int) : Prop := (∃ k, k < n ∧ (∀ j, j < k → p j = false) ∧ p k = true ∧ wi = (k : Int)) ∨ ((∀ j, j < n → p j = false) ∧ wi = -1)

/-- What scan has found is what the law wants. -/
theorem found_want {p q : Nat → Bool} {n : Nat} {gi gc wi : Int} (h : Found p q n gi gc) (hw : Want p n wi) : gi = wi ∧ ∃ e : Nat, e ≤ n ∧ gc = (cntP q e : Int) ∧ ((∃ k : Nat, wi = (k : Int) ∧ e = k + 1) ∨ (wi = -1 ∧ e = n)) := by
  rcases h with ⟨k, hk, hno, hy, rfl, rfl⟩ | ⟨hno, rfl, rfl⟩
  · rcases hw with ⟨k', hk', hno', hy', rfl⟩ | ⟨hno', rfl⟩
    · have : k = k' := by
        rcases Nat.lt_trichotomy k k' with h | h | h
        · rw [hno' k h] at hy; cases hy
        · exact h
        · rw [hno k' h] at hy'; cases hy'
      subst this
      exact ⟨rfl, k + 1, by omega, rfl, .inl ⟨k, rfl, rfl⟩⟩
    · rw [hno' k hk] at hy; cases hy
  · rcases hw with ⟨k', hk', hno', hy', rfl⟩ | ⟨hno', rfl⟩
    · rw [hno k' hk'] at hy'; cases hy'
    · exact ⟨rfl, n, Nat.le_refl _, rfl, .inr ⟨rfl, rfl⟩⟩

set_option maxRecDepth 100000 in
set_option maxHeartbeats 4000000 in
theorem walkA (ao0 : Option Addr) (b0 o0 n cap0 : Nat) (δ : Nat → KD) (pOn : Bool) (ao2 : Option Addr) (b2 o2 m cap2 : Nat) (P : Nat → Int) (d0 : KD) (pick pf : Int) (w : World)
    (hn : n ≤ 65536) (hm : m ≤ 65536) (hao0 : 0 < n → ao0 = some ⟨b0, o0, none⟩) (hK : ∀ i, i < n → KAt w b0 (o0 + i * 5) (δ i)) (hδ : ∀ i, i < n → (δ i).ok) (hd0 : d0.ok)
    (hao2 : 0 < m → ao2 = some ⟨b2, o2, none⟩) (hP : ∀ i, i < m → w.cell? ⟨b2, o2 + i, none⟩ = some (.int .u32 (P i))) (hPb : ∀ i, i < m → 0 ≤ P i ∧ P i < 4294967296) (hf0 : 0 ≤ pf) (hf1 : pf < 4294967296) (hp0 : 0 ≤ pick) (hp1 : pick ≤ 255) :
    Calls Yba.prog 3 #[.slice ao0 n cap0, .bool pOn, .slice ao2 m cap2, .agg #[.int .u8 d0.kd, .int .i64 d0.ii, .float .f64 d0.ff, .string d0.ss, .bool d0.nl], .int .u8 pick, .int .u32 pf] w fun e w' => e = .returned (.bool true) ∧ Below w.heap.size w w' := by
  obtain ⟨i30, hi, hz0, hz1, hz2⟩ := info_parts Yba.info30
  obtain ⟨M30, hM30⟩ : ∃ M, M = madeCells #[Value.nilIface] n := ⟨_, rfl⟩
  have hmk30 : ∀ W, (Instr.makeSlice 28 (.int .i64 (n : Int)) (.int .i64 (n : Int))).run Yba.prog W = .ok (.slice (some ⟨W.heap.size, 0, none⟩) n n) (W.alloc (.cells M30 30)) := by
    intro W
    rw [hM30]; exact (run_make_any (P := Yba.prog) 28 30 i30 _ 1 16 Yba.underlying28 hi hz0 hz1 hz2 .i64 .i64 n (by omega) (by omega) W).trans (by rw [Nat.mul_one]; rfl)
  clear hi hz0 hz1 hz2 i30
  have hnz : (n : Int) ≤ 65536 := by omega
  have hmz : (m : Int) ≤ 65536 := by omega
  obtain ⟨κ, hκ⟩ : ∃ κ : Nat → K, κ = fun i => (δ i).k := ⟨_, rfl⟩
  have HL0 := hide (L1.start w n κ d0 M30 hM30)
  have HM30 := hide hM30
  have HK := hide hK
  have HP := hide hP
  have Hδ := hide hδ
  have HA0 := hide hao0
  have HA2 := hide hao2
  clear hK hP hδ hM30 hao0 hao2
  go_enter Yba.func3, Yba.ntmps3
  go_upto_block 0 with fail
  go_cut [16] from 51 to 70 (fun v wc => L1 w wc n n κ d0)
  case first =>
    as_aux_lemma =>  --<1
      go_wp2
      go_loopg [16] n (fun gk i wr => ∃ k : Nat, k ≤ n ∧ gk = n - k ∧ i = .int .i64 k ∧ L1 w wr n k κ d0)
      case atStart => exact ⟨0, by omega, by omega, rfl, HL0.out⟩
      case round =>
        obtain ⟨k, hk, rfl, rfl, hL⟩ := hrel
        clear HL0
        by_cases hlt : k < n
        · have hkz : (k : Int) < (n : Int) := by omega
          obtain rfl := HA0.out (by omega)
          have hk0 := HK.out k hlt
          have hka := hk0.below hL.below hk0.lt
          obtain ⟨c0, c1, c2, c3, c4⟩ := hka
          have HB := hide (build_kd (δ k) (Hδ.out k hlt) wr)
          have x1 := hL.ks.cell hlt
          have f1 : ∀ i, wr.frozen? ⟨w.heap.size + 1, i, none⟩ = false := fun i => hL.ks.frozen i
          have x2 := hL.be.cell hlt
          have f2 : ∀ i, wr.frozen? ⟨w.heap.size + 2, i, none⟩ = false := fun i => hL.be.frozen i
          have s1 : w.heap.size + 1 < wr.heap.size := by have := hL.size; omega
          have s2 : w.heap.size + 2 < wr.heap.size := by have := hL.size; omega
          have HL := hide hL
          clear hk0 hL
          simp only [Nat.lt_irrefl, if_false] at x1 x2
          have HST : ∀ o, Hid (L1 w (((wr.setCell ⟨w.heap.size + 1, k, none⟩ (δ k).k.val).setCell ⟨w.heap.size + 2, k, none⟩ (δ k).k.val).alloc o) n (k + 1) κ d0) := fun o => by
            have h := HL.out.step o
            rw [hκ] at h ⊢
            exact h
          clear HL
          rcases K.val_form (δ k).k with hv | ⟨t, v, hv⟩
          · rw [hv] at HB HST
            clear hv
            go_wp2_with fail
            refine HB.out.mono ?_
            rintro e w' ⟨rfl, cs, rfl⟩
            clear c0 c1 c2 c3 c4
            go_wp2
            go_roundg (n - (k + 1))
            case measure => omega
            case rel => exact ⟨k + 1, by omega, rfl, by go_num, (HST _).out⟩
          · rw [hv] at HB HST
            clear hv
            go_wp2_with fail
            refine HB.out.mono ?_
            rintro e w' ⟨rfl, cs, rfl⟩
            clear c0 c1 c2 c3 c4
            go_wp2
            go_roundg (n - (k + 1))
            case measure => omega
            case rel => exact ⟨k + 1, by omega, rfl, by go_num, (HST _).out⟩
        · go_wp2
          go_meet
          case rel => obtain rfl : k = n := by omega
                      exact hL
    -->1
  case rest =>
    have HL := hide hcut
    clear hcut HL0 hκ
    have hmm := @run_makeMap Yba.prog
    go_upto_if 71 with fail
    go_cut [17] from 71 to 89 (fun v wx => ∃ (r : Option Nat) (N : Nat) (D : DataW Unit), v = .map r ∧ PM wx r N D ∧ N ≤ 65536 ∧ (∀ b, r = some b → w.heap.size + 3 ≤ b) ∧ L1 w wx n n κ d0)
    case first =>
     as_aux_lemma =>  --<2
      cases pOn with
      | false =>
        go_wp2
        go_meet
        case rel => exact ⟨none, 0, .map [], rfl, fun b hb => (by cases hb), by omega, fun b hb => (by cases hb), HL.out⟩
      | true =>
        have HM0 := hide (World.ownsMap_made (H := Unit) wc Yba.prog 3 (plainElem Yba.prog 3))
        have HLA := hide (HL.out.alloc (.map #[] 0))
        rcases Nat.eq_zero_or_pos n with rfl | hn0
        · go_wp2
          go_meet
          case rel => exact ⟨some _, 0, .map [], rfl, fun b hb => (by cases hb; exact HM0.out), by omega, fun b hb => (by cases hb; exact HL.out.size), HLA.out⟩
        · have hnz0 : (0 : Int) < (n : Int) := by omega
          have hszc : w.heap.size + 3 ≤ wc.heap.size := HL.out.size
          clear HL
          go_wp2
          go_loopg [77] m (fun gk i wr => ∃ (k : Nat) (D : DataW Unit), k ≤ m ∧ gk = m - k ∧ i = .int .i64 k ∧ wr.ownsMap Yba.prog 3 (plainElem Yba.prog 3) wc.heap.size k D ∧ L1 w wr n n κ d0)
          case atStart => exact ⟨0, .map [], by omega, by omega, rfl, HM0.out, HLA.out⟩
          case round =>
            obtain ⟨k, D, hk, rfl, rfl, hown, hL⟩ := hrel
            clear HM0 HLA
            by_cases hlt : k < m
            · have hkz : (k : Int) < (m : Int) := by omega
              obtain rfl := HA2.out (by omega)
              have hp := HP.out k hlt
              have hpc := (hL.below.cell (World.block_lt_of_cell? _ _ hp)).trans hp
              have hpb := hPb k hlt
              clear hp hPb
              generalize P k = p at hpc hpb
              have HL := hide hL
              clear hL
              go_wp2_with (first
                | (at_mapUpdate; refine wpList_mapUpdate_own _ rfl _ _ _ 32 rfl 3 3 law32 Yba.underlying32 _ wc.heap.size k _ rfl hown (by unfold maxLen; omega) _ _ _ rfl rfl (Go.Maps.keyOf_int_mk Yba.underlying3 (wrap64_wf _)) _ [] (plainElem_int Yba.underlying3 (WalkArith.wf_i64 (by omega))) ?_; intro w1 hown1 hgrow1)
                | fail)
              go_roundg (m - (k + 1))
              case measure => omega
              case rel =>
                refine ⟨k + 1, _, by omega, rfl, by go_num, hown1, HL.out.kept ((Below.refl _ _).grown hgrow1 HL.out.size ?_)⟩
                intro j hj
                cases hj
                exact hszc
            · go_wp2
              go_meet
              case rel => exact ⟨some _, k, D, rfl, fun b hb => (by cases hb; exact hown), by omega, fun b hb => (by cases hb; exact hszc), hL⟩
     -->2
    case rest =>
      rename World => wp
      obtain ⟨r, N, D, rfl, hPM, hN, hrb, hL⟩ := hcut
      have HPM := hide hPM
      have HL2 := hide hL
      have HRB := hide hrb
      clear hPM hL hrb HL hmm HP hPb HA2
      go_upto_region 20 with fail
      go_cut [20] from 90 to 91 (fun v wx => v = .int .i64 (lenP r D) ∧ wx = wp)
      case first =>
        as_aux_lemma =>  --<3
          cases r with
          | none =>
            have hl := fun ty w => Maps.len_nil (P := Yba.prog) (w := w) (t := 32) (k := 3) (e := 3) Yba.underlying32 ty
            go_wp2
            go_meet
            case rel => exact ⟨rfl, rfl⟩
          | some b =>
            have hown := HPM.out b rfl
            go_wp2_with (first | (at_len; refine wpList_len_own _ rfl _ 32 rfl 3 3 Yba.underlying32 _ b N D rfl hown ?_) | fail)
            go_meet
            case rel => exact ⟨rfl, rfl⟩
        -->3
      case rest =>
        rename World => wz
        obtain ⟨rfl, rfl⟩ := hcut
        obtain ⟨i4, hi, hz0, hz1, hz2⟩ := info_parts Yba.info4
        obtain ⟨M4, hM4⟩ : ∃ M, M = madeCells #[Value.bool false] n := ⟨_, rfl⟩
        have hmk4 : ∀ W, (Instr.makeSlice 33 (.int .i64 (n : Int)) (.int .i64 (n : Int))).run Yba.prog W = .ok (.slice (some ⟨W.heap.size, 0, none⟩) n n) (W.alloc (.cells M4 4)) := by
          intro W
          rw [hM4]; exact (run_make_any (P := Yba.prog) 33 4 i4 _ 1 1 Yba.underlying33 hi hz0 hz1 hz2 .i64 .i64 n (by omega) (by omega) W).trans (by rw [Nat.mul_one]; rfl)
        clear hi hz0 hz1 hz2 i4
        have HL3 := hide (L3.start HL2.out HPM.out M4 hM4)
        have hGL : w.heap.size + 3 ≤ wz.heap.size := HL2.out.size
        clear hM4 HL2 HPM HRB
        go_upto_block 4 with fail
        clear hmk4
        revert HL3 hGL
        generalize wz.alloc (.cells M4 4) = wl
        generalize wz.heap.size = GL
        intro HL3 hGL
        go_cut [22] from 94 to 122 (fun v wx => L3 w wx GL n n κ d0 r N D)
        case first =>
          as_aux_lemma =>  --<4
            go_wp2
            go_loopg [22] n (fun gk i wr => ∃ k : Nat, k ≤ n ∧ gk = n - k ∧ i = .int .i64 k ∧ L3 w wr GL n k κ d0 r N D)
            case atStart => exact ⟨0, by omega, by omega, rfl, HL3.out⟩
            case round =>
              obtain ⟨k, hk, rfl, rfl, hL⟩ := hrel
              clear HL3
              by_cases hlt : k < n
              · have hkz : (k : Int) < (n : Int) := by omega
                have x1 := hL.l1.ks.cell hlt
                simp only [hlt, if_true] at x1
                have x2 := hL.live.cell hlt
                simp only [Nat.lt_irrefl, if_false] at x2
                have f2 : ∀ i, wr.frozen? ⟨GL, i, none⟩ = false := fun i => hL.live.frozen i
                have HL := hide hL
                have hlv : liveK κ r D k = !((κ k).isNil || hasP r D k) := rfl
                have HLV := hide hlv
                clear hlv
                have other : ∀ t v, (κ k).val = .iface t v → (κ k).isNil = false := fun t v h => by cases hh : κ k <;> rw [hh] at h <;> first | rfl | cases h
                rcases K.val_form (κ k) with hv | ⟨t, v, hv⟩
                · have hnil : (κ k).isNil = true := by cases hh : κ k <;> rw [hh] at hv <;> first | rfl | cases hv
                  have HLF : Hid (liveK κ r D k = false) := by show _ = _; rw [HLV.out, hnil]; rfl
                  rw [hv] at x1
                  clear hv hnil other hL HLV
                  go_wp2
                  go_roundg (n - (k + 1))
                  case measure => omega
                  case rel => exact ⟨k + 1, by omega, rfl, by go_num, HL.out.set hGL _ HLF.out⟩
                · have hnil := other t v hv
                  rw [hv] at x1
                  clear hv other
                  cases r with
                  | none =>
                    have HLF : Hid (liveK κ none D k = true) := by show _ = _; rw [HLV.out, hnil]; rfl
                    clear hnil hL HLV
                    go_wp2
                    go_roundg (n - (k + 1))
                    case measure => omega
                    case rel => exact ⟨k + 1, by omega, rfl, by go_num, HL.out.set hGL _ HLF.out⟩
                  | some b =>
                    have hown := hL.pm b rfl
                    have HLF : Hid (liveK κ (some b) D k = !(Maps.has D (.int .i64 (k : Int)))) := by show _ = _; rw [HLV.out, hnil]; rfl
                    have hkey := Go.Maps.keyOf_int_mk (P := Yba.prog) (k := 3) Yba.underlying3 (a := (k : Int)) (WalkArith.wf_i64 (by omega))
                    clear hnil hL HLV
                    go_wp2_with (first | (at_lookup; refine wpList_lookup_own_ok_int _ rfl _ _ 32 rfl 3 3 .i64 law32 Yba.underlying32 Yba.underlying3 (zero3 _) b N _ rfl hown _ _ rfl hkey ?_; intro c hat hwc) | fail)
                    go_roundg (n - (k + 1))
                    case measure => omega
                    case rel => exact ⟨k + 1, by omega, rfl, by go_num, HL.out.set hGL _ HLF.out⟩
              · go_wp2
                go_meet
                case rel => obtain rfl : k = n := by omega
                            exact hL
          -->4
        case rest =>
          rename World => wv
          have HL4 := hide hcut
          clear hcut HL3
          have hbx := HL4.out.l1.box
          obtain ⟨c0, c1, c2, c3, c4⟩ := hbx
          have hbs : w.heap.size < wv.heap.size := by have := HL4.out.l1.size; omega
          simp only [Nat.zero_add] at c1 c2 c3 c4
          go_upto_region 32 with fail
          clear c0 c1 c2 c3 c4
          go_cut [130] from 124 to 130 (fun v wx => ∃ x : Bool, v = .bool x ∧ (x = true → 0 < n) ∧ wx = wv.alloc (.cells #[.int .u8 d0.kd, .int .i64 d0.ii, .float .f64 d0.ff, .string d0.ss, .bool d0.nl] 26))
          case first =>
            as_aux_lemma =>  --<5
              have hpk : pick % 2 = 0 ∨ pick % 2 = 1 := by omega
              rcases hpk with hpk | hpk
              · rcases Nat.eq_zero_or_pos n with rfl | hn0
                · go_wp2
                  go_meet
                  case rel => exact ⟨false, rfl, fun h => (by cases h), rfl⟩
                · have hnz0 : (0 : Int) < (n : Int) := by omega
                  go_wp2
                  go_meet
                  case rel => exact ⟨true, rfl, fun _ => hn0, rfl⟩
              · go_wp2
                go_meet
                case rel => exact ⟨false, rfl, fun h => (by cases h), rfl⟩
            -->5
          case rest =>
           rename World => wt
           obtain ⟨x, rfl, hx, hwt⟩ := hcut
           subst hwt
           go_upto_if 130 with fail
           go_cut [] from 130 to 138 (fun wx => ∃ d : KD, d.ok ∧ wx = wv.alloc (.cells #[.int .u8 d.kd, .int .i64 d.ii, .float .f64 d.ff, .string d.ss, .bool d.nl] 26))
           case first =>
            as_aux_lemma =>  --<6
              cases x with
              | true =>
                have hn0 := hx rfl
                have hnz0 : (0 : Int) < (n : Int) := by omega
                obtain rfl := HA0.out hn0
                obtain ⟨q, hq⟩ : ∃ q : Nat, pf % (n : Int) = (q : Int) := ⟨(pf % (n : Int)).toNat, by have := Int.emod_nonneg pf (show (n : Int) ≠ 0 by omega); omega⟩
                have hqn : (q : Int) < (n : Int) := by have := Int.emod_lt_of_pos pf (show 0 < (n : Int) by omega); omega
                have hwq : wrap64 (pf % (n : Int)) = (q : Int) := by rw [hq]; unfold wrap64; omega
                have hk0 := HK.out q (by omega)
                have hb0 := hk0.lt
                have hka := hk0.below HL4.out.l1.below hb0
                have hb0' : b0 < wv.heap.size := Nat.lt_of_lt_of_le hb0 HL4.out.l1.below.size
                obtain ⟨c0, c1, c2, c3, c4⟩ := hka
                have hqd := Hδ.out q (by omega)
                clear hk0 hq hx
                go_wp2
                go_meet
                case rel => exact ⟨δ q, hqd, rfl⟩
              | false =>
                go_wp2
                go_meet
                case rel => exact ⟨d0, hd0, rfl⟩
            -->6
           case rest =>
            rename World => ws
            obtain ⟨d, hd, hws⟩ := hcut
            subst hws
            clear HK Hδ HA0
            obtain ⟨k', hk'⟩ : ∃ k' : K, k' = bk d.kd d.ii d.ff d.ss false := ⟨_, rfl⟩
            have hkn : k' ≠ .nil := by rw [hk']; exact bk_ne _ _ _ _
            obtain ⟨a, bb, ss, hm⟩ : ∃ a bb ss, k'.mk = ⟨a, bb, ss⟩ := ⟨_, _, _, rfl⟩
            have HBD : ∀ W, Hid (Calls Yba.prog 5 #[.agg #[.int .u8 d.kd, .int .i64 d.ii, .float .f64 d.ff, .string d.ss, .bool false]] W fun e w' => e = .returned k'.val ∧ ∃ cs, w' = W.alloc (.cells cs 26)) := fun W => by
              rw [hk']; exact build_kd ⟨d.kd, d.ii, d.ff, d.ss, false⟩ hd W
            have HAM := fun W => hide (amk_at k' hkn a bb ss hm W)
            clear hk' hkn hm
            go_wp2_with fail
            refine (HBD _).out.mono ?_
            rintro e w' ⟨rfl, cs1, rfl⟩
            go_wp2_with fail
            refine (HAM _).out.mono ?_
            rintro e w' ⟨rfl, cs2, rfl⟩
            clear HBD HAM
            go_wp2_with fail
            have HF := hide (Fin.start HL4.out (.cells #[.int .u8 d.kd, .int .i64 d.ii, .float .f64 d.ff, .string d.ss, .bool false] 26) (.cells cs1 26) (.cells cs2 37) a bb ss M30 HM30.out)
            clear HL4 HM30 hmk30
            revert HF
            generalize ((((((wv.alloc (.cells #[.int .u8 d.kd, .int .i64 d.ii, .float .f64 d.ff, .string d.ss, .bool false] 26)).alloc (.cells cs1 26)).alloc (.cells cs2 37)).alloc (.cells #[.int .u8 a, .int .u64 bb, .string ss] 37)).alloc (.cells M30 30)).alloc (.cells #[.slice (some ⟨w.heap.size + 1, 0, none⟩) n n, .slice (some ⟨wv.heap.size + 1 + 1 + 1 + 1, 0, none⟩) n n, .map none, .int .i64 0, .int .i64 0, .bool false, .int .i64 0, .bool false, .int .i64 0, .int .i64 0, .int .i64 0, .map r, .int .i64 0] 42)) = wM
            generalize wv.heap.size + 1 + 1 + 1 + 1 + 1 = GM
            generalize wv.heap.size + 1 + 1 + 1 + 1 = GV
            generalize wv.heap.size + 1 + 1 + 1 = G26
            intro HF
            refine (scan GM (w.heap.size + 1) n N κ r D ⟨a, bb, ss⟩ wM hn HF.out.sw).mono ?_
            rintro e w2 ⟨gi, gc, rfl, hb2, hFd⟩
            have HF2 := hide (HF.out.kept hb2)
            have HFd := hide hFd
            clear HF hb2 hFd
            go_upto_block 6 with fail
            clear hbs hx hd
            go_cut [30] from 155 to 173 (fun v wx => ∃ wi : Int, v = .int .i64 wi ∧ Want (fun i => liveK κ r D i && (κ i).mk.same ⟨a, bb, ss⟩) n wi ∧ Below w2.heap.size w2 wx)
            case first =>
              as_aux_lemma =>  --<7
                go_wp2
                go_loopg [31, 30] n (fun gk i v wr => ∃ k : Nat, k ≤ n ∧ gk = n - k ∧ i = .int .i64 k ∧ v = .int .i64 (-1) ∧ (∀ j, j < k → (liveK κ r D j && (κ j).mk.same ⟨a, bb, ss⟩) = false) ∧ Below w2.heap.size w2 wr)
                case atStart => exact ⟨0, by omega, by omega, rfl, rfl, fun j hj => (by omega), Below.refl _ _⟩
                case round =>
                  obtain ⟨k, hk, rfl, rfl, rfl, hno, hb⟩ := hrel
                  have HN := hide hno
                  have HBR := hide hb
                  clear hno HFd
                  by_cases hlt : k < n
                  · have hkz : (k : Int) < (n : Int) := by omega
                    have hF := HF2.out.kept hb
                    have ck := hF.sw.ck k hlt
                    have cl := hF.live k hlt
                    have m0 := hF.m0
                    have m1 := hF.m1
                    have m2 := hF.m2
                    have hG : G26 < wr.heap.size := World.block_lt_of_cell? _ _ m0
                    clear hb hF
                    obtain ⟨p, q, t, hm⟩ : ∃ p q t, (κ k).mk = ⟨p, q, t⟩ := ⟨_, _, _, rfl⟩
                    have hsm : (κ k).mk.same ⟨a, bb, ss⟩ = ((p == a) && (q == bb) && (t.toList == ss.toList)) := by rw [hm]; rfl
                    have Hm := hide hm
                    have Hsm := hide hsm
                    clear hm hsm
                    go_upto_region 42 with fail
                    go_cut [172] from 160 to 172 (fun v wx => v = .bool (liveK κ r D k && (κ k).mk.same ⟨a, bb, ss⟩) ∧ Below w2.heap.size w2 wx)
                    case first =>
                      cases hl : liveK κ r D k with
                      | false =>
                        rw [hl] at cl
                        have Hl := hide hl
                        clear hl m0 m1 m2
                        go_quiet (fail)
                        go_wp2_with fail
                        go_meet
                        case rel => exact ⟨by rw [Hl.out]; rfl, (below_drewN HBR.out _)⟩
                      | true =>
                        as_aux_lemma =>  --<7t
                          rw [hl] at cl
                          have hnn : κ k ≠ .nil := by
                            intro h
                            unfold liveK at hl
                            rw [h] at hl
                            cases hl
                          have HAM := fun W => hide (amk_at (κ k) hnn p q t Hm.out W)
                          have Hl := hide hl
                          clear hl hnn
                          go_region_held3 (fun W => W.cell? ⟨GL, k, none⟩ = some (.bool true) ∧ W.cell? ⟨w.heap.size + 1, k, none⟩ = some (κ k).val ∧ W.cell? ⟨G26, 0, none⟩ = some (.int .u8 a) ∧ W.cell? ⟨G26, 1, none⟩ = some (.int .u64 bb) ∧ W.cell? ⟨G26, 2, none⟩ = some (.string ss)) (go_keep) (first | (go_at_call 6; refine (HAM _).out.mono ?_; rintro e w' ⟨rfl, cs, rfl⟩))
                          all_goals
                            go_wp2_with fail
                            go_meet
                            case rel =>
                              refine ⟨?_, ?_⟩
                              · rw [Hsm.out, Hl.out]; rfl
                              · first | exact HBR.out.drew.alloc HBR.out.size _ | exact (HBR.out.alloc HBR.out.size _).drew
                        -->7t
                    case rest =>
                      rename World => wy
                      obtain ⟨rfl, hby⟩ := hcut
                      have HBY := hide hby
                      clear hby HBR ck cl m0 m1 m2 hG Hm Hsm
                      cases hX : (liveK κ r D k && (κ k).mk.same ⟨a, bb, ss⟩) with
                      | true =>
                        have HX := hide hX
                        clear hX
                        go_wp2
                        go_meet
                        case rel => exact ⟨(k : Int), rfl, .inl ⟨k, hlt, HN.out, HX.out, rfl⟩, HBY.out⟩
                      | false =>
                        have HX := hide hX
                        clear hX
                        go_wp2
                        go_roundg (n - (k + 1))
                        case measure => omega
                        case rel => exact ⟨k + 1, by omega, rfl, by go_num, rfl, not_below_succ HN.out HX.out, HBY.out⟩
                  · go_wp2
                    go_meet
                    case rel => obtain rfl : k = n := by omega
                                exact ⟨-1, rfl, .inr ⟨HN.out, rfl⟩, HBR.out⟩
              -->7
            case rest =>
              rename World => w4
              obtain ⟨wi, rfl, hW, hb4⟩ := hcut
              obtain ⟨rfl, e, hen, hgc, hee⟩ := found_want HFd.out hW
              have HF4 := hide (HF2.out.kept hb4)
              have Hgc := hide hgc
              clear HFd hW HF2 hb4 hgc
              go_upto_if 176 with fail
              go_cut [32] from 176 to 178 (fun v wx => v = .int .i64 (e : Int) ∧ wx = w4)
              case first =>
                as_aux_lemma =>  --<8
                  rcases hee with ⟨k, rfl, rfl⟩ | ⟨rfl, rfl⟩
                  · go_wp2
                    go_meet
                    case rel => exact ⟨by go_num, rfl⟩
                  · go_wp2
                    go_meet
                    case rel => exact ⟨rfl, rfl⟩
                -->8
              case rest =>
                rename World => w5
                obtain ⟨rfl, hw5⟩ := hcut
                subst hw5
                have hez : (e : Int) ≤ 65536 := by omega
                clear hee
                go_upto_block 8 with fail
                go_cut [33] from 179 to 216 (fun v wx => v = .int .i64 (cntP (fun i => liveK κ r D i && (κ i).mk.near ⟨a, bb, ss⟩) e : Int) ∧ Below w5.heap.size w5 wx)
                case first =>
                  as_aux_lemma =>  --<9
                    go_wp2
                    go_loopg [34, 33] e (fun gk i v wr => ∃ k : Nat, k ≤ e ∧ gk = e - k ∧ i = .int .i64 k ∧ v = .int .i64 (cntP (fun i => liveK κ r D i && (κ i).mk.near ⟨a, bb, ss⟩) k : Int) ∧ Below w5.heap.size w5 wr)
                    case atStart => exact ⟨0, by omega, by omega, rfl, rfl, Below.refl _ _⟩
                    case round =>
                      obtain ⟨k, hk, rfl, rfl, rfl, hb⟩ := hrel
                      have HBR := hide hb
                      have hcle := cntP_le (fun i => liveK κ r D i && (κ i).mk.near ⟨a, bb, ss⟩) k
                      obtain ⟨C, hC⟩ : ∃ C, C = cntP (fun i => liveK κ r D i && (κ i).mk.near ⟨a, bb, ss⟩) k := ⟨_, rfl⟩
                      rw [← hC] at hcle ⊢
                      have HC := hide hC
                      clear hC Hgc
                      by_cases hlt : k < e
                      · have hkz : (k : Int) < (e : Int) := by omega
                        have hkz2 : (k : Int) < (n : Int) := by omega
                        have hF := HF4.out.kept hb
                        have ck := hF.sw.ck k (by omega)
                        have cl := hF.live k (by omega)
                        have m0 := hF.m0
                        have m1 := hF.m1
                        have m2 := hF.m2
                        have hG : G26 < wr.heap.size := World.block_lt_of_cell? _ _ m0
                        clear hb hF
                        obtain ⟨p, q, t, hm⟩ : ∃ p q t, (κ k).mk = ⟨p, q, t⟩ := ⟨_, _, _, rfl⟩
                        have hnr : (κ k).mk.near ⟨a, bb, ss⟩ = ((p == a) && (q == bb) && ((t.size : Int) == (ss.size : Int))) := by rw [hm]; rfl
                        have HNX : ∀ x y : Bool, liveK κ r D k = x → (κ k).mk.near ⟨a, bb, ss⟩ = y → Hid (cntP (fun i => liveK κ r D i && (κ i).mk.near ⟨a, bb, ss⟩) (k + 1) = C + (if (x && y) then 1 else 0)) := fun x y hx hy => by
                          show _ = _
                          rw [cntP_succ, ← HC.out, hx, hy]
                        cases hl : liveK κ r D k with
                        | false =>
                          rw [hl] at cl
                          have Hnx := HNX false _ hl rfl
                          clear hl hm hnr HNX m0 m1 m2
                          go_wp2
                          go_roundg (e - (k + 1))
                          case measure => omega
                          case rel => exact ⟨k + 1, by omega, rfl, by go_num, by rw [Hnx.out]; simp, HBR.out⟩
                        | true =>
                          rw [hl] at cl
                          have hnn : κ k ≠ .nil := by
                            intro h
                            unfold liveK at hl
                            rw [h] at hl
                            cases hl
                          have HAM := fun W => hide (amk_at (κ k) hnn p q t hm W)
                          have HNX2 := fun y => HNX true y hl
                          clear hl hnn hm HNX
                          have HB2 : ∀ o o', Hid (Below w5.heap.size w5 ((wr.alloc o).alloc o')) := fun o o' => (HBR.out.alloc HBR.out.size o).alloc (by have := HBR.out.size; simp; omega) o'
                          by_cases hN : ((p == a) && (q == bb) && ((t.size : Int) == (ss.size : Int))) = true
                          · have Hnx := HNX2 true (by rw [hnr, hN])
                            simp only [Bool.and_eq_true, beq_iff_eq] at hN
                            obtain ⟨⟨e1, e2⟩, e3⟩ := hN
                            subst e1 e2
                            clear hnr HNX2
                            go_wp2_with fail
                            refine (HAM _).out.mono ?_
                            rintro ev w' ⟨rfl, cs, rfl⟩
                            go_wp2
                            go_roundg (e - (k + 1))
                            case measure => omega
                            case rel => exact ⟨k + 1, by omega, rfl, by go_num, by rw [Hnx.out]; go_num, (HB2 _ _).out⟩
                          · have Hnx := HNX2 false (by rw [hnr]; simpa using hN)
                            clear hnr HNX2
                            by_cases e1 : p = a
                            · subst e1
                              by_cases e2 : q = bb
                              · subst e2
                                have e3 : ¬ ((t.size : Int) = (ss.size : Int)) := by simpa using hN
                                clear hN
                                go_wp2_with fail
                                refine (HAM _).out.mono ?_
                                rintro ev w' ⟨rfl, cs, rfl⟩
                                go_wp2
                                go_roundg (e - (k + 1))
                                case measure => omega
                                case rel => exact ⟨k + 1, by omega, rfl, by go_num, by rw [Hnx.out]; simp, (HB2 _ _).out⟩
                              · clear hN
                                go_wp2_with fail
                                refine (HAM _).out.mono ?_
                                rintro ev w' ⟨rfl, cs, rfl⟩
                                go_wp2
                                go_roundg (e - (k + 1))
                                case measure => omega
                                case rel => exact ⟨k + 1, by omega, rfl, by go_num, by rw [Hnx.out]; simp, (HB2 _ _).out⟩
                            · clear hN
                              go_wp2_with fail
                              refine (HAM _).out.mono ?_
                              rintro ev w' ⟨rfl, cs, rfl⟩
                              go_wp2
                              go_roundg (e - (k + 1))
                              case measure => omega
                              case rel => exact ⟨k + 1, by omega, rfl, by go_num, by rw [Hnx.out]; simp, (HB2 _ _).out⟩
                      · go_wp2
                        go_meet
                        case rel => obtain rfl : k = e := by omega
                                    exact ⟨by rw [HC.out], HBR.out⟩
                  -->9
                case rest =>
                  rename World => w6
                  obtain ⟨rfl, hb6⟩ := hcut
                  have HF6 := hide (HF4.out.kept hb6)
                  clear HF4 hb6
                  rw [← Hgc.out]
                  clear Hgc
                  have cK := HF6.out.sw.cK
                  have cV := HF6.out.cV
                  go_upto_block 10 with fail
                  clear cK cV
                  go_cut [] from 241 to 268 (fun wx => Below w6.heap.size w6 wx)
                  case first =>
                    as_aux_lemma =>  --<10
                      go_wp2
                      go_loopg [36] n (fun gk i wr => ∃ k : Nat, k ≤ n ∧ gk = n - k ∧ i = .int .i64 k ∧ Below w6.heap.size w6 wr)
                      case atStart => exact ⟨0, by omega, by omega, rfl, Below.refl _ _⟩
                      case round =>
                        obtain ⟨k, hk, rfl, rfl, hb⟩ := hrel
                        have HBR := hide hb
                        by_cases hlt : k < n
                        · have hkz : (k : Int) < (n : Int) := by omega
                          have hF := HF6.out.kept hb
                          have ck := hF.sw.ck k hlt
                          have cb := hF.be k hlt
                          have cK := hF.sw.cK
                          have cV := hF.cV
                          have cv := hF.vals k hlt
                          have HSM := fun W => hide (same (κ k) W)
                          clear hb hF
                          go_wp2_with fail
                          go_quiet ((go_at_call 8; refine Calls.quiet_of_same ((HSM _).out)))
                          go_wp2
                          go_roundg (n - (k + 1))
                          case measure => omega
                          case rel => exact ⟨k + 1, by omega, rfl, by go_num, below_drewN HBR.out _⟩
                        · go_wp2
                          go_meet
                          case rel => exact hb
                    -->10
                  case rest =>
                    rename World => w7
                    have HF7 := hide (HF6.out.kept hcut)
                    clear HF6 hcut
                    have cP := HF7.out.sw.cP
                    cases r with
                    | none =>
                      as_aux_lemma =>  --<11
                        have hl := fun ty w => Maps.len_nil (P := Yba.prog) (w := w) (t := 32) (k := 3) (e := 3) Yba.underlying32 ty
                        have hlp : lenP none D = 0 := rfl
                        rw [hlp]
                        go_wp2
                        go_ret
                        exact ⟨rfl, HF7.out.below⟩
                      -->11
                    | some b =>
                      as_aux_lemma =>  --<12
                        have hown := HF7.out.sw.pm b rfl
                        have hl := fun ty => hown.len Yba.underlying32 ty
                        have hlp : lenP (some b) D = (Maps.size D : Int) := rfl
                        rw [hlp]
                        go_wp2
                        go_ret
                        exact ⟨rfl, HF7.out.below⟩
                      -->12

set_option maxRecDepth 100000 in
theorem longA (ao0 : Option Addr) (n cap0 : Nat) (pOn : Bool) (ao2 : Option Addr) (m cap2 : Nat) (d0 : KD) (pick pf : Int) (w : World) (h : 65536 < n ∨ 65536 < m) (h63 : n ≤ 9223372036854775807) (hm63 : m ≤ 9223372036854775807) :
    Calls Yba.prog 3 #[.slice ao0 n cap0, .bool pOn, .slice ao2 m cap2, .agg #[.int .u8 d0.kd, .int .i64 d0.ii, .float .f64 d0.ff, .string d0.ss, .bool d0.nl], .int .u8 pick, .int .u32 pf] w fun e w' => e = .returned (.bool true) ∧ Below w.heap.size w w' := by
  by_cases hn : 65536 < n
  · have hz : (65536 : Int) < (n : Int) := by omega
    go_enter Yba.func3, Yba.ntmps3
    go_wp2
    go_ret
    exact ⟨rfl, (Below.refl _ _).alloc (Nat.le_refl _) _⟩
  · have hz : (n : Int) ≤ 65536 := by omega
    have hz2 : (65536 : Int) < (m : Int) := by omega
    go_enter Yba.func3, Yba.ntmps3
    go_wp2
    go_ret
    exact ⟨rfl, (Below.refl _ _).alloc (Nat.le_refl _) _⟩

end Go.Proofs.Ybulkexpwy
