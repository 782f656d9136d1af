import Derived.Test.YbulkexpwkCart
import Derived.Deep.Light
namespace Go.Proofs.Ybulkexpwk
open Go.RowKit
set_option linter.unusedVariables false

theorem Yba.info28 : (Yba.prog.info? 28).map (fun i => (i.zero, i.size, i.bytes)) = some (some (.agg #[.int .i64 0, .int .i32 0, .int .i32 0, .int .i32 0, .int .u8 0, .int .u64 0]), 6, 32) := by kernel_rfl
theorem Yba.info41 : (Yba.prog.info? 41).map (fun i => (i.zero, i.size, i.bytes)) = some (some (.agg #[.int .u64 0, .int .u64 0, .int .u64 0]), 3, 24) := by kernel_rfl
theorem Yba.info2 : (Yba.prog.info? 2).map (fun i => (i.zero, i.size, i.bytes)) = some (some (.int .i64 0), 1, 8) := by kernel_rfl
theorem Yba.info4 : (Yba.prog.info? 4).map (fun i => (i.zero, i.size, i.bytes)) = some (some (.bool false), 1, 1) := by kernel_rfl

/-- The nodes, the first k of them laid. -/
def NI (rk : Nat → Int) (p0 : Int) (k : Nat) (f : Nat → Value) : Prop :=
  ∀ i, (i < k → f (i * 6) = .int .i64 (i : Int) ∧ f (i * 6 + 4) = .int .u8 ((i : Int) % 256) ∧ f (i * 6 + 5) = .int .u64 (rk i)) ∧ f (i * 6 + 1) = .int .i32 (if i = 0 then p0 else 0) ∧ f (i * 6 + 2) = .int .i32 0 ∧ f (i * 6 + 3) = .int .i32 0

def s00 (p0 K : Int) (G : Nat → Int) : St := ⟨fun _ => 0, fun _ => 0, fun i => if i = 0 then p0 else 0, G, K⟩

theorem NI.nodes {rk : Nat → Int} {p0 : Int} {n : Nat} {f : Nat → Value} (h : NI rk p0 (n + 1) f) (K : Int) (G : Nat → Int) (j : Nat) (hj : j < (n + 1) * 6) : f j = nodeCell rk (s00 p0 K G) j := by
  obtain ⟨h0, h1, h2, h3⟩ := h (j / 6)
  obtain ⟨a0, a4, a5⟩ := h0 (by omega)
  have hj : j % 6 = 0 ∨ j % 6 = 1 ∨ j % 6 = 2 ∨ j % 6 = 3 ∨ j % 6 = 4 ∨ j % 6 = 5 := by omega
  rcases hj with e | e | e | e | e | e
  · rw [show j = j / 6 * 6 by omega, node0]; exact a0
  · rw [show j = j / 6 * 6 + 1 by omega, node1]; exact h1
  · rw [show j = j / 6 * 6 + 2 by omega, node2]; exact h2
  · rw [show j = j / 6 * 6 + 3 by omega, node3]; exact h3
  · rw [show j = j / 6 * 6 + 4 by omega, node4]; exact a4
  · rw [show j = j / 6 * 6 + 5 by omega, node5]; exact a5

theorem NI.step {rk : Nat → Int} {p0 : Int} {k : Nat} {f : Nat → Value} (h : NI rk p0 k f) : NI rk p0 (k + 1) (fun j => if j = k * 6 + 4 then .int .u8 ((k : Int) % 256) else if j = k * 6 then .int .i64 (k : Int) else if j = k * 6 + 5 then .int .u64 (rk k) else f j) := by
  intro i
  obtain ⟨h0, h1, h2, h3⟩ := h i
  refine ⟨fun hi => ?_, ?_, ?_, ?_⟩
  · by_cases e : i = k
    · subst e
      refine ⟨?_, ?_, ?_⟩
      · simp
      · simp
      · simp
    · obtain ⟨a0, a4, a5⟩ := h0 (by omega)
      refine ⟨?_, ?_, ?_⟩
      · simp only []; rw [if_neg (by omega), if_neg (by omega), if_neg (by omega)]; exact a0
      · simp only []; rw [if_neg (by omega), if_neg (by omega), if_neg (by omega)]; exact a4
      · simp only []; rw [if_neg (by omega), if_neg (by omega), if_neg (by omega)]; exact a5
  · simp only []; rw [if_neg (by omega), if_neg (by omega), if_neg (by omega)]; exact h1
  · simp only []; rw [if_neg (by omega), if_neg (by omega), if_neg (by omega)]; exact h2
  · simp only []; rw [if_neg (by omega), if_neg (by omega), if_neg (by omega)]; exact h3

/-- What make lays for the nodes. -/
def z28 (j : Nat) : Value := match j % 6 with | 0 => .int .i64 0 | 1 => .int .i32 0 | 2 => .int .i32 0 | 3 => .int .i32 0 | 4 => .int .u8 0 | _ => .int .u64 0
theorem made28 (m j : Nat) (hj : j < m) : (madeCells (Value.agg #[.int .i64 0, .int .i32 0, .int .i32 0, .int .i32 0, .int .u8 0, .int .u64 0]).cells m)[j]? = some (z28 j) := by
  have e : (Value.agg #[.int .i64 0, .int .i32 0, .int .i32 0, .int .i32 0, .int .u8 0, .int .u64 0]).cells = #[.int .i64 0, .int .i32 0, .int .i32 0, .int .i32 0, .int .u8 0, .int .u64 0] := rfl
  rw [e]
  have hh : j % 6 = 0 ∨ j % 6 = 1 ∨ j % 6 = 2 ∨ j % 6 = 3 ∨ j % 6 = 4 ∨ j % 6 = 5 := by omega
  rcases hh with e | e | e | e | e | e <;> simp [madeCells, hj, z28, e]
theorem z28_start (rk : Nat → Int) (h0 : rk 0 = 0) (p0 : Int) : NI rk p0 1 (fun j => if j = 1 then .int .i32 p0 else z28 j) := by
  intro i
  have e0 : i * 6 % 6 = 0 := by omega
  have e1 : (i * 6 + 1) % 6 = 1 := by omega
  have e2 : (i * 6 + 2) % 6 = 2 := by omega
  have e3 : (i * 6 + 3) % 6 = 3 := by omega
  refine ⟨fun hi => ?_, ?_, ?_, ?_⟩
  · obtain rfl : i = 0 := by omega
    simp [z28, h0]
  · by_cases e : i = 0
    · subst e; simp
    · simp only []; rw [if_neg (by omega), if_neg e]; simp [z28, e1]
  · simp only []; rw [if_neg (by omega)]; simp [z28, e2]
  · simp only []; rw [if_neg (by omega)]; simp [z28, e3]

/-- After the first loop. -/
structure M1 (w wc : World) (n k : Nat) (rk : Nat → Int) (p0 : Int) : Prop where
  below : Below w.heap.size w wc
  size : wc.heap.size = w.heap.size + 3
  nodes : ∃ f, wc.rowIs w.heap.size 28 ((n + 1) * 6) f ∧ NI rk p0 k f
  own : ∃ o : Nat → Int, wc.rowIs (w.heap.size + 1) 2 (n + 1) (fun i => .int .i64 (o i))
  agg : ∃ g : Nat → Int, wc.rowIs (w.heap.size + 2) 2 (n + 1) (fun i => .int .i64 (g i))

theorem updI (o : Nat → Int) (k : Nat) (v : Int) (j : Nat) : (if j = k then Value.int .i64 v else .int .i64 (o j)) = .int .i64 (upd o k v j) := by
  unfold upd; split <;> rfl

theorem M1.laid {w wr : World} {n k : Nat} {rk : Nat → Int} {p0 : Int} (h : M1 w wr n k rk p0) :
    M1 w (((wr.setCell ⟨w.heap.size, k * 6 + 5, none⟩ (.int .u64 (rk k))).setCell ⟨w.heap.size, k * 6, none⟩ (.int .i64 (k : Int))).setCell ⟨w.heap.size, k * 6 + 4, none⟩ (.int .u8 ((k : Int) % 256))) n (k + 1) rk p0 := by
  obtain ⟨hb, hs, ⟨f, hf, hN⟩, ⟨o, ho⟩, ⟨g, hg⟩⟩ := h
  refine ⟨((hb.setCell (Nat.le_refl _) _).setCell (Nat.le_refl _) _).setCell (Nat.le_refl _) _, by simpa using hs, ⟨_, ((hf.set _ _).set _ _).set _ _, hN.step⟩, ⟨o, ?_⟩, ⟨g, ?_⟩⟩
  · exact ((ho.setOther (by simp) _).setOther (by simp) _).setOther (by simp) _
  · exact ((hg.setOther (by simp) _).setOther (by simp) _).setOther (by simp) _
theorem M1.setOwn {w wr : World} {n k : Nat} {rk : Nat → Int} {p0 : Int} (h : M1 w wr n k rk p0) (j : Nat) (v : Int) : M1 w (wr.setCell ⟨w.heap.size + 1, j, none⟩ (.int .i64 v)) n k rk p0 := by
  obtain ⟨hb, hs, ⟨f, hf, hN⟩, ⟨o, ho⟩, ⟨g, hg⟩⟩ := h
  exact ⟨hb.setCell (by simp) _, by simpa using hs, ⟨f, hf.setOther (by simp) _, hN⟩, ⟨_, (ho.set j _).congr (fun i _ => updI o j v i)⟩, ⟨g, hg.setOther (by simp) _⟩⟩
theorem M1.setAgg {w wr : World} {n k : Nat} {rk : Nat → Int} {p0 : Int} (h : M1 w wr n k rk p0) (j : Nat) (v : Int) : M1 w (wr.setCell ⟨w.heap.size + 2, j, none⟩ (.int .i64 v)) n k rk p0 := by
  obtain ⟨hb, hs, ⟨f, hf, hN⟩, ⟨o, ho⟩, ⟨g, hg⟩⟩ := h
  exact ⟨hb.setCell (by simp) _, by simpa using hs, ⟨f, hf.setOther (by simp) _, hN⟩, ⟨o, ho.setOther (by simp) _⟩, ⟨_, (hg.set j _).congr (fun i _ => updI g j v i)⟩⟩
theorem tmod_nat (k m : Nat) (hk : 1 ≤ k) : Int.tmod ((k : Int) - 1) (m : Int) = (((k - 1) % m : Nat) : Int) := by
  rw [show (k : Int) - 1 = ((k - 1 : Nat) : Int) by omega]; rfl

/-- After the two trees: the links are laid. -/
structure M2 (w wc : World) (n : Nat) (rk own : Nat → Int) (s : St) : Prop where
  below : Below w.heap.size w wc
  size : w.heap.size + 3 ≤ wc.heap.size
  nodes : wc.rowIs w.heap.size 28 ((n + 1) * 6) (nodeCell rk s)
  ok : Ok n s.L s.R
  inb : InB n s
  own : wc.rowIs (w.heap.size + 1) 2 (n + 1) (fun i => .int .i64 (own i))
  agg : wc.rowIs (w.heap.size + 2) 2 (n + 1) (fun i => .int .i64 (s.G i))

theorem M1.nds {w wc : World} {n : Nat} {rk : Nat → Int} {p0 : Int} (h : M1 w wc n (n + 1) rk p0) : Nodes wc w.heap.size n rk := by
  obtain ⟨f, hf, hN⟩ := h.nodes
  exact ⟨s00 p0 0 (fun _ => 0), hf.congr (fun j hj => hN.nodes 0 _ j hj), ⟨fun _ => .inl rfl, fun _ => .inl rfl⟩⟩

theorem M1.two {w wc w1 w2 : World} {n : Nat} {rk : Nat → Int} {p0 : Int} (h : M1 w wc n (n + 1) rk p0) (g1 : wc.grownBy w1 (some w.heap.size)) (g2 : w1.grownBy w2 (some w.heap.size)) (hN : Nodes w2 w.heap.size n rk) (kept : Int) :
    ∃ own s, M2 w w2 n rk own s ∧ s.K = kept := by
  obtain ⟨o, ho⟩ := h.own
  obtain ⟨g, hg⟩ := h.agg
  obtain ⟨s, hs1, hs2⟩ := hN
  have e := h.size
  have e1 := g1.size
  have e2 := g2.size
  have bl : ∀ k, k < wc.heap.size → k ≠ w.heap.size → w2.heap[k]? = wc.heap[k]? := fun k hk hne =>
    (g2.block k (by omega) (by simp; omega)).trans (g1.block k hk (by simp; omega))
  have hL : ∀ x, (if x ≤ n then s.L x else 0) = 0 ∨ (if x ≤ n then s.L x else 0) < x := fun x => by
    split
    · exact hs2.left x
    · exact .inl rfl
  refine ⟨o, { s with L := fun x => if x ≤ n then s.L x else 0, G := g, K := kept }, ⟨?_, by omega, hs1.congr (fun j hj => ?_), ⟨hL, hs2.right⟩, fun x => ⟨?_, by rcases hs2.right x with e | e <;> simp only [] <;> omega⟩, ho.of_block (bl _ (by omega) (by omega)), hg.of_block (bl _ (by omega) (by omega))⟩, rfl⟩
  · exact (h.below.grown g1 (by omega) (fun k hk => by simp at hk; omega)).grown g2 (by omega) (fun k hk => by simp at hk; omega)
  · have hq : j / 6 ≤ n := by omega
    unfold nodeCell
    simp only [if_pos hq]
  · simp only []
    split
    · rcases hs2.left x with e | e <;> omega
    · omega

/-- The law's own tables, in the state t. -/
structure Tab (w : World) (B n : Nat) (t : St) (ow : Nat → Int) : Prop where
  l : w.rowIs B 21 (n + 1) (fun i => .int .i32 ((t.L i : Nat) : Int))
  r : w.rowIs (B + 1) 21 (n + 1) (fun i => .int .i32 ((t.R i : Nat) : Int))
  p : w.rowIs (B + 2) 21 (n + 1) (fun i => .int .i32 (t.P i))
  g : w.rowIs (B + 3) 2 (n + 1) (fun i => .int .i64 (t.G i))
  o : w.rowIs (B + 4) 2 (n + 1) (fun i => .int .i64 (ow i))

theorem upd32 (o : Nat → Int) (k : Nat) (v : Int) (j : Nat) : (if j = k then Value.int .i32 v else .int .i32 (o j)) = .int .i32 (upd o k v j) := by
  unfold upd; split <;> rfl
theorem updN (o : Nat → Nat) (k v : Nat) (j : Nat) : (if j = k then Value.int .i32 (v : Int) else .int .i32 ((o j : Nat) : Int)) = .int .i32 ((upd o k v j : Nat) : Int) := by
  unfold upd; split <;> rfl
theorem Tab.setL {w : World} {B n : Nat} {t : St} {ow : Nat → Int} (h : Tab w B n t ow) (i v : Nat) : Tab (w.setCell ⟨B, i, none⟩ (.int .i32 (v : Int))) B n { t with L := upd t.L i v } ow :=
  ⟨(h.l.set i _).congr (fun j _ => updN t.L i v j), h.r.setOther (by simp) _, h.p.setOther (by simp) _, h.g.setOther (by simp) _, h.o.setOther (by simp) _⟩
theorem Tab.setR {w : World} {B n : Nat} {t : St} {ow : Nat → Int} (h : Tab w B n t ow) (i v : Nat) : Tab (w.setCell ⟨B + 1, i, none⟩ (.int .i32 (v : Int))) B n { t with R := upd t.R i v } ow :=
  ⟨h.l.setOther (by simp) _, (h.r.set i _).congr (fun j _ => updN t.R i v j), h.p.setOther (by simp) _, h.g.setOther (by simp) _, h.o.setOther (by simp) _⟩
theorem Tab.setP {w : World} {B n : Nat} {t : St} {ow : Nat → Int} (h : Tab w B n t ow) (i : Nat) (v : Int) : Tab (w.setCell ⟨B + 2, i, none⟩ (.int .i32 v)) B n { t with P := upd t.P i v } ow :=
  ⟨h.l.setOther (by simp) _, h.r.setOther (by simp) _, (h.p.set i _).congr (fun j _ => upd32 t.P i v j), h.g.setOther (by simp) _, h.o.setOther (by simp) _⟩
theorem Tab.setG {w : World} {B n : Nat} {t : St} {ow : Nat → Int} (h : Tab w B n t ow) (i : Nat) (v : Int) : Tab (w.setCell ⟨B + 3, i, none⟩ (.int .i64 v)) B n { t with G := upd t.G i v } ow :=
  ⟨h.l.setOther (by simp) _, h.r.setOther (by simp) _, h.p.setOther (by simp) _, (h.g.set i _).congr (fun j _ => updI t.G i v j), h.o.setOther (by simp) _⟩
theorem Tab.setO {w : World} {B n : Nat} {t : St} {ow : Nat → Int} (h : Tab w B n t ow) (i : Nat) (v : Int) : Tab (w.setCell ⟨B + 4, i, none⟩ (.int .i64 v)) B n t (upd ow i v) :=
  ⟨h.l.setOther (by simp) _, h.r.setOther (by simp) _, h.p.setOther (by simp) _, h.g.setOther (by simp) _, (h.o.set i _).congr (fun j _ => updI ow i v j)⟩

/-- The first k of the tables are copied. -/
structure Cop (w2 wr : World) (n k : Nat) (s : St) (own : Nat → Int) : Prop where
  below : Below w2.heap.size w2 wr
  size : wr.heap.size = w2.heap.size + 5
  tab : ∃ t ow, Tab wr w2.heap.size n t ow ∧ ∀ i, i < k → t.L i = s.L i ∧ t.R i = s.R i ∧ t.P i = s.P i ∧ t.G i = s.G i ∧ ow i = own i

theorem Cop.step {w2 wr : World} {n k : Nat} {s : St} {own : Nat → Int} (h : Cop w2 wr n k s own) :
    Cop w2 (((((wr.setCell ⟨w2.heap.size, k, none⟩ (.int .i32 ((s.L k : Nat) : Int))).setCell ⟨w2.heap.size + 1, k, none⟩ (.int .i32 ((s.R k : Nat) : Int))).setCell ⟨w2.heap.size + 2, k, none⟩ (.int .i32 (s.P k))).setCell ⟨w2.heap.size + 3, k, none⟩ (.int .i64 (s.G k))).setCell ⟨w2.heap.size + 4, k, none⟩ (.int .i64 (own k))) n (k + 1) s own := by
  obtain ⟨hb, hs, t, ow, ht, hi⟩ := h
  refine ⟨((((hb.setCell (by simp) _).setCell (by simp) _).setCell (by simp) _).setCell (by simp) _).setCell (by simp) _, by simpa using hs, _, _, ((((ht.setL k _).setR k _).setP k _).setG k _).setO k _, fun i hk => ?_⟩
  by_cases e : i = k
  · subst e; simp [upd]
  · simp only [upd, if_neg e]; exact hi i (by omega)
theorem Cop.tabs {w2 wr : World} {n : Nat} {s : St} {own : Nat → Int} (h : Cop w2 wr n (n + 1) s own) : Tab wr w2.heap.size n s own := by
  obtain ⟨hb, hs, t, ow, ht, hi⟩ := h
  exact ⟨ht.l.congr (fun i h => by rw [(hi i h).1]), ht.r.congr (fun i h => by rw [(hi i h).2.1]), ht.p.congr (fun i h => by rw [(hi i h).2.2.1]), ht.g.congr (fun i h => by rw [(hi i h).2.2.2.1]), ht.o.congr (fun i h => by rw [(hi i h).2.2.2.2])⟩
theorem Cop.start (w2 : World) (n : Nat) (s : St) (own : Nat → Int) (M21 M2 : Array Value) (h1 : M21 = madeCells #[Value.int .i32 0] (n + 1)) (h2 : M2 = madeCells #[Value.int .i64 0] (n + 1)) :
    Cop w2 (((((w2.alloc (.cells M21 21)).alloc (.cells M21 21)).alloc (.cells M21 21)).alloc (.cells M2 2)).alloc (.cells M2 2)) n 0 s own := by
  subst h1 h2
  refine ⟨((((((Below.refl _ _).alloc (Nat.le_refl _) _).alloc (by simp) _).alloc (by simp; omega) _).alloc (by simp; omega) _).alloc (by simp; omega) _), by simp, ⟨fun _ => 0, fun _ => 0, fun _ => 0, fun _ => 0, 0⟩, fun _ => 0, ⟨?_, ?_, ?_, ?_, ?_⟩, fun i hi => by omega⟩
  · exact ((((World.rowIs_made w2 (.int .i32 0) (n + 1) 21).alloc _).alloc _).alloc _).alloc _
  · have := (((World.rowIs_made (w2.alloc (.cells (madeCells #[Value.int .i32 0] (n + 1)) 21)) (.int .i32 0) (n + 1) 21).alloc (.cells (madeCells #[Value.int .i32 0] (n + 1)) 21)).alloc (.cells (madeCells #[Value.int .i64 0] (n + 1)) 2)).alloc (.cells (madeCells #[Value.int .i64 0] (n + 1)) 2)
    simpa using this
  · have := ((World.rowIs_made ((w2.alloc (.cells (madeCells #[Value.int .i32 0] (n + 1)) 21)).alloc (.cells (madeCells #[Value.int .i32 0] (n + 1)) 21)) (.int .i32 0) (n + 1) 21).alloc (.cells (madeCells #[Value.int .i64 0] (n + 1)) 2)).alloc (.cells (madeCells #[Value.int .i64 0] (n + 1)) 2)
    simpa using this
  · have := (World.rowIs_made (((w2.alloc (.cells (madeCells #[Value.int .i32 0] (n + 1)) 21)).alloc (.cells (madeCells #[Value.int .i32 0] (n + 1)) 21)).alloc (.cells (madeCells #[Value.int .i32 0] (n + 1)) 21)) (.int .i64 0) (n + 1) 2).alloc (.cells (madeCells #[Value.int .i64 0] (n + 1)) 2)
    simpa using this
  · have := World.rowIs_made ((((w2.alloc (.cells (madeCells #[Value.int .i32 0] (n + 1)) 21)).alloc (.cells (madeCells #[Value.int .i32 0] (n + 1)) 21)).alloc (.cells (madeCells #[Value.int .i32 0] (n + 1)) 21)).alloc (.cells (madeCells #[Value.int .i64 0] (n + 1)) 2)) (.int .i64 0) (n + 1) 2
    simpa using this

def nums (ps : List (Nat × Bool)) : List Value := ps.map fun q => Value.int .i32 (q.1 : Int)
def flags (ps : List (Nat × Bool)) : List Value := ps.map fun q => Value.bool q.2

/-- Two own rows of two types lie apart. -/
theorem own_apart {w : World} {B e e' g g' n n' cap cap' : Nat} {xs xs' : List Value} (hee : e ≠ e') (h : w.ownsRow B e 1 (.slice (some ⟨g, 0, none⟩) n cap) n xs) (h' : w.ownsRow B e' 1 (.slice (some ⟨g', 0, none⟩) n' cap') n' xs') : g ≠ g' := by
  intro e0
  rcases h.2 with ⟨h0, _⟩ | ⟨g1, cap1, cur, h1, _, hg, _⟩
  · simp at h0
  · rcases h'.2 with ⟨h0, _⟩ | ⟨g2, cap2, cur2, h2, _, hg2, _⟩
    · simp at h0
    · simp only [Value.slice.injEq, Option.some.injEq, Addr.mk.injEq, and_true, true_and] at h1 h2
      rw [← h1.1, e0, h2.1, hg2] at hg
      simp at hg
      exact hee hg.2.symm

/-- Where the zip stands. -/
structure Zs (wc wr : World) (gp cp gf cf : Nat) (dn : List (Nat × Bool)) : Prop where
  p : wr.ownsRow wc.heap.size 21 1 (.slice (some ⟨gp, 0, none⟩) dn.length cp) dn.length (nums dn)
  f : wr.ownsRow wc.heap.size 4 1 (.slice (some ⟨gf, 0, none⟩) dn.length cf) dn.length (flags dn)
  below : Below wc.heap.size wc wr

theorem Zs.apart {wc wr : World} {gp cp gf cf : Nat} {dn : List (Nat × Bool)} (h : Zs wc wr gp cp gf cf dn) : gp ≠ gf := own_apart (by decide) h.p h.f

/-- Only the five tables may have turned. -/
structure FrT (B : Nat) (w w' : World) : Prop where
  os : w'.os = w.os
  tape : w'.tape = w.tape
  output : w'.output = w.output
  size : w'.heap.size = w.heap.size
  block : ∀ k, (k < B ∨ B + 5 ≤ k) → w'.heap[k]? = w.heap[k]?
theorem FrT.refl (B : Nat) (w : World) : FrT B w w := ⟨rfl, rfl, rfl, rfl, fun _ _ => rfl⟩
theorem FrT.trans {B : Nat} {w w' w'' : World} (h : FrT B w w') (k : FrT B w' w'') : FrT B w w'' :=
  ⟨k.os.trans h.os, k.tape.trans h.tape, k.output.trans h.output, k.size.trans h.size, fun x hx => (k.block x hx).trans (h.block x hx)⟩
theorem FrT.set {B : Nat} {w w' : World} (h : FrT B w w') {x : Addr} (h1 : B ≤ x.block) (h2 : x.block < B + 5) (v : Value) : FrT B w (w'.setCell x v) :=
  h.trans ⟨rfl, rfl, rfl, by simp, fun k hk => Below.heap_setCell _ _ _ _ (by omega)⟩
theorem FrT.drewN {B : Nat} {w w' : World} (h : FrT B w w') (q : Nat) : FrT B w (w'.drewN q) := h.trans ⟨rfl, rfl, rfl, rfl, fun _ _ => rfl⟩

/-- The tables in the state t; all else as in wz. -/
structure TT (wz wx : World) (B n : Nat) (t : St) (ow : Nat → Int) : Prop where
  tab : Tab wx B n t ow
  fr : FrT B wz wx
theorem TT.setL {wz w : World} {B n : Nat} {t : St} {ow : Nat → Int} (h : TT wz w B n t ow) (i v : Nat) : TT wz (w.setCell ⟨B, i, none⟩ (.int .i32 (v : Int))) B n { t with L := upd t.L i v } ow := ⟨h.tab.setL i v, h.fr.set (by simp) (by simp) _⟩
theorem TT.setR {wz w : World} {B n : Nat} {t : St} {ow : Nat → Int} (h : TT wz w B n t ow) (i v : Nat) : TT wz (w.setCell ⟨B + 1, i, none⟩ (.int .i32 (v : Int))) B n { t with R := upd t.R i v } ow := ⟨h.tab.setR i v, h.fr.set (by simp) (by simp) _⟩
theorem TT.setP {wz w : World} {B n : Nat} {t : St} {ow : Nat → Int} (h : TT wz w B n t ow) (i : Nat) (v : Int) : TT wz (w.setCell ⟨B + 2, i, none⟩ (.int .i32 v)) B n { t with P := upd t.P i v } ow := ⟨h.tab.setP i v, h.fr.set (by simp) (by simp) _⟩
theorem TT.setG {wz w : World} {B n : Nat} {t : St} {ow : Nat → Int} (h : TT wz w B n t ow) (i : Nat) (v : Int) : TT wz (w.setCell ⟨B + 3, i, none⟩ (.int .i64 v)) B n { t with G := upd t.G i v } ow := ⟨h.tab.setG i v, h.fr.set (by simp) (by simp) _⟩
theorem TT.drewN {wz w : World} {B n : Nat} {t : St} {ow : Nat → Int} (h : TT wz w B n t ow) (q : Nat) : TT wz (w.drewN q) B n t ow := ⟨⟨h.tab.l, h.tab.r, h.tab.p, h.tab.g, h.tab.o⟩, h.fr.drewN q⟩

theorem upS_drop (stale : Bool) (own : Nat → Int) (ps : List (Nat × Bool)) (rest : Nat) (s : St) (j : Nat) (hj : j < ps.length) :
    upS stale own (ps.drop j) rest s = (ps[j].1, stepS stale own ps[j].1 ps[j].2 (upS stale own (ps.drop (j + 1)) rest s).1 (upS stale own (ps.drop (j + 1)) rest s).2) := by
  rw [List.drop_eq_getElem_cons hj]; rfl
theorem upS_one (stale : Bool) (own : Nat → Int) (ps : List (Nat × Bool)) (rest : Nat) (s : St) (j : Nat) :
    (upS stale own (ps.drop j) rest s).1 = if h : j < ps.length then ps[j].1 else rest := by
  by_cases h : j < ps.length
  · rw [dif_pos h, upS_drop stale own ps rest s j h]
  · rw [dif_neg h, List.drop_of_length_le (by omega)]; rfl

theorem trp_row (w : World) (NB AB OB n : Nat) (stale : Bool) (kv : Value) (K : Int) :
    (w.alloc (.cells #[Value.nilFunc, .nilFunc, .int .i64 1, .int .i64 0, .int .i64 1, .slice none 0 0, .int .i32 0, .int .i32 0, .string { data := #[] }, .slice (some ⟨NB, 0, none⟩) (n + 1) (n + 1), kv, .slice (some ⟨OB, 0, none⟩) (n + 1) (n + 1), .slice (some ⟨AB, 0, none⟩) (n + 1) (n + 1), .slice none 0 0, .int .i32 0, .int .i32 0, .int .i32 0, .int .u64 0, .bool stale, .bool false, .bool false, .int .i64 K, .pointer none] 38)).rowIs w.heap.size 38 23 (trpCell NB AB OB n stale kv K) :=
  World.rowIs_alloc w _ 38 (trpCell NB AB OB n stale kv K) fun i hi => by
    match i, hi with
    | 0, _ => rfl | 1, _ => rfl | 2, _ => rfl | 3, _ => rfl | 4, _ => rfl | 5, _ => rfl | 6, _ => rfl | 7, _ => rfl | 8, _ => rfl | 9, _ => rfl | 10, _ => rfl | 11, _ => rfl
    | 12, _ => rfl | 13, _ => rfl | 14, _ => rfl | 15, _ => rfl | 16, _ => rfl | 17, _ => rfl | 18, _ => rfl | 19, _ => rfl | 20, _ => rfl | 21, _ => rfl | 22, _ => rfl
    | m + 23, h => exact absurd h (by simp)
theorem made41 (m j : Nat) (hj : j < m) : (madeCells (Value.agg #[.int .u64 0, .int .u64 0, .int .u64 0]).cells m)[j]? = some (.int .u64 0) := by
  have e : (Value.agg #[.int .u64 0, .int .u64 0, .int .u64 0]).cells = #[.int .u64 0, .int .u64 0, .int .u64 0] := rfl
  rw [e]
  have hh : j % 3 = 0 ∨ j % 3 = 1 ∨ j % 3 = 2 := by omega
  rcases hh with e | e | e <;> simp [madeCells, hj, e]

/-- All that the last loop reads. -/
structure Fin (w w7 : World) (T KB B n : Nat) (rk own : Nat → Int) (stale : Bool) (sF : St) : Prop where
  below : Below w.heap.size w w7
  tr : Tr w7 T w.heap.size (w.heap.size + 2) (w.heap.size + 1) n rk own stale (.slice (some ⟨KB, 0, none⟩) (n + 1) (n + 1)) sF
  tab : Tab w7 B n sF own
  keys : w7.rowIs KB 41 ((n + 1) * 3) (fun _ => .int .u64 0)

set_option maxRecDepth 100000 in
set_option maxHeartbeats 4000000 in
theorem walkB (ao0 : Option Addr) (b0 o0 n cap0 : Nat) (rk : Nat → Int) (cut : Int) (ao2 : Option Addr) (b2 o2 m2 cap2 : Nat) (W : Nat → Int) (ao3 : Option Addr) (b3 o3 m3 cap3 : Nat) (A : Nat → Int) (p0 kept : Int) (stale : Bool) (w : World)
    (hn : n ≤ 4096) (h00 : rk 0 = 0) (hc0 : 0 ≤ cut) (hc1 : cut < 18446744073709551616) (hao0 : 0 < n → ao0 = some ⟨b0, o0, none⟩) (hR : ∀ i, i < n → w.cell? ⟨b0, o0 + i, none⟩ = some (.int .u64 (rk (i + 1))))
    (hao2 : 0 < m2 → ao2 = some ⟨b2, o2, none⟩) (hW : ∀ i, i < m2 → w.cell? ⟨b2, o2 + i, none⟩ = some (.int .i64 (W i))) (hm2 : m2 ≤ maxLen)
    (hao3 : 0 < m3 → ao3 = some ⟨b3, o3, none⟩) (hA : ∀ i, i < m3 → w.cell? ⟨b3, o3 + i, none⟩ = some (.int .i64 (A i))) (hm3 : m3 ≤ maxLen) :
    Calls Yba.prog 3 #[.slice ao0 n cap0, .int .u64 cut, .slice ao2 m2 cap2, .slice ao3 m3 cap3, .int .i32 p0, .int .i64 kept, .bool stale] w fun e w' => e = .returned (.bool true) ∧ Below w.heap.size w w' := by
  obtain ⟨c, hc⟩ : ∃ c : Nat, cut % ((n : Int) + 1) = (c : Int) := ⟨(cut % ((n : Int) + 1)).toNat, by have := Int.emod_nonneg cut (show (n : Int) + 1 ≠ 0 by omega); omega⟩
  have hcn : c ≤ n := by have := Int.emod_lt_of_pos cut (show 0 < (n : Int) + 1 by omega); omega
  obtain ⟨i28, hi, hz0, hz1, hz2⟩ := info_parts Yba.info28
  obtain ⟨M28, hM28⟩ : ∃ M, M = madeCells (Value.agg #[.int .i64 0, .int .i32 0, .int .i32 0, .int .i32 0, .int .u8 0, .int .u64 0]).cells ((n + 1) * 6) := ⟨_, rfl⟩
  have hmk28 : ∀ W, (Instr.makeSlice 25 (.int .i64 ((n : Int) + 1)) (.int .i64 ((n : Int) + 1))).run Yba.prog W = .ok (.slice (some ⟨W.heap.size, 0, none⟩) (n + 1) (n + 1)) (W.alloc (.cells M28 28)) := by
    intro W
    rw [hM28]; exact run_make_any (P := Yba.prog) 25 28 i28 _ 6 32 Yba.underlying25 hi hz0 hz1 hz2 .i64 .i64 (n + 1) (by omega) (by omega) W
  clear hi hz0 hz1 hz2 i28
  obtain ⟨i2, hi, hz0, hz1, hz2⟩ := info_parts Yba.info2
  obtain ⟨M2, hM2⟩ : ∃ M, M = madeCells #[Value.int .i64 0] (n + 1) := ⟨_, rfl⟩
  have hmk2 : ∀ W, (Instr.makeSlice 24 (.int .i64 ((n : Int) + 1)) (.int .i64 ((n : Int) + 1))).run Yba.prog W = .ok (.slice (some ⟨W.heap.size, 0, none⟩) (n + 1) (n + 1)) (W.alloc (.cells M2 2)) := by
    intro W
    have e : n + 1 = (n + 1) * 1 := by omega
    rw [hM2]; exact (run_make_any (P := Yba.prog) 24 2 i2 _ 1 8 Yba.underlying24 hi hz0 hz1 hz2 .i64 .i64 (n + 1) (by omega) (by omega) W).trans (by rw [Nat.mul_one]; rfl)
  clear hi hz0 hz1 hz2 i2
  have e1 : M28[1]? = some (.int .i32 0) := by rw [hM28, made28 _ _ (by omega)]; rfl
  have HM1 : Hid (M1 w (((w.alloc (.cells (M28.setIfInBounds 1 (.int .i32 p0)) 28)).alloc (.cells M2 2)).alloc (.cells M2 2)) n 1 rk p0) := by
    have hs : (M28.setIfInBounds 1 (.int .i32 p0)).size = (n + 1) * 6 := by rw [Array.size_setIfInBounds, hM28, size_madeCells]
    refine ⟨(((Below.refl _ _).alloc (Nat.le_refl _) _).alloc (by simp) _).alloc (by simp; omega) _, by simp, ⟨_, ?_, z28_start rk h00 p0⟩, ⟨fun _ => 0, ?_⟩, ⟨fun _ => 0, ?_⟩⟩
    · rw [← hs]
      refine ((World.rowIs_alloc w _ 28 _ (fun j hj => ?_)).alloc _).alloc _
      rw [hs] at hj
      rw [Array.getElem?_setIfInBounds]
      by_cases e : j = 1
      · subst e; simp; rw [hM28, size_madeCells]; omega
      · rw [if_neg (by omega), hM28]; exact (made28 _ _ hj).trans (by rw [if_neg e])
    · have := ((World.rowIs_made (w.alloc (.cells (M28.setIfInBounds 1 (.int .i32 p0)) 28)) (.int .i64 0) (n + 1) 2).alloc (.cells M2 2))
      rw [hM2]; rw [hM2] at this; simpa using this
    · have := World.rowIs_made ((w.alloc (.cells (M28.setIfInBounds 1 (.int .i32 p0)) 28)).alloc (.cells M2 2)) (.int .i64 0) (n + 1) 2
      rw [hM2] at this ⊢; simpa using this
  have HM28 := hide hM28
  have HM2 := hide hM2
  clear hM28 hM2
  have HR := hide hR
  have HW := hide hW
  have HA := hide hA
  clear hR hW hA
  go_enter Yba.func3, Yba.ntmps3
  go_upto_block 0 with fail
  clear hmk28 e1 hc
  go_cut [20] from 68 to 124 (fun v wc => M1 w wc n (n + 1) rk p0)
  case first =>
    as_aux_lemma =>  --<1
      go_wp2
      go_loopg [20] n (fun gk i wr => ∃ k : Nat, 1 ≤ k ∧ k ≤ n + 1 ∧ gk = n + 1 - k ∧ i = .int .i64 k ∧ M1 w wr n k rk p0)
      case atStart => exact ⟨1, Nat.le_refl _, by omega, by omega, rfl, HM1.out⟩
      case round =>
        obtain ⟨k, hk1, hk2, rfl, rfl, hm⟩ := hrel
        clear HM1
        by_cases hlt : k ≤ n
        · have hkz : (k : Int) ≤ (n : Int) := by omega
          have hkz2 : (k : Int) < (n : Int) + 1 := by omega
          obtain rfl := hao0 (by omega)
          have hsz := hm.size
          obtain ⟨f, hf, hNI⟩ := hm.nodes
          obtain ⟨o, ho⟩ := hm.own
          obtain ⟨g, hg⟩ := hm.agg
          have cr : wr.cell? ⟨b0, o0 + (k - 1), none⟩ = some (.int .u64 (rk k)) := by
            have h := HR.out (k - 1) (by omega)
            rw [hm.below.cell (World.block_lt_of_cell? _ _ h), h]
            rw [show k - 1 + 1 = k by omega]
          have c5 := hf.cell (i := k * 6 + 5) (by omega)
          have c0 := hf.cell (i := k * 6) (by omega)
          have c4 := hf.cell (i := k * 6 + 4) (by omega)
          have ff : ∀ i, wr.frozen? ⟨w.heap.size, i, none⟩ = false := fun i => hf.frozen i
          have HL := hide hm.laid
          clear hf ho hg hm hsz hNI
          go_upto_if 95 with fail
          revert HL
          generalize (((wr.setCell ⟨w.heap.size, k * 6 + 5, none⟩ (.int .u64 (rk k))).setCell ⟨w.heap.size, k * 6, none⟩ (.int .i64 (k : Int))).setCell ⟨w.heap.size, k * 6 + 4, none⟩ (.int .u8 ((k : Int) % 256))) = wl
          intro HL
          clear cr c5 c0 c4 ff
          go_cut [] from 93 to 110 (fun wx => M1 w wx n (k + 1) rk p0)
          case first =>
            have hm := HL.out
            obtain ⟨o, ho⟩ := hm.own
            have y := ho.cell (i := k) (by omega)
            have fy := ho.frozen k
            rcases Nat.eq_zero_or_pos m2 with rfl | e
            · clear hm ho
              go_wp2
              go_meet
              case rel => exact HL.out.setOwn _ _
            · obtain rfl := hao2 e
              obtain ⟨q, hq⟩ : ∃ q, q = (k - 1) % m2 := ⟨_, rfl⟩
              have hq2 : q < m2 := by rw [hq]; exact Nat.mod_lt _ e
              have tm := tmod_nat k m2 hk1
              rw [← hq] at tm
              have hqz : (q : Int) < (m2 : Int) := by omega
              have x := HW.out q hq2
              rw [← hm.below.cell (World.block_lt_of_cell? _ _ x)] at x
              have hm63 : m2 ≤ 9223372036854775807 := by have := hm2; unfold maxLen at this; omega
              clear hq hm ho
              go_wp2
              go_meet
              case rel => exact HL.out.setOwn _ _
          case rest =>
            have HL2 := hide hcut
            clear HL hcut
            have hm := HL2.out
            obtain ⟨o, ho⟩ := hm.agg
            have y := ho.cell (i := k) (by omega)
            have fy := ho.frozen k
            rcases Nat.eq_zero_or_pos m3 with rfl | e
            · clear hm ho
              go_wp2
              go_roundg (n + 1 - (k + 1))
              case measure => omega
              case rel => exact ⟨k + 1, by omega, by omega, rfl, by go_num, HL2.out⟩
            · obtain rfl := hao3 e
              obtain ⟨q, hq⟩ : ∃ q, q = (k - 1) % m3 := ⟨_, rfl⟩
              have hq2 : q < m3 := by rw [hq]; exact Nat.mod_lt _ e
              have tm := tmod_nat k m3 hk1
              rw [← hq] at tm
              have hqz : (q : Int) < (m3 : Int) := by omega
              have x := HA.out q hq2
              rw [← hm.below.cell (World.block_lt_of_cell? _ _ x)] at x
              have hm63 : m3 ≤ 9223372036854775807 := by have := hm3; unfold maxLen at this; omega
              clear hq hm ho
              go_wp2
              go_roundg (n + 1 - (k + 1))
              case measure => omega
              case rel => exact ⟨k + 1, by omega, by omega, rfl, by go_num, HL2.out.setAgg _ _⟩
        · go_wp2
          go_meet
          case rel => obtain rfl : k = n + 1 := by omega
                      exact hm
    -->1
  case rest =>
    have HN := hide hcut.nds
    have HC := hide hcut
    clear hcut HM1 HW HA hm2 hm3 hao2 hao3
    go_wp2_with fail
    refine (cart_any w.heap.size n 1 (c + 1) rk wc hn (by omega) (by omega) (by omega) HN.out).mono ?_
    rintro e w1 ⟨ra, rfl, hra, hN1, hG1⟩
    have HN1 := hide hN1
    have HG1 := hide hG1
    clear hN1 hG1 HN
    go_wp2_with fail
    refine (cart_any w.heap.size n (c + 1) (n + 1) rk w1 hn (by omega) (by omega) (by omega) HN1.out).mono ?_
    rintro e w2 ⟨rb, rfl, hrb, hN2, hG2⟩
    obtain ⟨own, s, hM2, hK⟩ := HC.out.two HG1.out hG2 hN2 kept
    have HM := hide hM2
    clear HC HG1 hG2 hN2 hM2 HN1 wc w1
    obtain ⟨i21, hi, hz0, hz1, hz2⟩ := info_parts Yba.info21
    obtain ⟨M21, hM21⟩ : ∃ M, M = madeCells #[Value.int .i32 0] (n + 1) := ⟨_, rfl⟩
    have hmk21 : ∀ W, (Instr.makeSlice 30 (.int .i64 ((n : Int) + 1)) (.int .i64 ((n : Int) + 1))).run Yba.prog W = .ok (.slice (some ⟨W.heap.size, 0, none⟩) (n + 1) (n + 1)) (W.alloc (.cells M21 21)) := by
      intro W
      rw [hM21]; exact (run_make_any (P := Yba.prog) 30 21 i21 _ 1 4 Yba.underlying30 hi hz0 hz1 hz2 .i64 .i64 (n + 1) (by omega) (by omega) W).trans (by rw [Nat.mul_one]; rfl)
    have HC0 := hide (Cop.start w2 n s own M21 M2 hM21 HM2.out)
    clear hi hz0 hz1 hz2 i21 hM21
    go_upto_block 2 with fail
    clear hmk21 hmk2
    go_cut [28] from 150 to 192 (fun v wc => Cop w2 wc n (n + 1) s own)
    case first =>
      as_aux_lemma =>  --<2
        go_wp2
        go_loopg [28] (n + 1) (fun gk i wr => ∃ k : Nat, k ≤ n + 1 ∧ gk = n + 1 - k ∧ i = .int .i64 k ∧ Cop w2 wr n k s own)
        case atStart => exact ⟨0, by omega, by omega, rfl, HC0.out⟩
        case round =>
          obtain ⟨k, hk2, rfl, rfl, hm⟩ := hrel
          clear HC0
          by_cases hlt : k ≤ n
          · have hkz : (k : Int) ≤ (n : Int) := by omega
            have hkz2 : (k : Int) < (n : Int) + 1 := by omega
            have hM := HM.out
            have hsz := hM.size
            obtain ⟨t, ow, ht, _⟩ := hm.tab
            have x1 := (hM.nodes.of_block (hm.below.block _ (by omega))).cell (i := k * 6 + 1) (by omega)
            have x2 := (hM.nodes.of_block (hm.below.block _ (by omega))).cell (i := k * 6 + 2) (by omega)
            have x3 := (hM.nodes.of_block (hm.below.block _ (by omega))).cell (i := k * 6 + 3) (by omega)
            rw [node1] at x1
            rw [node2] at x2
            rw [node3] at x3
            have x4 := (hM.agg.of_block (hm.below.block _ (by omega))).cell (i := k) (by omega)
            have x5 := (hM.own.of_block (hm.below.block _ (by omega))).cell (i := k) (by omega)
            have y1 := ht.l.cell (i := k) (by omega)
            have y2 := ht.r.cell (i := k) (by omega)
            have y3 := ht.p.cell (i := k) (by omega)
            have y4 := ht.g.cell (i := k) (by omega)
            have y5 := ht.o.cell (i := k) (by omega)
            have f1 := ht.l.frozen k
            have f2 := ht.r.frozen k
            have f3 := ht.p.frozen k
            have f4 := ht.g.frozen k
            have f5 := ht.o.frozen k
            have d1 : w.heap.size + 3 ≤ w2.heap.size := hsz
            have HS := hide hm.step
            clear hM ht hm hsz
            go_wp2
            go_roundg (n + 1 - (k + 1))
            case measure => omega
            case rel => exact ⟨k + 1, by omega, rfl, by go_num, HS.out⟩
          · go_wp2
            go_meet
            case rel => obtain rfl : k = n + 1 := by omega
                        exact hm
      -->2
    case rest =>
      have hM := HM.out
      obtain ⟨ps, rest, hz, hpl⟩ := zip_exists rk s.L s.R n hM.ok _ ra rb hra hrb (Nat.le_refl _)
      obtain ⟨hrest, hps⟩ := zip_bound hM.ok ps ra rb rest hra hrb hz
      have hpl2 : ps.length ≤ 8193 := by refine Nat.le_trans hpl ?_; unfold mu; split <;> omega
      clear hpl HC0
      have hsz2 := hM.size
      have HSZ3 := hide hcut.size
      have hsz3 : w2.heap.size + 5 ≤ wc.heap.size := by have := HSZ3.out; omega
      have hOK := hM.ok
      have hINB := hM.inb
      have RR : Hid (∀ x, x ≤ n → wc.cell? ⟨w.heap.size, x * 6 + 5, none⟩ = some (.int .u64 (rk x))) := fun x hx => by
        rw [(hM.nodes.of_block (hcut.below.block _ (by omega))).cell (i := x * 6 + 5) (by omega), node5]
      have HZ := hide hz
      have HPS := hide hps
      have HT := hide hcut.tabs
      have HB2 := hide hcut.below
      clear hM hz hps hcut
      obtain ⟨i21, hi, hz0, hz1, hz2⟩ := info_parts Yba.info21
      obtain ⟨i4, hi4, hy0, hy1, hy2⟩ := info_parts Yba.info4
      obtain ⟨MP, hMP⟩ : ∃ M, M = madeCells (Value.int .i32 0).cells (n * 1) := ⟨_, rfl⟩
      obtain ⟨MF, hMF⟩ : ∃ M, M = madeCells (Value.bool false).cells (n * 1) := ⟨_, rfl⟩
      have hmkP : ∀ W, (Instr.makeSlice 30 (.int .i64 0) (.int .i64 (n : Int))).run Yba.prog W = .ok (.slice (some ⟨W.heap.size, 0, none⟩) 0 n) (W.alloc (.cells MP 21)) := by
        intro W
        rw [hMP]; exact run_make_cap (P := Yba.prog) 30 21 i21 _ 1 4 Yba.underlying30 hi hz0 hz1 hz2 .i64 .i64 _ n rfl (by omega) (by omega) W
      have hmkF : ∀ W, (Instr.makeSlice 31 (.int .i64 0) (.int .i64 (n : Int))).run Yba.prog W = .ok (.slice (some ⟨W.heap.size, 0, none⟩) 0 n) (W.alloc (.cells MF 4)) := by
        intro W
        rw [hMF]; exact run_make_cap (P := Yba.prog) 31 4 i4 _ 1 1 Yba.underlying31 hi4 hy0 hy1 hy2 .i64 .i64 _ n rfl (by omega) (by omega) W
      have ZS0 : Hid (Zs wc ((wc.alloc (.cells MP 21)).alloc (.cells MF 4)) wc.heap.size n (wc.heap.size + 1) n []) := by
        refine ⟨(World.ownsRow_made (base := wc.heap.size) (e := 21) (size := 1) wc MP n (Nat.le_refl _) (by unfold maxLen; omega) (by rw [hMP, size_madeCells])).alloc _, ?_, ((Below.refl _ _).alloc (Nat.le_refl _) _).alloc (by simp) _⟩
        have := World.ownsRow_made (base := wc.heap.size) (e := 4) (size := 1) (wc.alloc (.cells MP 21)) MF n (by simp) (by unfold maxLen; omega) (by rw [hMF, size_madeCells])
        simpa [flags] using this
      clear hMP hMF
      go_upto_block 4 with fail
      clear hmkP hmkF
      go_cut [30, 31, 32, 33] from 200 to 238 (fun vp vf vca vcb wx => ∃ ca cb gp cp gf cf : Nat, vp = .slice (some ⟨gp, 0, none⟩) ps.length cp ∧ vf = .slice (some ⟨gf, 0, none⟩) ps.length cf ∧ vca = .int .i32 (ca : Int) ∧ vcb = .int .i32 (cb : Int) ∧ ((ca = 0 ∧ rest = cb) ∨ (ca ≠ 0 ∧ cb = 0 ∧ rest = ca)) ∧ Zs wc wx gp cp gf cf ps)
      case first =>
        as_aux_lemma =>  --<3
          go_wp2
          go_loopg [30, 31, 32, 33] ps.length (fun gk vp vf vca vcb wx => ∃ (dn td : List (Nat × Bool)) (ca cb gp cp gf cf : Nat), ps = dn ++ td ∧ gk = td.length ∧ vp = .slice (some ⟨gp, 0, none⟩) dn.length cp ∧ vf = .slice (some ⟨gf, 0, none⟩) dn.length cf ∧ vca = .int .i32 (ca : Int) ∧ vcb = .int .i32 (cb : Int) ∧ Zip rk s.L s.R td ca cb rest ∧ ca ≤ n ∧ cb ≤ n ∧ Zs wc wx gp cp gf cf dn)
          case atStart => exact ⟨[], ps, ra, rb, _, _, _, _, rfl, rfl, rfl, rfl, rfl, rfl, HZ.out, hra, hrb, ZS0.out⟩
          case round =>
            obtain ⟨dn, td, ca, cb, gp, cp, gf, cf, hpd, rfl, rfl, rfl, rfl, rfl, hz, hca, hcb, hZ⟩ := hrel
            clear ZS0
            rcases td with _ | ⟨⟨p, f⟩, td⟩
            · obtain rfl : ps = dn := by simpa using hpd
              have HZ1 := hide hZ
              clear hZ hpd
              rcases hz with ⟨rfl, rfl⟩ | ⟨ca0, rfl, rfl⟩
              · go_wp2
                go_meet
                case rel => exact ⟨0, rest, gp, cp, gf, cf, rfl, rfl, rfl, rfl, .inl ⟨rfl, rfl⟩, HZ1.out⟩
              · have ha0 : ((rest : Int) != 0) = true := by simp; omega
                have HE := hide ca0
                clear ca0
                go_wp2
                go_meet
                case rel => exact ⟨rest, 0, gp, cp, gf, cf, rfl, rfl, rfl, rfl, .inr ⟨HE.out, rfl, rfl⟩, HZ1.out⟩
            · obtain ⟨ca0, cb0, hz⟩ := hz
              have ha0 : ((ca : Int) != 0) = true := by simp; omega
              have hb0 : ((cb : Int) != 0) = true := by simp; omega
              have k1 : wr.cell? ⟨w.heap.size, ca * 6 + 5, none⟩ = some (.int .u64 (rk ca)) := by rw [hZ.below.cell (by simp; omega)]; exact RR.out ca hca
              have k2 : wr.cell? ⟨w.heap.size, cb * 6 + 5, none⟩ = some (.int .u64 (rk cb)) := by rw [hZ.below.cell (by simp; omega)]; exact RR.out cb hcb
              have haz : (ca : Int) < ((n + 1 : Nat) : Int) := by omega
              have hbz : (cb : Int) < ((n + 1 : Nat) : Int) := by omega
              have hdl : dn.length ≤ 8192 := by rw [hpd] at hpl2; simp at hpl2; omega
              have hszr := hZ.below.size
              have HZ1 := hide hZ
              have HPD := hide hpd
              clear hZ hpd ca0 cb0
              rcases hz with ⟨hr, rfl, rfl, hz⟩ | ⟨hr, rfl, rfl, hz⟩
              · have HZT := hide hz
                clear hz
                go_wp2
                go_quiet (fail)
                have hP := HZ1.out.p
                go_wp2_with (first
                  | (at_builtin; refine wpList_append_own _ rfl _ _ 30 rfl wc.heap.size 21 i21 (.int .i32 0) 1 4 Yba.underlying30 hi hz0 hz1 hz2 rfl (by decide) _ _ _ rfl (World.ownsRow.alloc (w := wr.drewN nq) hP _) ⟨_, 0, none⟩ 1 1 [.int .i32 (p : Int)] rfl rfl ?c1 ?c2 ?c3 ?c4 ?c5 ?_))
                case c1 => exact one_cell _ _ _ _ rfl
                case c2 => intro u hu; simp at hu; subst hu; rfl
                case c3 => unfold maxLen; omega
                case c4 => omega
                case c5 => simp; omega
                intro v' w3 own3 hg3 _
                obtain ⟨gp', cp', hv', hgp1, hgp2⟩ := own_form own3 (by omega)
                rw [hv'] at own3 ⊢
                have hB3 : Below wc.heap.size wc w3 := Below.grown (w := (wr.drewN nq).alloc _) (Below.alloc (w := wr.drewN nq) ⟨HZ1.out.below.os, HZ1.out.below.tape, HZ1.out.below.output, HZ1.out.below.size, HZ1.out.below.block⟩ hszr _) hg3 (by simp; omega) (fun k hk => by simp [Value.ownBlock] at hk; have := (own_cap HZ1.out.p).2; omega)
                have hF3 : w3.ownsRow wc.heap.size 4 1 (.slice (some ⟨gf, 0, none⟩) dn.length cf) dn.length (flags dn) := (World.ownsRow.alloc (w := wr.drewN nq) HZ1.out.f _).kept hg3 (.inr (by simp [Value.ownBlock]; exact fun e => HZ1.out.apart e.symm))
                have hap := own_apart (by decide) own3 hF3
                have hszr3 := hB3.size
                have OWN3 := hide own3
                have HB3 := hide hB3
                clear hv' hg3 own3 hB3 k1 k2
                go_wp2_with (first
                  | (at_builtin; refine wpList_append_own _ rfl _ _ 31 rfl wc.heap.size 4 i4 (.bool false) 1 1 Yba.underlying31 hi4 hy0 hy1 hy2 rfl (by decide) _ _ _ rfl (World.ownsRow.alloc (w := w3) hF3 _) ⟨_, 0, none⟩ 1 1 [.bool true] rfl rfl ?c1 ?c2 ?c3 ?c4 ?c5 ?_))
                case c1 => exact one_cell _ _ _ _ rfl
                case c2 => intro u hu; simp at hu; subst hu; rfl
                case c3 => unfold maxLen; omega
                case c4 => omega
                case c5 => simp; omega
                intro v2 w4 own4 hg4 _
                obtain ⟨gf', cf', hv2, hgf1, hgf2⟩ := own_form own4 (by omega)
                rw [hv2] at own4 ⊢
                have hB4 : Below wc.heap.size wc w4 := Below.grown (w := w3.alloc _) (HB3.out.alloc hszr3 _) hg4 (by simp; omega) (fun k hk => by simp [Value.ownBlock] at hk; have := (own_cap HZ1.out.f).2; omega)
                have hP4 : w4.ownsRow wc.heap.size 21 1 (.slice (some ⟨gp', 0, none⟩) (dn.length + 1) cp') (dn.length + 1) _ := (World.ownsRow.alloc (w := w3) OWN3.out _).kept hg4 (.inr (by simp [Value.ownBlock]; exact hap))
                have ZS4 : Hid (Zs wc w4 gp' cp' gf' cf' (dn ++ [(p, true)])) := ⟨by simpa [nums] using hP4, by simpa [flags] using own4, hB4⟩
                have k5 : w4.cell? ⟨w2.heap.size + 1, p, none⟩ = some (.int .i32 ((s.R p : Nat) : Int)) := by rw [hB4.cell (by simp; omega)]; exact HT.out.r.cell (by omega)
                clear hv2 hg4 own4 hB4 hP4 hF3 hP
                go_wp2
                go_roundg td.length
                case measure => simp
                case rel => exact ⟨dn ++ [(p, true)], td, s.R p, cb, gp', cp', gf', cf', by rw [HPD.out]; simp, rfl, by simp, by simp, rfl, rfl, HZT.out, by rcases hOK.right p with e | e <;> omega, hcb, ZS4.out⟩
              · have HZT := hide hz
                clear hz
                have hrd : decide (rk p < rk ca) = false := by simpa using hr
                go_wp2
                go_quiet (fail)
                have hP := HZ1.out.p
                go_wp2_with (first
                  | (at_builtin; refine wpList_append_own _ rfl _ _ 30 rfl wc.heap.size 21 i21 (.int .i32 0) 1 4 Yba.underlying30 hi hz0 hz1 hz2 rfl (by decide) _ _ _ rfl (World.ownsRow.alloc (w := wr.drewN nq) hP _) ⟨_, 0, none⟩ 1 1 [.int .i32 (p : Int)] rfl rfl ?c1 ?c2 ?c3 ?c4 ?c5 ?_))
                case c1 => exact one_cell _ _ _ _ rfl
                case c2 => intro u hu; simp at hu; subst hu; rfl
                case c3 => unfold maxLen; omega
                case c4 => omega
                case c5 => simp; omega
                intro v' w3 own3 hg3 _
                obtain ⟨gp', cp', hv', hgp1, hgp2⟩ := own_form own3 (by omega)
                rw [hv'] at own3 ⊢
                have hB3 : Below wc.heap.size wc w3 := Below.grown (w := (wr.drewN nq).alloc _) (Below.alloc (w := wr.drewN nq) ⟨HZ1.out.below.os, HZ1.out.below.tape, HZ1.out.below.output, HZ1.out.below.size, HZ1.out.below.block⟩ hszr _) hg3 (by simp; omega) (fun k hk => by simp [Value.ownBlock] at hk; have := (own_cap HZ1.out.p).2; omega)
                have hF3 : w3.ownsRow wc.heap.size 4 1 (.slice (some ⟨gf, 0, none⟩) dn.length cf) dn.length (flags dn) := (World.ownsRow.alloc (w := wr.drewN nq) HZ1.out.f _).kept hg3 (.inr (by simp [Value.ownBlock]; exact fun e => HZ1.out.apart e.symm))
                have hap := own_apart (by decide) own3 hF3
                have hszr3 := hB3.size
                have OWN3 := hide own3
                have HB3 := hide hB3
                clear hv' hg3 own3 hB3 k1 k2
                go_wp2_with (first
                  | (at_builtin; refine wpList_append_own _ rfl _ _ 31 rfl wc.heap.size 4 i4 (.bool false) 1 1 Yba.underlying31 hi4 hy0 hy1 hy2 rfl (by decide) _ _ _ rfl (World.ownsRow.alloc (w := w3) hF3 _) ⟨_, 0, none⟩ 1 1 [.bool false] rfl rfl ?c1 ?c2 ?c3 ?c4 ?c5 ?_))
                case c1 => exact one_cell _ _ _ _ rfl
                case c2 => intro u hu; simp at hu; subst hu; rfl
                case c3 => unfold maxLen; omega
                case c4 => omega
                case c5 => simp; omega
                intro v2 w4 own4 hg4 _
                obtain ⟨gf', cf', hv2, hgf1, hgf2⟩ := own_form own4 (by omega)
                rw [hv2] at own4 ⊢
                have hB4 : Below wc.heap.size wc w4 := Below.grown (w := w3.alloc _) (HB3.out.alloc hszr3 _) hg4 (by simp; omega) (fun k hk => by simp [Value.ownBlock] at hk; have := (own_cap HZ1.out.f).2; omega)
                have hP4 : w4.ownsRow wc.heap.size 21 1 (.slice (some ⟨gp', 0, none⟩) (dn.length + 1) cp') (dn.length + 1) _ := (World.ownsRow.alloc (w := w3) OWN3.out _).kept hg4 (.inr (by simp [Value.ownBlock]; exact hap))
                have ZS4 : Hid (Zs wc w4 gp' cp' gf' cf' (dn ++ [(p, false)])) := ⟨by simpa [nums] using hP4, by simpa [flags] using own4, hB4⟩
                have k5 : w4.cell? ⟨w2.heap.size, p, none⟩ = some (.int .i32 ((s.L p : Nat) : Int)) := by rw [hB4.cell (by simp; omega)]; exact HT.out.l.cell (by omega)
                clear hv2 hg4 own4 hB4 hP4 hF3 hP
                go_wp2
                go_roundg td.length
                case measure => simp
                case rel => exact ⟨dn ++ [(p, false)], td, ca, s.L p, gp', cp', gf', cf', by rw [HPD.out]; simp, rfl, by simp, by simp, rfl, rfl, HZT.out, hca, by rcases hOK.left p with e | e <;> omega, ZS4.out⟩
        -->3
      case rest =>
        rename World => wz
        obtain ⟨ca, cb, gp, cp, gf, cf, rfl, rfl, rfl, rfl, hE, hZ⟩ := hcut
        clear ZS0 RR hi hz0 hz1 hz2 i21 hi4 hy0 hy1 hy2 i4
        have PC : Hid (∀ i (h : i < ps.length), wz.cell? ⟨gp, i, none⟩ = some (.int .i32 ((ps[i].1 : Nat) : Int))) := fun i h => by rw [hZ.p.cellAt i (by omega)]; simp [nums, h]
        have FC : Hid (∀ i (h : i < ps.length), wz.cell? ⟨gf, i, none⟩ = some (.bool ps[i].2)) := fun i h => by rw [hZ.f.cellAt i (by omega)]; simp [flags, h]
        have hgp := (own_cap hZ.p).2
        have hgf := (own_cap hZ.f).2
        have HZS := hide hZ.below
        have TT0 : Hid (TT wz wz w2.heap.size n s own) := by
          have bl : ∀ k, k < w2.heap.size + 5 → wz.heap[k]? = wc.heap[k]? := fun k hk => hZ.below.block k (by omega)
          have h := HT.out
          exact ⟨⟨h.l.of_block (bl _ (by omega)), h.r.of_block (bl _ (by omega)), h.p.of_block (bl _ (by omega)), h.g.of_block (bl _ (by omega)), h.o.of_block (bl _ (by omega))⟩, FrT.refl _ _⟩
        clear hZ
        have UB : Hid (∀ j, (upS stale own (ps.drop j) rest s).1 ≤ n ∧ InB n (upS stale own (ps.drop j) rest s).2) := fun j =>
          upS_bound stale own n rest s hINB hrest _ (fun q hq => HPS.out q (List.mem_of_mem_drop hq))
        go_upto_if 241 with fail
        go_cut [34] from 240 to 242 (fun v wx => v = .int .i32 (rest : Int) ∧ wz = wx)
        case first =>
          as_aux_lemma =>  --<4
            rcases hE with ⟨rfl, rfl⟩ | ⟨ca0, rfl, rfl⟩
            · go_wp2
              go_meet
              case rel => exact ⟨rfl, rfl⟩
            · have ha0 : ((rest : Int) != 0) = true := by simp; omega
              clear ca0
              go_wp2
              go_meet
              case rel => exact ⟨rfl, rfl⟩
          -->4
        case rest =>
          obtain ⟨rfl, rfl⟩ := hcut
          clear hE
          go_upto_if 246 with fail
          go_cut [35] from 244 to 249 (fun v wx => v = .int .i32 (((upS stale own ps rest s).1 : Nat) : Int) ∧ wz = wx)
          case first =>
            as_aux_lemma =>  --<5
              rcases ps with _ | ⟨⟨p, f⟩, ps⟩
              · go_wp2
                go_meet
                case rel => exact ⟨rfl, rfl⟩
              · have x := PC.out 0 (by simp)
                simp only [List.getElem_cons_zero] at x
                have h0 : 0 < ((p, f) :: ps).length := by simp
                go_wp2
                go_meet
                case rel => exact ⟨rfl, rfl⟩
            -->5
          case rest =>
            obtain ⟨rfl, rfl⟩ := hcut
            go_upto_block 6 with fail
            go_cut [29, 36] from 253 to 324 (fun vk vi wx => vk = .int .i64 (upS stale own ps rest s).2.K ∧ TT wz wx w2.heap.size n (upS stale own ps rest s).2 own)
            case first =>
              as_aux_lemma =>  --<6
                go_wp2
                go_loopg [29, 36] ps.length (fun gk vk vi wx => gk ≤ ps.length ∧ vi = .int .i64 ((gk : Int) - 1) ∧ vk = .int .i64 (upS stale own (ps.drop gk) rest s).2.K ∧ TT wz wx w2.heap.size n (upS stale own (ps.drop gk) rest s).2 own)
                case atStart =>
                  have e : upS stale own (ps.drop ps.length) rest s = (rest, s) := by rw [List.drop_length]; rfl
                  refine ⟨Nat.le_refl _, rfl, ?_, ?_⟩
                  · rw [e, hK]
                  · rw [e]; exact TT0.out
                case round =>
                  rename Nat => gk
                  obtain ⟨hgk, rfl, rfl, hT⟩ := hrel
                  clear TT0
                  rcases gk with _ | j
                  · have HT1 : Hid (TT wz wr w2.heap.size n (upS stale own ps rest s).2 own) := hT
                    have e0 : (upS stale own (ps.drop 0) rest s) = upS stale own ps rest s := rfl
                    rw [e0]
                    clear hT e0
                    go_wp2
                    go_meet
                    case rel => exact ⟨rfl, HT1.out⟩
                  · have hj : j < ps.length := hgk
                    have eU := upS_drop stale own ps rest s j hj
                    have e1 := upS_one stale own ps rest s (j + 1)
                    have hb := UB.out (j + 1)
                    have hpn := HPS.out ps[j] (List.getElem_mem hj)
                    have ez : (((j + 1 : Nat) : Int) - 1) = (j : Int) := by omega
                    rw [ez]
                    clear ez
                    obtain ⟨p, f, hpf⟩ : ∃ p f, ps[j] = (p, f) := ⟨_, _, rfl⟩
                    have x1 := PC.out j hj
                    have x2 := FC.out j hj
                    rw [hpf] at eU x1 x2 hpn
                    simp only [] at eU x1 x2 hpn
                    have x3 : ∀ h : j + 1 < ps.length, wr.cell? ⟨gp, j + 1, none⟩ = some (.int .i32 (((upS stale own (ps.drop (j + 1)) rest s).1 : Nat) : Int)) := fun h => by
                      rw [World.cell?_of_block (w := wz) (hT.fr.block gp (.inr (by omega))), PC.out (j + 1) h, e1, dif_pos h]
                    have x4 : ¬ j + 1 < ps.length → (upS stale own (ps.drop (j + 1)) rest s).1 = rest := fun h => by rw [e1, dif_neg h]
                    clear e1
                    rw [← World.cell?_of_block (w := wz) (w' := wr) (a := ⟨gp, j, none⟩) (hT.fr.block gp (.inr (by omega)))] at x1
                    rw [← World.cell?_of_block (w := wz) (w' := wr) (a := ⟨gf, j, none⟩) (hT.fr.block gf (.inr (by omega)))] at x2
                    revert hT hb x3 x4 eU
                    generalize (upS stale own (ps.drop (j + 1)) rest s).1 = cc
                    generalize (upS stale own (ps.drop (j + 1)) rest s).2 = t
                    intro hT hb eU x3 x4
                    have HT1 := hide hT
                    have EU := hide eU
                    have X3 := hide x3
                    have X4 := hide x4
                    clear hT eU x3 x4 hpf hgk
                    have hjz : (0 : Int) ≤ (j : Int) := by omega
                    have hpz : (p : Int) < ((n + 1 : Nat) : Int) := by have := hpn.1; omega
                    have hjl : (j : Int) < (ps.length : Int) := by omega
                    go_upto_if 262 with fail
                    go_cut [37] from 258 to 267 (fun v wx => v = .int .i32 (cc : Int) ∧ wr = wx)
                    case first =>
                      by_cases h : j + 1 < ps.length
                      · have x3 := X3.out h
                        have hz : (j : Int) < (ps.length : Int) - 1 := by omega
                        have hz2 : (j : Int) + 1 < (ps.length : Int) := by omega
                        go_wp2
                        go_meet
                        case rel => exact ⟨rfl, rfl⟩
                      · have hz : ¬ (j : Int) < (ps.length : Int) - 1 := by omega
                        go_wp2
                        go_meet
                        case rel => exact ⟨by rw [X4.out h], rfl⟩
                    case rest =>
                      obtain ⟨rfl, rfl⟩ := hcut
                      go_upto_if 275 with fail
                      obtain ⟨l, hl⟩ : ∃ l, l = if f then t.L p else cc := ⟨_, rfl⟩
                      obtain ⟨r, hr⟩ : ∃ r, r = if f then cc else t.R p := ⟨_, rfl⟩
                      have hln : l ≤ n := by rw [hl]; split; (· exact (hb.2 p).1); (· exact hb.1)
                      have hrn : r ≤ n := by rw [hr]; split; (· exact hb.1); (· exact (hb.2 p).2)
                      have HL := hide hl
                      have HRr := hide hr
                      clear hl hr
                      go_cut [] from 272 to 283 (fun wx => TT wz wx w2.heap.size n { t with L := upd t.L p l, R := upd t.R p r } own)
                      case first =>
                        have y1 := HT1.out.tab.l.cell (i := p) (by omega)
                        have y2 := HT1.out.tab.r.cell (i := p) (by omega)
                        have f1 := HT1.out.tab.l.frozen p
                        have f2 := HT1.out.tab.r.frozen p
                        cases f with
                        | true =>
                          go_wp2
                          go_meet
                          case rel =>
                            have h := HT1.out.setR p cc
                            have e1 : l = t.L p := HL.out
                            have e2 : r = cc := HRr.out
                            rw [e1, e2, upd_id]; exact h
                        | false =>
                          go_wp2
                          go_meet
                          case rel =>
                            have h := HT1.out.setL p cc
                            have e1 : l = cc := HL.out
                            have e2 : r = t.R p := HRr.out
                            rw [e1, e2, upd_id]; exact h
                      case rest =>
                        rename World => wa
                        have HA1 := hide hcut
                        clear hcut HT1 X3 X4 x1 x2
                        have hlz : (l : Int) < ((n + 1 : Nat) : Int) := by omega
                        have hrz : (r : Int) < ((n + 1 : Nat) : Int) := by omega
                        go_upto_region 63 with fail
                        go_cut [] from 284 to 290 (fun wx => TT wz wx w2.heap.size n { t with L := upd t.L p l, R := upd t.R p r, P := upd t.P l (p : Int) } own)
                        case first =>
                          have y1 := HA1.out.tab.l.cell (i := p) (by omega)
                          simp only [upd_same] at y1
                          have y2 := HA1.out.tab.p.cell (i := l) (by omega)
                          have f2 := HA1.out.tab.p.frozen l
                          go_wp2
                          go_meet
                          case rel => exact HA1.out.setP l _
                        case rest =>
                          rename World => wb
                          have HA2 := hide hcut
                          clear hcut HA1
                          go_upto_region 64 with fail
                          go_cut [] from 291 to 297 (fun wx => TT wz wx w2.heap.size n (linkS p l r t) own)
                          case first =>
                            have y1 := HA2.out.tab.r.cell (i := p) (by omega)
                            simp only [upd_same] at y1
                            have y2 := HA2.out.tab.p.cell (i := r) (by omega)
                            have f2 := HA2.out.tab.p.frozen r
                            go_wp2
                            go_meet
                            case rel => exact HA2.out.setP r _
                          case rest =>
                            rename World => wd
                            have HA3 := hide hcut
                            clear hcut HA2
                            have y1 := HA3.out.tab.l.cell (i := p) (by omega)
                            have y2 := HA3.out.tab.r.cell (i := p) (by omega)
                            simp only [linkS, upd_same] at y1 y2
                            have y3 : wd.cell? ⟨w2.heap.size + 3, l, none⟩ = some (.int .i64 (t.G l)) := HA3.out.tab.g.cell (i := l) (by omega)
                            have y4 : wd.cell? ⟨w2.heap.size + 3, r, none⟩ = some (.int .i64 (t.G r)) := HA3.out.tab.g.cell (i := r) (by omega)
                            have y5 : wd.cell? ⟨w2.heap.size + 3, p, none⟩ = some (.int .i64 (t.G p)) := HA3.out.tab.g.cell (i := p) (by omega)
                            have y6 := HA3.out.tab.o.cell (i := p) (by omega)
                            have f5 := HA3.out.tab.g.frozen p
                            cases stale with
                            | true =>
                              go_wp2
                              go_roundg j
                              case measure => omega
                              case rel =>
                                have e : upS true own (ps.drop j) rest s = (p, linkS p l r t) := by rw [EU.out, HL.out, HRr.out]; rfl
                                refine ⟨by omega, rfl, ?_, ?_⟩
                                · rw [e]; rfl
                                · rw [e]; exact HA3.out
                            | false =>
                              go_wp2
                              go_region
                              all_goals
                                go_wp2
                                go_roundg j
                                case measure => omega
                                case rel =>
                                  have e : upS false own (ps.drop j) rest s = (p, totalS false own p (linkS p l r t)) := by rw [EU.out, HL.out, HRr.out]; rfl
                                  have h := (HA3.out.setG p (wrap64 (wrap64 (t.G l + own p) + t.G r))).drewN 1
                                  have eG : (totalS false own p (linkS p l r t)).G = upd t.G p (wrap64 (wrap64 (t.G l + own p) + t.G r)) := by simp [totalS, linkS, upd_same]
                                  refine ⟨by omega, rfl, ?_, ?_⟩
                                  · rw [e]; rfl
                                  · rw [e]
                                    refine ⟨⟨h.tab.l, h.tab.r, h.tab.p, ?_, h.tab.o⟩, h.fr⟩
                                    rw [eG]; exact h.tab.g
              -->6
            case rest =>
              rename World => wv
              obtain ⟨rfl, hTF⟩ := hcut
              have bl : ∀ k, k < w2.heap.size → wv.heap[k]? = w2.heap[k]? := fun k hk =>
                (hTF.fr.block k (.inl hk)).trans ((HZS.out.block k (by omega)).trans (HB2.out.block k hk))
              have hszv : wc.heap.size ≤ wv.heap.size := by have := HZS.out.size; have := hTF.fr.size; omega
              have BL := hide bl
              have HTF := hide hTF
              clear bl hTF TT0 PC FC UB
              obtain ⟨i41, hi, hz0, hz1, hz2⟩ := info_parts Yba.info41
              obtain ⟨MK, hMK⟩ : ∃ M, M = madeCells (Value.agg #[.int .u64 0, .int .u64 0, .int .u64 0]).cells ((n + 1) * 3) := ⟨_, rfl⟩
              have hmkK : ∀ W, (Instr.makeSlice 33 (.int .i64 ((n : Int) + 1)) (.int .i64 ((n : Int) + 1))).run Yba.prog W = .ok (.slice (some ⟨W.heap.size, 0, none⟩) (n + 1) (n + 1)) (W.alloc (.cells MK 41)) := by
                intro W
                rw [hMK]; exact run_make_any (P := Yba.prog) 33 41 i41 _ 3 24 Yba.underlying33 hi hz0 hz1 hz2 .i64 .i64 (n + 1) (by omega) (by omega) W
              have HMK := hide hMK
              clear hi hz0 hz1 hz2 i41 hMK
              go_wp2_with fail
              have hM := HM.out
              refine (merge_any (T := wv.heap.size + 1) (NB := w.heap.size) (AB := w.heap.size + 2) (OB := w.heap.size + 1) (n := n) (rk := rk) (own := own) (stale := stale) (kv := .slice (some ⟨wv.heap.size, 0, none⟩) (n + 1) (n + 1)) (s := s) rest ⟨by omega, by omega, by omega, by omega, by omega, by omega⟩ hn hINB hrest ps ra rb _ hra hrb HPS.out HZ.out ⟨?t1, ?t2, ?t3, ?t4⟩).mono ?_
              case t1 => exact ((hM.nodes.of_block (BL.out _ (by omega))).alloc _).alloc _
              case t2 => exact ((hM.agg.of_block (BL.out _ (by omega))).alloc _).alloc _
              case t3 => exact ((hM.own.of_block (BL.out _ (by omega))).alloc _).alloc _
              case t4 =>
                rw [hK]
                have h := trp_row (wv.alloc (.cells MK 41)) w.heap.size (w.heap.size + 2) (w.heap.size + 1) n stale (.slice (some ⟨wv.heap.size, 0, none⟩) (n + 1) (n + 1)) kept
                have e : (wv.alloc (.cells MK 41)).heap.size = wv.heap.size + 1 := by simp
                rw [e] at h
                exact h
              rintro e w7 ⟨rfl, hTr, hFr⟩
              have hFin : Fin w w7 (wv.heap.size + 1) wv.heap.size w2.heap.size n rk own stale (upS stale own ps rest s).2 := by
                have bk : ∀ k, k < wv.heap.size → k ≠ w.heap.size → k ≠ w.heap.size + 2 → w7.heap[k]? = wv.heap[k]? := fun k hk h1 h2 => by
                  rw [hFr.block k h1 h2 (by omega), Below.heap_alloc _ _ _ (by simp; omega), Below.heap_alloc _ _ _ hk]
                have h := HTF.out.tab
                refine ⟨?_, hTr, ⟨h.l.of_block (bk _ (by omega) (by omega) (by omega)), h.r.of_block (bk _ (by omega) (by omega) (by omega)), h.p.of_block (bk _ (by omega) (by omega) (by omega)), h.g.of_block (bk _ (by omega) (by omega) (by omega)), h.o.of_block (bk _ (by omega) (by omega) (by omega))⟩, ?_⟩
                · have h1 := hM.below
                  have s1 := hFr.size
                  have s2 := HB2.out
                  have s3 := HZS.out
                  have s4 := HTF.out.fr
                  refine ⟨?_, ?_, ?_, ?_, fun k hk => ?_⟩
                  · rw [hFr.os]; exact s4.os.trans (s3.os.trans (s2.os.trans h1.os))
                  · rw [hFr.tape]; exact s4.tape.trans (s3.tape.trans (s2.tape.trans h1.tape))
                  · rw [hFr.output]; exact s4.output.trans (s3.output.trans (s2.output.trans h1.output))
                  · rw [s1]; simp; omega
                  · rw [bk k (by omega) (by omega) (by omega), BL.out k (by omega), h1.block k hk]
                · have hk : (wv.alloc (.cells MK 41)).rowIs wv.heap.size 41 ((n + 1) * 3) (fun _ => .int .u64 0) := by
                    have hs : MK.size = (n + 1) * 3 := by rw [HMK.out, size_madeCells]
                    rw [← hs]
                    exact World.rowIs_alloc wv MK 41 _ (fun i hi => by rw [hs] at hi; rw [HMK.out]; exact made41 _ _ hi)
                  exact hk.of_block (by rw [hFr.block _ (by omega) (by omega) (by omega), Below.heap_alloc _ _ _ (by simp)])
              have hs7 : wv.heap.size + 2 ≤ w7.heap.size := by rw [hFr.size]; simp
              have HF := hide hFin
              clear hFin hFr hTr hM HTF BL HZS HB2 HM HT HPS HZ HMK hmkK
              revert HF
              generalize (upS stale own ps rest s).2 = sF
              generalize (upS stale own ps rest s).1 = want
              intro HF
              have c21 := HF.out.tr.trp.cell (i := 21) (by omega)
              have c18 := HF.out.tr.trp.cell (i := 18) (by omega)
              have c14 := HF.out.tr.trp.cell (i := 14) (by omega)
              have c15 := HF.out.tr.trp.cell (i := 15) (by omega)
              have c16 := HF.out.tr.trp.cell (i := 16) (by omega)
              have c13 := HF.out.tr.trp.cell (i := 13) (by omega)
              have c5 := HF.out.tr.trp.cell (i := 5) (by omega)
              have c9 := HF.out.tr.trp.cell (i := 9) (by omega)
              have c10 := HF.out.tr.trp.cell (i := 10) (by omega)
              have c11 := HF.out.tr.trp.cell (i := 11) (by omega)
              have c12 := HF.out.tr.trp.cell (i := 12) (by omega)
              simp only [trpCell] at c21 c18 c14 c15 c16 c13 c5 c9 c10 c11 c12
              go_upto_block 8 with fail
              go_wp2
              clear c21 c18 c14 c15 c16 c13 c5 c9 c10 c11 c12
              go_loopg [41] (n + 1) (fun gk i wr => ∃ k : Nat, k ≤ n + 1 ∧ gk = n + 1 - k ∧ i = .int .i64 k ∧ Below w7.heap.size w7 wr)
              case atStart => exact ⟨0, by omega, by omega, rfl, Below.refl _ _⟩
              case round =>
                obtain ⟨k, hk2, rfl, rfl, hB⟩ := hrel
                have hszw := hB.size
                by_cases hlt : k ≤ n
                · have hkz : (k : Int) ≤ (n : Int) := by omega
                  have hkz2 : (k : Int) < (n : Int) + 1 := by omega
                  have h := HF.out
                  have q9 : wr.cell? ⟨wv.heap.size + 1, 9, none⟩ = some (.slice (some ⟨w.heap.size, 0, none⟩) (n + 1) (n + 1)) := by rw [hB.cell (by simp; omega)]; exact h.tr.trp.cell (i := 9) (by omega)
                  have q10 : wr.cell? ⟨wv.heap.size + 1, 10, none⟩ = some (.slice (some ⟨wv.heap.size, 0, none⟩) (n + 1) (n + 1)) := by rw [hB.cell (by simp; omega)]; exact h.tr.trp.cell (i := 10) (by omega)
                  have q11 : wr.cell? ⟨wv.heap.size + 1, 11, none⟩ = some (.slice (some ⟨w.heap.size + 1, 0, none⟩) (n + 1) (n + 1)) := by rw [hB.cell (by simp; omega)]; exact h.tr.trp.cell (i := 11) (by omega)
                  have q12 : wr.cell? ⟨wv.heap.size + 1, 12, none⟩ = some (.slice (some ⟨w.heap.size + 2, 0, none⟩) (n + 1) (n + 1)) := by rw [hB.cell (by simp; omega)]; exact h.tr.trp.cell (i := 12) (by omega)
                  have nb : ∀ r, r < 6 → wr.cell? ⟨w.heap.size, k * 6 + r, none⟩ = some (nodeCell rk sF (k * 6 + r)) := fun r hr => by rw [hB.cell (by simp; omega)]; exact h.tr.nodes.cell (by omega)
                  have n0 : wr.cell? ⟨w.heap.size, k * 6, none⟩ = some (.int .i64 (k : Int)) := by rw [← node0 rk sF k]; exact nb 0 (by omega)
                  have n1 : wr.cell? ⟨w.heap.size, k * 6 + 1, none⟩ = some (.int .i32 (sF.P k)) := by rw [nb 1 (by omega), node1]
                  have n2 : wr.cell? ⟨w.heap.size, k * 6 + 2, none⟩ = some (.int .i32 ((sF.L k : Nat) : Int)) := by rw [nb 2 (by omega), node2]
                  have n3 : wr.cell? ⟨w.heap.size, k * 6 + 3, none⟩ = some (.int .i32 ((sF.R k : Nat) : Int)) := by rw [nb 3 (by omega), node3]
                  have n4 : wr.cell? ⟨w.heap.size, k * 6 + 4, none⟩ = some (.int .u8 ((k : Int) % 256)) := by rw [nb 4 (by omega), node4]
                  have n5 : wr.cell? ⟨w.heap.size, k * 6 + 5, none⟩ = some (.int .u64 (rk k)) := by rw [nb 5 (by omega), node5]
                  have t1 : wr.cell? ⟨w2.heap.size, k, none⟩ = some (.int .i32 ((sF.L k : Nat) : Int)) := by rw [hB.cell (by simp; omega)]; exact h.tab.l.cell (by omega)
                  have t2 : wr.cell? ⟨w2.heap.size + 1, k, none⟩ = some (.int .i32 ((sF.R k : Nat) : Int)) := by rw [hB.cell (by simp; omega)]; exact h.tab.r.cell (by omega)
                  have t3 : wr.cell? ⟨w2.heap.size + 1 + 1, k, none⟩ = some (.int .i32 (sF.P k)) := by rw [hB.cell (by simp; omega)]; exact h.tab.p.cell (by omega)
                  have t4 : wr.cell? ⟨w2.heap.size + 1 + 1 + 1, k, none⟩ = some (.int .i64 (sF.G k)) := by rw [hB.cell (by simp; omega)]; exact h.tab.g.cell (by omega)
                  have t5 : wr.cell? ⟨w2.heap.size + 1 + 1 + 1 + 1, k, none⟩ = some (.int .i64 (own k)) := by rw [hB.cell (by simp; omega)]; exact h.tab.o.cell (by omega)
                  have a1 : wr.cell? ⟨w.heap.size + 2, k, none⟩ = some (.int .i64 (sF.G k)) := by rw [hB.cell (by simp; omega)]; exact h.tr.agg.cell (by omega)
                  have a2 : wr.cell? ⟨w.heap.size + 1, k, none⟩ = some (.int .i64 (own k)) := by rw [hB.cell (by simp; omega)]; exact h.tr.own.cell (by omega)
                  have k0 : wr.cell? ⟨wv.heap.size, k * 3, none⟩ = some (.int .u64 0) := by rw [hB.cell (by simp; omega)]; exact h.keys.cell (by omega)
                  have k1 : wr.cell? ⟨wv.heap.size, k * 3 + 1, none⟩ = some (.int .u64 0) := by rw [hB.cell (by simp; omega)]; exact h.keys.cell (by omega)
                  have k2 : wr.cell? ⟨wv.heap.size, k * 3 + 2, none⟩ = some (.int .u64 0) := by rw [hB.cell (by simp; omega)]; exact h.keys.cell (by omega)
                  have RK : Hid (∀ _ : 0 < k, b0 < w.heap.size ∧ wr.cell? ⟨b0, o0 + (k - 1), none⟩ = some (.int .u64 (rk k))) := fun h0 => by
                    have x := HR.out (k - 1) (by omega)
                    have hb := World.block_lt_of_cell? _ _ x
                    have s1 := h.below.size
                    refine ⟨hb, ?_⟩
                    simp only [] at hb
                    rw [hB.cell (by simp; omega), h.below.cell hb, x, show k - 1 + 1 = k by omega]
                  have HB := hide hB
                  clear h nb hB
                  go_upto_region 80 with fail
                  obtain ⟨wn, hwn⟩ : ∃ wn, wn = wr.alloc (.cells #[.int .i64 (k : Int), .int .i32 (sF.P k), .int .i32 ((sF.L k : Nat) : Int), .int .i32 ((sF.R k : Nat) : Int), .int .u8 ((k : Int) % 256), .int .u64 (rk k)] 28) := ⟨_, rfl⟩
                  rw [← hwn]
                  have past : ∀ a : Addr, a.block < wr.heap.size → wn.cell? a = wr.cell? a := fun a ha => by rw [hwn]; exact World.cell?_of_block (w := wr) (Below.heap_alloc _ _ _ ha)
                  have q9 := (past _ (by simp; omega)).trans q9
                  have q10 := (past _ (by simp; omega)).trans q10
                  have q11 := (past _ (by simp; omega)).trans q11
                  have q12 := (past _ (by simp; omega)).trans q12
                  have t1 := (past _ (by simp; omega)).trans t1
                  have t2 := (past _ (by simp; omega)).trans t2
                  have t3 := (past _ (by simp; omega)).trans t3
                  have t4 := (past _ (by simp; omega)).trans t4
                  have t5 := (past _ (by simp; omega)).trans t5
                  have a1 := (past _ (by simp; omega)).trans a1
                  have a2 := (past _ (by simp; omega)).trans a2
                  have k0 := (past _ (by simp; omega)).trans k0
                  have k1 := (past _ (by simp; omega)).trans k1
                  have k2 := (past _ (by simp; omega)).trans k2
                  have d0 : wn.cell? ⟨wr.heap.size, 0, none⟩ = some (.int .i64 (k : Int)) := by rw [hwn, World.cell?_alloc_new]; rfl
                  have d1 : wn.cell? ⟨wr.heap.size, 1, none⟩ = some (.int .i32 (sF.P k)) := by rw [hwn, World.cell?_alloc_new]; rfl
                  have d2 : wn.cell? ⟨wr.heap.size, 2, none⟩ = some (.int .i32 ((sF.L k : Nat) : Int)) := by rw [hwn, World.cell?_alloc_new]; rfl
                  have d3 : wn.cell? ⟨wr.heap.size, 3, none⟩ = some (.int .i32 ((sF.R k : Nat) : Int)) := by rw [hwn, World.cell?_alloc_new]; rfl
                  have d4 : wn.cell? ⟨wr.heap.size, 4, none⟩ = some (.int .u8 ((k : Int) % 256)) := by rw [hwn, World.cell?_alloc_new]; rfl
                  have d5 : wn.cell? ⟨wr.heap.size, 5, none⟩ = some (.int .u64 (rk k)) := by rw [hwn, World.cell?_alloc_new]; rfl
                  have RK2 : Hid (∀ _ : 0 < k, wn.cell? ⟨b0, o0 + (k - 1), none⟩ = some (.int .u64 (rk k))) := fun h0 => by
                    have x := RK.out h0
                    have s1 := HF.out.below.size
                    exact (past _ (by simp; omega)).trans x.2
                  have HWN := hide hwn
                  clear hwn past RK n0 n1 n2 n3 n4 n5
                  go_quiet (fail)
                  go_upto_if 467 with fail
                  go_cut [43] from 466 to 472 (fun v wx => v = .int .u64 (rk k) ∧ wn.drewN nq = wx)
                  case first =>
                    rcases Nat.eq_zero_or_pos k with rfl | h0
                    · go_wp2
                      go_meet
                      case rel => exact ⟨by rw [h00], rfl⟩
                    · have x2 := RK2.out h0
                      obtain rfl := hao0 (by omega)
                      have hk1 : 1 ≤ k := h0
                      have hkm : (k : Int) - 1 < (n : Int) := by omega
                      go_wp2
                      go_meet
                      case rel => exact ⟨rfl, rfl⟩
                  case rest =>
                    obtain ⟨rfl, rfl⟩ := hcut
                    go_upto_region 87 with fail
                    go_quiet (fail)
                    go_wp2
                    go_roundg (n + 1 - (k + 1))
                    case measure => omega
                    case rel =>
                      have h := HB.out.alloc hszw (.cells #[.int .i64 (k : Int), .int .i32 (sF.P k), .int .i32 ((sF.L k : Nat) : Int), .int .i32 ((sF.R k : Nat) : Int), .int .u8 ((k : Int) % 256), .int .u64 (rk k)] 28)
                      rw [← HWN.out] at h
                      exact ⟨k + 1, by omega, rfl, by go_num, ⟨h.os, h.tape, h.output, h.size, h.block⟩⟩
                · go_wp2
                  go_ret
                  exact ⟨rfl, HF.out.below.trans ((hB.mono (by have := HF.out.below.size; omega)))⟩

set_option maxRecDepth 100000 in
theorem longB (ao : Option Addr) (n cap : Nat) (cut : Int) (v2 v3 : Value) (p0 kept : Int) (stale : Bool) (w : World) (hn : 4096 < n) (hm : n ≤ 9223372036854775807) :
    Calls Yba.prog 3 #[.slice ao n cap, .int .u64 cut, v2, v3, .int .i32 p0, .int .i64 kept, .bool stale] w fun e w' => e = .returned (.bool true) ∧ Below w.heap.size w w' := by
  have h : (4096 : Int) < (n : Int) := by omega
  go_enter Yba.func3, Yba.ntmps3
  go_wp2
  go_ret
  exact ⟨rfl, Below.refl _ _⟩
end Go.Proofs.Ybulkexpwk
