import Derived.Test.YbulkexpwkTreap
namespace Go.Proofs.Ybulkexpwk
open Go.RowKit
set_option linter.unusedVariables false

/-- The treap's own cells. -/
def trpCell (NB AB OB n : Nat) (stale : Bool) (kv : Value) (K : Int) : Nat → Value
  | 0 => .nilFunc
  | 1 => .nilFunc
  | 2 => .int .i64 1
  | 3 => .int .i64 0
  | 4 => .int .i64 1
  | 5 => .slice none 0 0
  | 6 => .int .i32 0
  | 7 => .int .i32 0
  | 8 => .string { data := #[] }
  | 9 => .slice (some ⟨NB, 0, none⟩) (n + 1) (n + 1)
  | 10 => kv
  | 11 => .slice (some ⟨OB, 0, none⟩) (n + 1) (n + 1)
  | 12 => .slice (some ⟨AB, 0, none⟩) (n + 1) (n + 1)
  | 13 => .slice none 0 0
  | 14 => .int .i32 0
  | 15 => .int .i32 0
  | 16 => .int .i32 0
  | 17 => .int .u64 0
  | 18 => .bool stale
  | 19 => .bool false
  | 20 => .bool false
  | 21 => .int .i64 K
  | _ => .pointer none

/-- The treap lies in w, in the state s. -/
structure Tr (w : World) (T NB AB OB n : Nat) (rk own : Nat → Int) (stale : Bool) (kv : Value) (s : St) : Prop where
  nodes : w.rowIs NB 28 ((n + 1) * 6) (nodeCell rk s)
  agg : w.rowIs AB 2 (n + 1) (fun i => .int .i64 (s.G i))
  own : w.rowIs OB 2 (n + 1) (fun i => .int .i64 (own i))
  trp : w.rowIs T 38 23 (trpCell NB AB OB n stale kv s.K)

structure Apart4 (T NB AB OB : Nat) : Prop where
  h1 : NB ≠ AB
  h2 : NB ≠ OB
  h3 : NB ≠ T
  h4 : AB ≠ OB
  h5 : AB ≠ T
  h6 : OB ≠ T

theorem rowIs_drewN {w : World} {b t n : Nat} {f : Nat → Value} (h : w.rowIs b t n f) (q : Nat) : (w.drewN q).rowIs b t n f := h
theorem other2 {w : World} {b t n : Nat} {f : Nat → Value} (h : w.rowIs b t n f) {B1 B2 : Nat} (h1 : b ≠ B1) (h2 : b ≠ B2) (i1 i2 : Nat) (v1 v2 : Value) : ((w.setCell ⟨B1, i1, none⟩ v1).setCell ⟨B2, i2, none⟩ v2).rowIs b t n f :=
  (h.setOther (a := ⟨B1, i1, none⟩) h1 v1).setOther (a := ⟨B2, i2, none⟩) h2 v2
theorem set4 {w : World} {b t n : Nat} {f : Nat → Value} (h : w.rowIs b t n f) (i1 i2 i3 i4 : Nat) (v1 v2 v3 v4 : Value) : ((((w.setCell ⟨b, i1, none⟩ v1).setCell ⟨b, i2, none⟩ v2).setCell ⟨b, i3, none⟩ v3).setCell ⟨b, i4, none⟩ v4).rowIs b t n (fun j => if j = i4 then v4 else if j = i3 then v3 else if j = i2 then v2 else if j = i1 then v1 else f j) :=
  (((h.set i1 v1).set i2 v2).set i3 v3).set i4 v4

theorem link_any {T NB AB OB n : Nat} {rk own : Nat → Int} {stale : Bool} {kv : Value} {s : St} (w : World) (t l r : Nat) (hd : Apart4 T NB AB OB) (hn : n ≤ 4096) (ht : t ≤ n) (hl : l ≤ n) (hr : r ≤ n) (h : Tr w T NB AB OB n rk own stale kv s) :
    Calls Yba.prog 8 #[.pointer (some ⟨T, 0, none⟩), .int .i32 (t : Int), .int .i32 (l : Int), .int .i32 (r : Int)] w fun e w' => e = .returned (.tuple #[]) ∧ Tr w' T NB AB OB n rk own stale kv (linkS t l r s) ∧ Fr NB AB T w w' := by
  refine (link_walk T NB n t l r _ _ _ _ w hn ht hl hr hd.h3 (h.trp.cell (i := 9) (by omega)) (h.nodes.cell (by omega)) (h.nodes.cell (by omega)) (h.nodes.cell (by omega)) (h.nodes.cell (by omega)) (fun i => h.nodes.frozen i)).mono ?_
  rintro e w' ⟨rfl, q, rfl⟩
  refine ⟨rfl, ⟨?_, ?_, ?_, ?_⟩, ((((((Fr.refl NB AB T w).set (x := ⟨NB, _, none⟩) (.inl rfl) _).set (x := ⟨NB, _, none⟩) (.inl rfl) _).set (x := ⟨NB, _, none⟩) (.inl rfl) _).set (x := ⟨NB, _, none⟩) (.inl rfl) _).drewN q)⟩
  · exact rowIs_drewN ((set4 h.nodes _ _ _ _ _ _ _ _).congr (fun j _ => link_cells rk s t l r j)) q
  · exact rowIs_drewN (other2 (other2 h.agg hd.h1.symm hd.h1.symm _ _ _ _) hd.h1.symm hd.h1.symm _ _ _ _) q
  · exact rowIs_drewN (other2 (other2 h.own hd.h2.symm hd.h2.symm _ _ _ _) hd.h2.symm hd.h2.symm _ _ _ _) q
  · exact rowIs_drewN (other2 (other2 h.trp hd.h3.symm hd.h3.symm _ _ _ _) hd.h3.symm hd.h3.symm _ _ _ _) q

theorem trp_kept (NB AB OB n : Nat) (stale : Bool) (kv : Value) (K K' : Int) (j : Nat) : (if j = 21 then Value.int .i64 K' else trpCell NB AB OB n stale kv K j) = trpCell NB AB OB n stale kv K' j := by
  by_cases h : j = 21
  · subst h; rfl
  · rw [if_neg h]
    unfold trpCell
    split <;> first | rfl | omega

theorem total_stale (T n t : Nat) (w : World) (c18 : w.cell? ⟨T, 18, none⟩ = some (.bool true)) :
    Calls Yba.prog 9 #[.pointer (some ⟨T, 0, none⟩), .int .i32 (t : Int)] w fun e w' => e = .returned (.tuple #[]) ∧ w' = w := by
  go_enter Yba.func9, Yba.ntmps9
  go_wp2
  exact bodyPost_ret (v := .tuple #[]) (by simp [results, Yba.results9]) rfl ⟨rfl, rfl⟩

theorem total_any {T NB AB OB n : Nat} {rk own : Nat → Int} {stale : Bool} {kv : Value} {s : St} (w : World) (t : Nat) (hd : Apart4 T NB AB OB) (hn : n ≤ 4096) (ht : t ≤ n) (hs : InB n s) (h : Tr w T NB AB OB n rk own stale kv s) :
    Calls Yba.prog 9 #[.pointer (some ⟨T, 0, none⟩), .int .i32 (t : Int)] w fun e w' => e = .returned (.tuple #[]) ∧ Tr w' T NB AB OB n rk own stale kv (totalS stale own t s) ∧ Fr NB AB T w w' := by
  cases stale with
  | true =>
    refine (total_stale T n t w (h.trp.cell (i := 18) (by omega))).mono ?_
    rintro e w' ⟨rfl, rfl⟩
    exact ⟨rfl, h, Fr.refl _ _ _ _⟩
  | false =>
    have d2 := h.nodes.cell (i := t * 6 + 2) (by omega)
    have d3 := h.nodes.cell (i := t * 6 + 3) (by omega)
    rw [node2] at d2
    rw [node3] at d3
    refine (total_walk T NB AB OB n t (s.L t) (s.R t) (s.G (s.L t)) (s.G (s.R t)) (s.G t) (own t) s.K w hn ht (hs t).1 (hs t).2 hd.h5 (h.trp.cell (i := 2) (by omega)) (h.trp.cell (i := 3) (by omega)) (h.trp.cell (i := 4) (by omega))
      (h.trp.cell (i := 9) (by omega)) (h.trp.cell (i := 11) (by omega)) (h.trp.cell (i := 12) (by omega)) (h.trp.cell (i := 18) (by omega)) (h.trp.cell (i := 21) (by omega)) (h.trp.frozen 21) d2 d3
      (h.agg.cell (by have := (hs t).1; omega)) (h.agg.cell (by have := (hs t).2; omega)) (h.agg.cell (by omega)) (h.agg.frozen t) (h.own.cell (by omega))).mono ?_
    rintro e w' ⟨rfl, q, rfl⟩
    refine ⟨rfl, ⟨?_, ?_, ?_, ?_⟩, ((((Fr.refl NB AB T w).set (x := ⟨AB, _, none⟩) (.inr (.inl rfl)) _).set (x := ⟨T, _, none⟩) (.inr (.inr rfl)) _).drewN q)⟩
    · have e : nodeCell rk (totalS false own t s) = nodeCell rk s := by funext j; rfl
      rw [e]
      exact rowIs_drewN (other2 h.nodes hd.h1 hd.h3 _ _ _ _) q
    · exact rowIs_drewN (((h.agg.set t _).setOther (a := ⟨T, 21, none⟩) hd.h5 _).congr (fun j _ => by
        by_cases e : j = t
        · subst e; simp [totalS, upd]
        · simp [totalS, upd, e])) q
    · exact rowIs_drewN (other2 h.own hd.h4.symm hd.h6 _ _ _ _) q
    · exact rowIs_drewN (((h.trp.setOther (a := ⟨AB, t, none⟩) hd.h5.symm _).set 21 _).congr (fun j _ => trp_kept NB AB OB n false kv s.K (wrap64 (s.K + 1)) j)) q

theorem Tr.drewN {w : World} {T NB AB OB n : Nat} {rk own : Nat → Int} {stale : Bool} {kv : Value} {s : St} (h : Tr w T NB AB OB n rk own stale kv s) (q : Nat) : Tr (w.drewN q) T NB AB OB n rk own stale kv s := ⟨h.nodes, h.agg, h.own, h.trp⟩

theorem inB_link {n p l r : Nat} {s : St} (h : InB n s) (hl : l ≤ n) (hr : r ≤ n) : InB n (linkS p l r s) := by
  intro x
  simp only [linkS, upd]
  constructor
  · split
    · exact hl
    · exact (h x).1
  · split
    · exact hr
    · exact (h x).2

theorem merge_any {T NB AB OB n : Nat} {rk own : Nat → Int} {stale : Bool} {kv : Value} {s : St} (rest : Nat) (hd : Apart4 T NB AB OB) (hn : n ≤ 4096) (hs : InB n s) (hrest : rest ≤ n) :
    ∀ (ps : List (Nat × Bool)) (a b : Nat) (w : World), a ≤ n → b ≤ n → (∀ q ∈ ps, q.1 ≤ n ∧ q.1 ≠ 0) → Zip rk s.L s.R ps a b rest → Tr w T NB AB OB n rk own stale kv s →
    Calls Yba.prog 6 #[.pointer (some ⟨T, 0, none⟩), .int .i32 (a : Int), .int .i32 (b : Int)] w fun e w' => e = .returned (.int .i32 ((upS stale own ps rest s).1 : Int)) ∧ Tr w' T NB AB OB n rk own stale kv (upS stale own ps rest s).2 ∧ Fr NB AB T w w' := by
  intro ps
  induction ps with
  | nil =>
    intro a b w ha hb _ hz h
    rcases hz with ⟨rfl, rfl⟩ | ⟨a0, rfl, rfl⟩
    · go_enter Yba.func6, Yba.ntmps6
      go_wp2_with fail
      go_ret
      exact ⟨rfl, h, Fr.refl _ _ _ _⟩
    · have ha0 : ((rest : Int) == 0) = false := by simp; omega
      go_enter Yba.func6, Yba.ntmps6
      go_wp2_with fail
      go_ret
      exact ⟨rfl, h, Fr.refl _ _ _ _⟩
  | cons pf ps ih =>
    intro a b w ha hb hp hz h
    obtain ⟨p, f⟩ := pf
    obtain ⟨a0, b0, hz⟩ := hz
    have hp' : ∀ q ∈ ps, q.1 ≤ n ∧ q.1 ≠ 0 := fun q hq => hp q (List.mem_cons_of_mem _ hq)
    obtain ⟨hu1, hu2⟩ := upS_bound stale own n rest s hs hrest ps hp'
    have ha0 : ((a : Int) == 0) = false := by simp; omega
    have hb0 : ((b : Int) == 0) = false := by simp; omega
    have c9 : w.cell? ⟨T, 9, none⟩ = some (.slice (some ⟨NB, 0, none⟩) (n + 1) (n + 1)) := h.trp.cell (i := 9) (by omega)
    have k1 := h.nodes.cell (i := a * 6 + 5) (by omega)
    have k2 := h.nodes.cell (i := b * 6 + 5) (by omega)
    have k3 := h.nodes.cell (i := a * 6 + 3) (by omega)
    have k4 := h.nodes.cell (i := b * 6 + 2) (by omega)
    rw [node5] at k1 k2
    rw [node3] at k3
    rw [node2] at k4
    have haz : (a : Int) < ((n + 1 : Nat) : Int) := by omega
    have hbz : (b : Int) < ((n + 1 : Nat) : Int) := by omega
    rcases hz with ⟨hr, rfl, rfl, hz⟩ | ⟨hr, rfl, rfl, hz⟩
    · have IH : Hid (∀ q, Calls Yba.prog 6 #[.pointer (some ⟨T, 0, none⟩), .int .i32 ((s.R p : Nat) : Int), .int .i32 (b : Int)] (w.drewN q) fun e w' => e = .returned (.int .i32 ((upS stale own ps rest s).1 : Int)) ∧ Tr w' T NB AB OB n rk own stale kv (upS stale own ps rest s).2 ∧ Fr NB AB T (w.drewN q) w') :=
        fun q => ih (s.R p) b (w.drewN q) (hs p).2 hb hp' hz (h.drewN q)
      have E : Hid ((upS stale own ((p, true) :: ps) rest s) = (p, stepS stale own p true (upS stale own ps rest s).1 (upS stale own ps rest s).2)) := rfl
      clear ih hz h
      rw [E.out]
      clear E
      revert IH hu1 hu2
      generalize (upS stale own ps rest s).1 = c
      generalize (upS stale own ps rest s).2 = s1
      intro hu1 hu2 IH
      go_enter Yba.func6, Yba.ntmps6
      go_wp2_with fail
      go_quiet (fail)
      go_wp2_with fail
      refine (IH.out _).mono ?_
      rintro e w1 ⟨rfl, h1, f1⟩
      clear IH k1 k2 k3 k4 c9
      have c9 : w1.cell? ⟨T, 9, none⟩ = some (.slice (some ⟨NB, 0, none⟩) (n + 1) (n + 1)) := h1.trp.cell (i := 9) (by omega)
      have k1 := h1.nodes.cell (i := p * 6 + 2) (by omega)
      rw [node2] at k1
      go_wp2_with fail
      refine (link_any w1 p (s1.L p) c hd hn (by omega) (hu2 p).1 hu1 h1).mono ?_
      rintro e w2 ⟨rfl, h2, f2⟩
      clear c9 k1
      go_wp2_with fail
      refine (total_any w2 p hd hn (by omega) (inB_link hu2 (hu2 p).1 hu1) h2).mono ?_
      rintro e w3 ⟨rfl, h3, f3⟩
      go_wp2_with fail
      go_ret
      exact ⟨rfl, h3, ((Fr.refl NB AB T w).drewN _).trans (f1.trans (f2.trans f3))⟩
    · have IH : Hid (∀ q, Calls Yba.prog 6 #[.pointer (some ⟨T, 0, none⟩), .int .i32 (a : Int), .int .i32 ((s.L p : Nat) : Int)] (w.drewN q) fun e w' => e = .returned (.int .i32 ((upS stale own ps rest s).1 : Int)) ∧ Tr w' T NB AB OB n rk own stale kv (upS stale own ps rest s).2 ∧ Fr NB AB T (w.drewN q) w') :=
        fun q => ih a (s.L p) (w.drewN q) ha (hs p).1 hp' hz (h.drewN q)
      have E : Hid ((upS stale own ((p, false) :: ps) rest s) = (p, stepS stale own p false (upS stale own ps rest s).1 (upS stale own ps rest s).2)) := rfl
      clear ih hz h
      rw [E.out]
      clear E
      revert IH hu1 hu2
      generalize (upS stale own ps rest s).1 = c
      generalize (upS stale own ps rest s).2 = s1
      intro hu1 hu2 IH
      have hrd : decide (rk p < rk a) = false := by simpa using hr
      go_enter Yba.func6, Yba.ntmps6
      go_wp2_with fail
      go_quiet (fail)
      go_wp2_with fail
      refine (IH.out _).mono ?_
      rintro e w1 ⟨rfl, h1, f1⟩
      clear IH k1 k2 k3 k4 c9
      have c9 : w1.cell? ⟨T, 9, none⟩ = some (.slice (some ⟨NB, 0, none⟩) (n + 1) (n + 1)) := h1.trp.cell (i := 9) (by omega)
      have k1 := h1.nodes.cell (i := p * 6 + 3) (by omega)
      rw [node3] at k1
      go_wp2_with fail
      refine (link_any w1 p c (s1.R p) hd hn (by omega) hu1 (hu2 p).2 h1).mono ?_
      rintro e w2 ⟨rfl, h2, f2⟩
      clear c9 k1
      go_wp2_with fail
      refine (total_any w2 p hd hn (by omega) (inB_link hu2 hu1 (hu2 p).2) h2).mono ?_
      rintro e w3 ⟨rfl, h3, f3⟩
      go_wp2_with fail
      go_ret
      exact ⟨rfl, h3, ((Fr.refl NB AB T w).drewN _).trans (f1.trans (f2.trans f3))⟩
end Go.Proofs.Ybulkexpwk
