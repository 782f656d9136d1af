/-
  (*Map).emptiedAt and (*Map).scan.
-/
import Derived.Test.YbulkexpwyKeys
import Derived.Deep.OwnRows
import Derived.WalkArith
import Derived.Deep.CutRange
import Derived.Deep.CutBlock
namespace Go.Proofs.Ybulkexpwy
open Go.RowKit
set_option linter.unusedVariables false

/-- A mapKey. -/
structure Mk where
  kind : Int
  bits : Int
  str : ByteArray
def Mk.val (m : Mk) : Value := .agg #[.int .u8 m.kind, .int .u64 m.bits, .string m.str]
def K.mk : K → Mk
  | .nil => ⟨0, 0, ⟨#[]⟩⟩
  | .str s => ⟨115, 0, s⟩
  | .int n => ⟨105, IntKind.u64.wrap n, ⟨#[]⟩⟩
  | .flt b => if isInt b then ⟨105, IntKind.u64.wrap (fint b), ⟨#[]⟩⟩ else ⟨102, b, ⟨#[]⟩⟩
  | .bool x => ⟨98, if x then 1 else 0, ⟨#[]⟩⟩
theorem K.key_mk (k : K) : k.key = k.mk.val := by
  cases k with
  | flt b => show fkey b = _; unfold fkey K.mk; simp only []; split <;> rfl
  | _ => rfl
/-- What scan calls equal but for the bytes. -/
def Mk.near (a b : Mk) : Bool := (a.kind == b.kind) && (a.bits == b.bits) && ((a.str.size : Int) == (b.str.size : Int))
def Mk.same (a b : Mk) : Bool := (a.kind == b.kind) && (a.bits == b.bits) && (a.str.toList == b.str.toList)

def K.isNil : K → Bool
  | .nil => true
  | _ => false
theorem K.not_nil {k : K} (h : k.isNil = false) : k ≠ .nil := by rintro rfl; cases h

theorem law32 : Go.Maps.Keyed Yba.prog 3 := Go.Maps.int_keyed Yba.underlying3
theorem zero3 (w : World) : (zeroValue 3).run Yba.prog w = .ok (.int .i64 0) w := by kernel_rfl

@[go_sem] theorem eqM_none (w : World) : (binOp .eql 32 (.map none) (.map none)).run Yba.prog w = .ok (.bool true) w := run_eql_map_nil w 32 3 3 none Yba.underlying32
@[go_sem] theorem eqM_some (w : World) (b : Nat) : (binOp .eql 32 (.map (some b)) (.map none)).run Yba.prog w = .ok (.bool false) w := run_eql_map_nil w 32 3 3 (some b) Yba.underlying32
@[go_sem] theorem neM_none (w : World) : (binOp .neq 32 (.map none) (.map none)).run Yba.prog w = .ok (.bool false) w := run_neq_map_nil w 32 3 3 none Yba.underlying32
@[go_sem] theorem neM_some (w : World) (b : Nat) : (binOp .neq 32 (.map (some b)) (.map none)).run Yba.prog w = .ok (.bool true) w := run_neq_map_nil w 32 3 3 (some b) Yba.underlying32

/-- The pending removals: none, or a map. -/
def PM (w : World) (r : Option Nat) (N : Nat) (D : DataW Unit) : Prop := ∀ b, r = some b → w.ownsMap Yba.prog 3 (plainElem Yba.prog 3) b N D
def hasP (r : Option Nat) (D : DataW Unit) (i : Nat) : Bool := r.isSome && Maps.has D (.int .i64 (i : Int))
theorem PM.below {w w' : World} {r : Option Nat} {N : Nat} {D : DataW Unit} (h : PM w r N D) (hb : Below w.heap.size w w') : PM w' r N D := by
  intro b hr
  obtain ⟨es, clock, hB, F, hs, hD⟩ := h b hr
  exact ⟨es, clock, (hb.block b (Array.getElem?_eq_some_iff.1 hB).1).trans hB, F, hs, hD⟩

theorem emptied_nil (gm gk n i : Nat) (r : Option Nat) (w : World) (hi : i < n)
    (cK : w.cell? ⟨gm, 0, none⟩ = some (.slice (some ⟨gk, 0, none⟩) n n)) (cP : w.cell? ⟨gm, 11, none⟩ = some (.map r)) (ck : w.cell? ⟨gk, i, none⟩ = some .nilIface) :
    Calls Yba.prog 13 #[.pointer (some ⟨gm, 0, none⟩), .int .i64 (i : Int)] w fun e w' => e = .returned (.bool true) ∧ w' = w := by
  have hiz : (i : Int) < (n : Int) := by omega
  go_enter Yba.func13, Yba.ntmps13
  go_wp2
  go_ret
  exact ⟨rfl, rfl⟩

theorem emptied_none (gm gk n i : Nat) (t : TypeId) (v : Value) (w : World) (hi : i < n)
    (cK : w.cell? ⟨gm, 0, none⟩ = some (.slice (some ⟨gk, 0, none⟩) n n)) (cP : w.cell? ⟨gm, 11, none⟩ = some (.map none)) (ck : w.cell? ⟨gk, i, none⟩ = some (.iface t v)) :
    Calls Yba.prog 13 #[.pointer (some ⟨gm, 0, none⟩), .int .i64 (i : Int)] w fun e w' => e = .returned (.bool false) ∧ w' = w := by
  have hiz : (i : Int) < (n : Int) := by omega
  go_enter Yba.func13, Yba.ntmps13
  go_wp2
  go_ret
  exact ⟨rfl, rfl⟩

theorem emptied_some (gm gk n i b N : Nat) (D : DataW Unit) (t : TypeId) (v : Value) (w : World) (hi : i < n) (hn : n ≤ 65536)
    (cK : w.cell? ⟨gm, 0, none⟩ = some (.slice (some ⟨gk, 0, none⟩) n n)) (cP : w.cell? ⟨gm, 11, none⟩ = some (.map (some b))) (ck : w.cell? ⟨gk, i, none⟩ = some (.iface t v))
    (hown : w.ownsMap Yba.prog 3 (plainElem Yba.prog 3) b N D) :
    Calls Yba.prog 13 #[.pointer (some ⟨gm, 0, none⟩), .int .i64 (i : Int)] w fun e w' => e = .returned (.bool (Maps.has D (.int .i64 (i : Int)))) ∧ w' = w := by
  have hiz : (i : Int) < (n : Int) := by omega
  have hkey := Go.Maps.keyOf_int_mk (P := Yba.prog) (k := 3) Yba.underlying3 (a := (i : Int)) (WalkArith.wf_i64 (by omega))
  go_enter Yba.func13, Yba.ntmps13
  go_wp2_with (first | (at_lookup; refine wpList_lookup_own_ok_int _ rfl _ _ 32 rfl 3 3 .i64 law32 Yba.underlying32 Yba.underlying3 (zero3 _) b N _ rfl hown _ _ rfl hkey ?_; intro c hat hwc) | fail)
  go_ret
  exact ⟨rfl, rfl⟩

/-- (*Map).emptiedAt. -/
theorem emptied (gm gk n i N : Nat) (r : Option Nat) (D : DataW Unit) (k : K) (w : World) (hi : i < n) (hn : n ≤ 65536)
    (cK : w.cell? ⟨gm, 0, none⟩ = some (.slice (some ⟨gk, 0, none⟩) n n)) (cP : w.cell? ⟨gm, 11, none⟩ = some (.map r)) (ck : w.cell? ⟨gk, i, none⟩ = some k.val) (hP : PM w r N D) :
    Calls Yba.prog 13 #[.pointer (some ⟨gm, 0, none⟩), .int .i64 (i : Int)] w fun e w' => e = .returned (.bool (k.isNil || hasP r D i)) ∧ w' = w := by
  have other : ∀ (t : TypeId) (v : Value), w.cell? ⟨gk, i, none⟩ = some (.iface t v) → Calls Yba.prog 13 #[.pointer (some ⟨gm, 0, none⟩), .int .i64 (i : Int)] w fun e w' => e = .returned (.bool (hasP r D i)) ∧ w' = w := by
    intro t v hc
    cases r with
    | none => exact emptied_none gm gk n i t v w hi cK cP hc
    | some b => exact (emptied_some gm gk n i b N D t v w hi hn cK cP hc (hP b rfl)).mono fun e w' ⟨h1, h2⟩ => ⟨by rw [h1]; rfl, h2⟩
  cases k with
  | nil => exact (emptied_nil gm gk n i r w hi cK cP ck).mono fun e w' ⟨h1, h2⟩ => ⟨by rw [h1]; rfl, h2⟩
  | str s => exact other 56 _ ck
  | int m => exact other 57 _ ck
  | flt b => exact other 58 _ ck
  | bool x => exact other 59 _ ck

/-- How many of the first m places bear p. -/
def cntP (p : Nat → Bool) : Nat → Nat
  | 0 => 0
  | m + 1 => cntP p m + (if p m then 1 else 0)
theorem cntP_le (p : Nat → Bool) : ∀ m, cntP p m ≤ m
  | 0 => Nat.le_refl _
  | m + 1 => by have := cntP_le p m; unfold cntP; split <;> omega

/-- The first place of n that bears p, and how many bear q up to it. -/
def Found (p q : Nat → Bool) (n : Nat) (gi gc : Int) : Prop :=
  (∃ k, k < n ∧ (∀ j, j < k → p j = false) ∧ p k = true ∧ gi = (k : Int) ∧ gc = (cntP q (k + 1) : Int)) ∨ ((∀ j, j < n → p j = false) ∧ gi = -1 ∧ gc = (cntP q n : Int))

/-- The world that scan reads. -/
structure SW (w : World) (gm gk n : Nat) (κ : Nat → K) (r : Option Nat) (N : Nat) (D : DataW Unit) : Prop where
  cK : w.cell? ⟨gm, 0, none⟩ = some (.slice (some ⟨gk, 0, none⟩) n n)
  cP : w.cell? ⟨gm, 11, none⟩ = some (.map r)
  ck : ∀ i, i < n → w.cell? ⟨gk, i, none⟩ = some (κ i).val
  pm : PM w r N D
theorem SW.below {w w' : World} {gm gk n : Nat} {κ : Nat → K} {r : Option Nat} {N : Nat} {D : DataW Unit} (h : SW w gm gk n κ r N D) (hb : Below w.heap.size w w') : SW w' gm gk n κ r N D :=
  ⟨keep hb h.cK, keep hb h.cP, fun i hi => keep hb (h.ck i hi), h.pm.below hb⟩

def liveK (κ : Nat → K) (r : Option Nat) (D : DataW Unit) (i : Nat) : Bool := !((κ i).isNil || hasP r D i)

theorem keyOf_below (k : K) (hk : k ≠ .nil) (a b : Int) (s : ByteArray) (hm : k.mk = ⟨a, b, s⟩) (w : World) : Calls Yba.prog 14 #[k.val] w fun e w' => e = .returned (.tuple #[.agg #[.int .u8 a, .int .u64 b, .string s], .bool true]) ∧ Below w.heap.size w w' := by
  refine (keyOf_all k hk w).mono ?_
  rintro e w' ⟨rfl, cs, q, rfl⟩
  refine ⟨by rw [K.key_mk, hm]; rfl, ?_⟩
  have h := (Below.refl w.heap.size w).alloc (Nat.le_refl _) (.cells cs 37)
  exact ⟨h.os, h.tape, h.output, h.size, h.block⟩

theorem cntP_succ (p : Nat → Bool) (m : Nat) : cntP p (m + 1) = cntP p m + (if p m then 1 else 0) := rfl
theorem not_below_succ {p : Nat → Bool} {k : Nat} (h : ∀ j, j < k → p j = false) (hk : p k = false) : ∀ j, j < k + 1 → p j = false := fun j hj => by
  by_cases e : j = k
  · subst e; exact hk
  · exact h j (by omega)

theorem scan (gm gk n N : Nat) (κ : Nat → K) (r : Option Nat) (D : DataW Unit) (mk : Mk) (w : World) (hn : n ≤ 65536) (hS : SW w gm gk n κ r N D) :
    Calls Yba.prog 7 #[.pointer (some ⟨gm, 0, none⟩), mk.val] w fun e w' => ∃ gi gc : Int, e = .returned (.tuple #[.int .i64 gi, .int .i64 gc]) ∧ Below w.heap.size w w' ∧
      Found (fun i => liveK κ r D i && (κ i).mk.same mk) (fun i => liveK κ r D i && (κ i).mk.near mk) n gi gc := by
  obtain ⟨kd, bt, st⟩ := mk
  have cK := hS.cK
  have hgm : gm < w.heap.size := World.block_lt_of_cell? _ _ cK
  have HS1 : ∀ o, Hid (SW (w.alloc o) gm gk n κ r N D) := fun o => hS.below ((Below.refl _ _).alloc (Nat.le_refl _) _)
  have HB1 : ∀ o, Hid (Below w.heap.size w (w.alloc o)) := fun o => ((Below.refl _ _).alloc (Nat.le_refl _) _)
  clear hS
  unfold Mk.val
  simp only []
  go_enter Yba.func7, Yba.ntmps7
  go_wp2
  replace HS1 := HS1 (.cells #[Value.int IntKind.u8 kd, Value.int IntKind.u64 bt, Value.string st] 37)
  replace HB1 := HB1 (.cells #[Value.int IntKind.u8 kd, Value.int IntKind.u64 bt, Value.string st] 37)
  have b0 : (w.alloc (.cells #[Value.int IntKind.u8 kd, Value.int IntKind.u64 bt, Value.string st] 37)).cell? ⟨w.heap.size, 0, none⟩ = some (.int .u8 kd) := by simp
  have b1 : (w.alloc (.cells #[Value.int IntKind.u8 kd, Value.int IntKind.u64 bt, Value.string st] 37)).cell? ⟨w.heap.size, 1, none⟩ = some (.int .u64 bt) := by simp
  have b2 : (w.alloc (.cells #[Value.int IntKind.u8 kd, Value.int IntKind.u64 bt, Value.string st] 37)).cell? ⟨w.heap.size, 2, none⟩ = some (.string st) := by simp
  revert HS1 HB1 b0 b1 b2
  generalize w.alloc (.cells #[Value.int IntKind.u8 kd, Value.int IntKind.u64 bt, Value.string st] 37) = w1
  intro HS1 HB1 b0 b1 b2
  clear cK hgm
  have HS := HS1
  have HB := HB1
  have hB : w.heap.size < w1.heap.size := World.block_lt_of_cell? _ _ b0
  clear HS1 HB1
  go_loopg [16, 6] n (fun gk' i c wr => ∃ k : Nat, k ≤ n ∧ gk' = n - k ∧ i = .int .i64 k ∧ c = .int .i64 (cntP (fun i => liveK κ r D i && (κ i).mk.near ⟨kd, bt, st⟩) k : Int) ∧ (∀ j, j < k → (liveK κ r D j && (κ j).mk.same ⟨kd, bt, st⟩) = false) ∧ Below w1.heap.size w1 wr)
  case atStart => exact ⟨0, Nat.zero_le _, rfl, rfl, rfl, fun j hj => by omega, Below.refl _ _⟩
  case round =>
    obtain ⟨k, hk, rfl, rfl, rfl, hno, hb⟩ := hrel
    have hcle := cntP_le (fun i => liveK κ r D i && (κ i).mk.near ⟨kd, bt, st⟩) k
    obtain ⟨C, hC⟩ : ∃ C, C = cntP (fun i => liveK κ r D i && (κ i).mk.near ⟨kd, bt, st⟩) k := ⟨_, rfl⟩
    rw [← hC] at hcle ⊢
    have HC := hide hC
    have HN := hide hno
    have HBR := hide hb
    clear hC hno
    by_cases hlt : k < n
    · have hkz : (k : Int) < (n : Int) := by omega
      have hSr := HS.out.below hb
      have ck := hSr.ck k hlt
      have HE := hide (emptied gm gk n k N r D (κ k) wr hlt hn hSr.cK hSr.cP ck hSr.pm)
      have b0 := keep hb b0
      have b1 := keep hb b1
      have b2 := keep hb b2
      have hBr : w.heap.size < wr.heap.size := World.block_lt_of_cell? _ _ b0
      obtain ⟨a, bb, ss, hm⟩ : ∃ a bb ss, (κ k).mk = ⟨a, bb, ss⟩ := ⟨_, _, _, rfl⟩
      have HK := fun (h : (κ k).isNil = false) => hide (keyOf_below (κ k) (K.not_nil h) a bb ss hm wr)
      have hlv : liveK κ r D k = !((κ k).isNil || hasP r D k) := rfl
      have hnr : (κ k).mk.near ⟨kd, bt, st⟩ = ((a == kd) && (bb == bt) && ((ss.size : Int) == (st.size : Int))) := by rw [hm]; rfl
      have hsm : (κ k).mk.same ⟨kd, bt, st⟩ = ((a == kd) && (bb == bt) && (ss.toList == st.toList)) := by rw [hm]; rfl
      have HNX : ∀ x : Bool, Hid ((κ k).mk.near ⟨kd, bt, st⟩ = x → cntP (fun i => liveK κ r D i && (κ i).mk.near ⟨kd, bt, st⟩) (k + 1) = C + (if (liveK κ r D k && x) then 1 else 0)) := fun x hx => by
        rw [cntP_succ, ← HC.out, ← hx]
      clear hb hSr hm
      have Hlv := hide hlv
      have Hnr := hide hnr
      have Hsm := hide hsm
      clear hlv hnr hsm
      cases hE : ((κ k).isNil || hasP r D k) with
      | true =>
        rw [hE] at HE
        have hcl := hE
        clear hE
        have HE' := hide hcl
        clear hcl
        go_wp2_with fail
        refine HE.out.mono ?_
        rintro e w' ⟨rfl, hw⟩
        have hw' := hw.symm
        subst hw'
        go_wp2
        go_roundg (n - (k + 1))
        case measure => omega
        case rel =>
          have hl : liveK κ r D k = false := by rw [Hlv.out, HE'.out]; rfl
          refine ⟨k + 1, by omega, rfl, by go_num, ?_, not_below_succ HN.out (by rw [hl]; rfl), HBR.out⟩
          rw [(HNX _).out rfl, hl]
          simp
      | false =>
        rw [hE] at HE
        have hnil : (κ k).isNil = false := by revert hE; cases (κ k).isNil <;> simp
        have hl : liveK κ r D k = true := by rw [Hlv.out, hE]; rfl
        have HKK := HK hnil
        have Hl := hide hl
        clear hE HK hnil Hlv hl
        go_wp2_with fail
        refine HE.out.mono ?_
        rintro e w' ⟨rfl, hw⟩
        have hw' := hw.symm
        subst hw'
        go_wp2_with fail
        refine HKK.out.mono ?_
        rintro e w2 ⟨rfl, hb2⟩
        have b0 := keep hb2 b0
        have b1 := keep hb2 b1
        have b2 := keep hb2 b2
        have hB2 : w.heap.size < w2.heap.size := World.block_lt_of_cell? _ _ b0
        have HB2 : ∀ o, Hid (Below w1.heap.size w1 (w2.alloc o)) := fun o => (HBR.out.trans (hb2.mono HBR.out.size)).alloc (Nat.le_trans HBR.out.size hb2.size) _
        clear hb2 HE HKK ck
        by_cases hN : ((a == kd) && (bb == bt) && ((ss.size : Int) == (st.size : Int))) = true
        · simp only [Bool.and_eq_true, beq_iff_eq] at hN
          obtain ⟨⟨e1, e2⟩, e3⟩ := hN
          subst e1 e2
          have Hnx : Hid (cntP (fun i => liveK κ r D i && (κ i).mk.near ⟨a, bb, st⟩) (k + 1) = C + 1) := by
            have h := (HNX true).out (by rw [Hnr.out]; simp [e3])
            rw [h, Hl.out]; rfl
          have Hs : Hid ((liveK κ r D k && (κ k).mk.same ⟨a, bb, st⟩) = (ss.toList == st.toList)) := by
            show _ = _
            rw [Hl.out, Hsm.out]; simp
          clear HNX Hnr Hsm
          cases e4 : (ss.toList == st.toList) with
          | true =>
            rw [e4] at Hs
            go_wp2
            go_ret2
            refine ⟨(k : Int), ((C + 1 : Nat) : Int), by go_num, ?_, .inl ⟨k, hlt, HN.out, Hs.out, rfl, by rw [Hnx.out]⟩⟩
            exact HB.out.trans ((HB2 _).out.mono HB.out.size)
          | false =>
            rw [e4] at Hs
            go_wp2
            go_roundg (n - (k + 1))
            case measure => omega
            case rel =>
              refine ⟨k + 1, by omega, rfl, by go_num, ?_, not_below_succ HN.out Hs.out, (HB2 _).out⟩
              rw [Hnx.out]; go_num
        · have Hnx : Hid (cntP (fun i => liveK κ r D i && (κ i).mk.near ⟨kd, bt, st⟩) (k + 1) = C) := by
            have h := (HNX false).out (by rw [Hnr.out]; simpa using hN)
            rw [h, Bool.and_false]; rfl
          have Hs : Hid ((liveK κ r D k && (κ k).mk.same ⟨kd, bt, st⟩) = false) := by
            show _ = _
            rw [Hsm.out]
            cases h : ((a == kd) && (bb == bt) && (ss.toList == st.toList)) with
            | false => simp
            | true =>
              exfalso
              apply hN
              simp only [Bool.and_eq_true, beq_iff_eq] at h ⊢
              refine ⟨h.1, ?_⟩
              have h2 := congrArg List.length h.2
              rw [ByteArray.toList_eq, ByteArray.toList_eq] at h2
              simp only [Array.length_toList] at h2
              exact congrArg (fun x : Nat => (x : Int)) h2
          clear HNX Hnr Hsm
          by_cases e1 : a = kd
          · subst e1
            by_cases e2 : bb = bt
            · subst e2
              have e3 : ¬ ((ss.size : Int) = (st.size : Int)) := by simpa using hN
              clear hN
              go_wp2
              go_roundg (n - (k + 1))
              case measure => omega
              case rel => exact ⟨k + 1, by omega, rfl, by go_num, by rw [Hnx.out], not_below_succ HN.out Hs.out, (HB2 _).out⟩
            · clear hN
              go_wp2
              go_roundg (n - (k + 1))
              case measure => omega
              case rel => exact ⟨k + 1, by omega, rfl, by go_num, by rw [Hnx.out], not_below_succ HN.out Hs.out, (HB2 _).out⟩
          · clear hN
            go_wp2
            go_roundg (n - (k + 1))
            case measure => omega
            case rel => exact ⟨k + 1, by omega, rfl, by go_num, by rw [Hnx.out], not_below_succ HN.out Hs.out, (HB2 _).out⟩
    · go_wp2
      go_ret2
      obtain rfl : k = n := by omega
      exact ⟨-1, _, rfl, HB.out.trans (HBR.out.mono HB.out.size), .inr ⟨HN.out, rfl, by rw [HC.out]⟩⟩

end Go.Proofs.Ybulkexpwy
