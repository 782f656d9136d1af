import Derived.Test.YbulkexpwkRowsOf
import Derived.Deep.CutRange
import Derived.Deep.DeepCutAuto
import Derived.Deep.Light
namespace Go.Proofs.Ybulkexpwk
open Go.RowKit
set_option linter.unusedVariables false

theorem Yba.info47 : (Yba.prog.info? 47).map (fun i => (i.zero, i.size, i.bytes)) = some (some (.agg #[.string ByteArray.empty, .string ByteArray.empty, .int .i64 0, .pointer none, .pointer none, .int .i64 0, .int .i64 0, .slice none 0 0, .int .i64 0, .int .i64 0]), 10, 112) := by kernel_rfl
theorem Yba.info51 : (Yba.prog.info? 51).map (fun i => (i.zero, i.size, i.bytes)) = some (some (.agg #[.pointer none, .bool false, .int .i64 0, .int .i64 0, .int .i64 0, .int .i64 0, .int .i64 0, .int .i64 0, .string ByteArray.empty]), 9, 80) := by kernel_rfl
theorem Yba.info3 : (Yba.prog.info? 3).map (fun i => (i.zero, i.size, i.bytes)) = some (some (.int .i64 0), 1, 8) := by kernel_rfl

def wname : ByteArray := { data := #[119] }

/-- Field r of workload q. -/
def wsv (A : Nat → Int) (q : Nat) : Nat → Value
  | 0 => .string wname
  | 1 => .string { data := #[] }
  | 2 => .int .i64 0
  | 3 => .pointer none
  | 4 => .pointer none
  | 5 => .int .i64 (A q)
  | 6 => .int .i64 (q : Int)
  | 7 => .slice none 0 0
  | _ => .int .i64 0

/-- The workloads' array: the first k are laid. -/
structure WS (A : Nat → Int) (n k : Nat) (c : Array Value) : Prop where
  size : c.size = n * 10
  f : ∀ q, q < k → ∀ r, r < 10 → c[q * 10 + r]? = some (wsv A q r)

theorem WS.at {A : Nat → Int} {n k : Nat} {c : Array Value} (h : WS A n k c) (i : Nat) (hi : i < n * 10) : ∃ x, c[i]? = some x := ⟨_, Array.getElem?_eq_getElem (by rw [h.size]; exact hi)⟩

theorem WS.store {A : Nat → Int} {n k : Nat} {c : Array Value} (h : WS A n k c) (hk : k < n) :
    WS A n (k + 1) ((((((((((c.setIfInBounds (k * 10) (.string { data := #[119] })).setIfInBounds (k * 10 + 1) (.string { data := #[] })).setIfInBounds (k * 10 + 2) (.int .i64 0)).setIfInBounds (k * 10 + 3) (.pointer none)).setIfInBounds (k * 10 + 4) (.pointer none)).setIfInBounds (k * 10 + 5) (.int .i64 (A k))).setIfInBounds
      (k * 10 + 6) (.int .i64 (k : Int))).setIfInBounds (k * 10 + 7) (.slice none 0 0)).setIfInBounds (k * 10 + 8) (.int .i64 0)).setIfInBounds (k * 10 + 9) (.int .i64 0)) := by
  have hs := h.size
  refine ⟨by simpa using hs, fun q hq r hr => ?_⟩
  by_cases e : q = k
  · subst e
    have : r = 0 ∨ r = 1 ∨ r = 2 ∨ r = 3 ∨ r = 4 ∨ r = 5 ∨ r = 6 ∨ r = 7 ∨ r = 8 ∨ r = 9 := by omega
    rcases this with rfl | rfl | rfl | rfl | rfl | rfl | rfl | rfl | rfl | rfl <;> (simp [Array.getElem?_setIfInBounds, hs, wsv, wname]; omega)
  · simp only [Array.getElem?_setIfInBounds]
    repeat rw [if_neg (by omega)]
    exact h.f q (by omega) r hr

/-- What the rest of the law leans on. -/
structure Mid (w wc : World) (n kk : Nat) (A : Nat → Int) (sa : Option Addr) : Prop where
  below : Below w.heap.size w wc
  lt : w.heap.size < wc.heap.size
  f : ∀ q, q < n → ∀ r, r < 10 → wc.cell? ⟨w.heap.size, q * 10 + r, none⟩ = some (wsv A q r)
  st : ∀ j, j < kk → ∃ S, sa = some ⟨S, 0, none⟩ ∧ wc.cell? ⟨S, j * 9, none⟩ = some (.pointer (some ⟨w.heap.size, j * 10, none⟩))

theorem mid_none {w : World} {n : Nat} {A : Nat → Int} {c : Array Value} (h : WS A n n c) : Mid w (w.alloc (.cells c 47)) n 0 A none := by
  refine ⟨(Below.refl _ _).alloc (Nat.le_refl _) _, by simp, fun q hq r hr => ?_, fun j hj => by omega⟩
  rw [World.cell?_alloc_new]; exact h.f q hq r hr

theorem mid_some {w : World} {n kk : Nat} {A : Nat → Int} {c d : Array Value} (h : WS A n n c) (hd : ∀ j, j < kk → d[j * 9]? = some (.pointer (some ⟨w.heap.size, j * 10, none⟩))) :
    Mid w ((w.alloc (.cells c 47)).alloc (.cells d 51)) n kk A (some ⟨w.heap.size + 1, 0, none⟩) := by
  have m := mid_none (w := w) h
  refine ⟨m.below.alloc (by simp) _, by simp; omega, fun q hq r hr => ?_, fun j hj => ⟨w.heap.size + 1, rfl, ?_⟩⟩
  · rw [World.cell?_alloc_past _ _ _ (by simp)]; exact m.f q hq r hr
  · rw [World.cell?_alloc_at _ _ _ _ (by simp)]; exact hd j hj

set_option maxRecDepth 100000 in
set_option maxHeartbeats 4000000 in
theorem walkC (ao : Option Addr) (b off n cap : Nat) (A : Nat → Int) (fr s : Int) (w : World) (hn : n ≤ 1048576) (hao : 0 < n → ao = some ⟨b, off, none⟩) (hs0 : 0 ≤ s) (hs : s ≤ 255)
    (hA : ∀ i, i < n → w.cell? ⟨b, off + i, none⟩ = some (.int .i64 (A i))) :
    Calls Yba.prog 4 #[.slice ao n cap, .int .i64 fr, .int .u8 s] w fun e w' => e = .returned (.bool true) ∧ Below w.heap.size w w' := by
  obtain ⟨i0, hi, hz0, hz1, hz2⟩ := info_parts Yba.info47
  obtain ⟨M, hM⟩ : ∃ M, M = madeCells (Value.agg #[.string ByteArray.empty, .string ByteArray.empty, .int .i64 0, .pointer none, .pointer none, .int .i64 0, .int .i64 0, .slice none 0 0, .int .i64 0, .int .i64 0]).cells (n * 10) := ⟨_, rfl⟩
  have hMs : M.size = n * 10 := by rw [hM, size_madeCells]
  have hmk : ∀ W, (Instr.makeSlice 43 (.int .i64 (n : Int)) (.int .i64 (n : Int))).run Yba.prog W = .ok (.slice (some ⟨W.heap.size, 0, none⟩) n n) (W.alloc (.cells M 47)) := by
    intro W
    rw [hM]; exact run_make_any (P := Yba.prog) 43 47 i0 _ 10 112 Yba.underlying43 hi hz0 hz1 hz2 .i64 .i64 n (by omega) (by omega) W
  clear hi hz0 hz1 hz2 hM i0
  go_enter Yba.func4, Yba.ntmps4
  go_wp2
  clear hmk
  go_loopg [9] n (fun gk i wr => ∃ (k : Nat) (c : Array Value), k ≤ n ∧ gk = n - k ∧ i = .int .i64 k ∧ wr = w.alloc (.cells c 47) ∧ WS A n k c)
  case atStart => exact ⟨0, M, Nat.zero_le _, rfl, rfl, rfl, hMs, fun q hq => by omega⟩
  case round =>
    obtain ⟨k, c, hk, rfl, rfl, rfl, hc⟩ := hrel
    by_cases hlt : k < n
    · have hkz : (k : Int) < (n : Int) := by omega
      obtain rfl := hao (by omega)
      have hcA := hA k hlt
      have hbs : b < w.heap.size := World.block_lt_of_cell? _ _ hcA
      obtain ⟨x0, e0⟩ := hc.at (k * 10) (by omega)
      obtain ⟨x1, e1⟩ := hc.at (k * 10 + 1) (by omega)
      obtain ⟨x2, e2⟩ := hc.at (k * 10 + 2) (by omega)
      obtain ⟨x3, e3⟩ := hc.at (k * 10 + 3) (by omega)
      obtain ⟨x4, e4⟩ := hc.at (k * 10 + 4) (by omega)
      obtain ⟨x5, e5⟩ := hc.at (k * 10 + 5) (by omega)
      obtain ⟨x6, e6⟩ := hc.at (k * 10 + 6) (by omega)
      obtain ⟨x7, e7⟩ := hc.at (k * 10 + 7) (by omega)
      obtain ⟨x8, e8⟩ := hc.at (k * 10 + 8) (by omega)
      obtain ⟨x9, e9⟩ := hc.at (k * 10 + 9) (by omega)
      clear hA
      go_wp2
      go_roundg (n - (k + 1))
      case measure => omega
      case rel => exact ⟨k + 1, _, by omega, rfl, by go_num, rfl, hc.store hlt⟩
    · have : k = n := by omega
      subst this
      obtain ⟨kk, hkk⟩ : ∃ kk : Nat, s % ((k : Int) + 1) = (kk : Int) := ⟨(s % ((k : Int) + 1)).toNat, by have := Int.emod_nonneg s (show (k : Int) + 1 ≠ 0 by omega); omega⟩
      have hkn : kk ≤ k := by have := Int.emod_lt_of_pos s (show 0 < (k : Int) + 1 by omega); omega
      have hst := mid_none (w := w) hc
      go_upto_if 48 with fail
      rw [hkk]
      go_cut [11] (fun v wc => ∃ sa, v = .slice sa kk kk ∧ Mid w wc k kk A sa)
      case first =>
        by_cases hk0 : kk = 0
        · subst hk0
          have hf : decide ((0 : Int) < ((0 : Nat) : Int)) = false := by simp
          go_wp2
          go_meet
          case rel => exact ⟨none, rfl, hst⟩
        · have hf : (0 : Int) < (kk : Int) := by omega
          obtain ⟨i1, hi, hz0, hz1, hz2⟩ := info_parts Yba.info51
          obtain ⟨D, hD⟩ : ∃ D, D = madeCells (Value.agg #[.pointer none, .bool false, .int .i64 0, .int .i64 0, .int .i64 0, .int .i64 0, .int .i64 0, .int .i64 0, .string ByteArray.empty]).cells (kk * 9) := ⟨_, rfl⟩
          have hDs : D.size = kk * 9 := by rw [hD, size_madeCells]
          have hmk : ∀ W, (Instr.makeSlice 48 (.int .i64 (kk : Int)) (.int .i64 (kk : Int))).run Yba.prog W = .ok (.slice (some ⟨W.heap.size, 0, none⟩) kk kk) (W.alloc (.cells D 51)) := by
            intro W
            rw [hD]; exact run_make_any (P := Yba.prog) 48 51 i1 _ 9 80 Yba.underlying48 hi hz0 hz1 hz2 .i64 .i64 kk (by omega) (by omega) W
          clear hi hz0 hz1 hz2 hD i1 hst hkk
          go_wp2
          clear hmk
          go_loopg [12] kk (fun gk i wr => ∃ (q : Nat) (d : Array Value), q ≤ kk ∧ gk = kk - q ∧ i = .int .i64 q ∧ wr = (w.alloc (.cells c 47)).alloc (.cells d 51) ∧ d.size = kk * 9 ∧ ∀ j, j < q → d[j * 9]? = some (.pointer (some ⟨w.heap.size, j * 10, none⟩)))
          case atStart => exact ⟨0, D, Nat.zero_le _, rfl, rfl, rfl, hDs, fun j hj => by omega⟩
          case round =>
            obtain ⟨q, d, hq, rfl, rfl, rfl, hds, hdj⟩ := hrel
            by_cases hql : q < kk
            · have hqz : (q : Int) < (kk : Int) := by omega
              have hqz2 : (q : Int) < (k : Int) := by omega
              obtain ⟨y, ey⟩ : ∃ y, d[q * 9]? = some y := ⟨_, Array.getElem?_eq_getElem (by omega)⟩
              have HD := hide hdj
              clear hdj
              go_wp2
              go_roundg (kk - (q + 1))
              case measure => omega
              case rel =>
                refine ⟨q + 1, _, by omega, rfl, by go_num, rfl, by simpa using hds, fun j hj => ?_⟩
                rw [Array.getElem?_setIfInBounds]
                by_cases e : j = q
                · subst e; simp; omega
                · rw [if_neg (by omega)]; exact HD.out j (by omega)
            · have : q = kk := by omega
              subst this
              go_wp2
              go_meet
              case rel => exact ⟨_, rfl, mid_some hc hdj⟩
      case rest =>
        obtain ⟨sa, rfl, hm⟩ := hcut
        clear hc hkk hst hMs c
        have HR := rows_any wc.heap.size w.heap.size k kk kk sa fr A (wc.alloc (.cells #[.slice none 0 0, .bool false, .slice (some ⟨w.heap.size, 0, none⟩) k k, .bool false, .int .i64 fr, .slice sa kk kk] 55)) hn hkn
          (by simp) (by simp) (by simp) (fun i hi => (World.cell?_alloc_past _ _ _ hm.lt).trans (hm.f i hi 5 (by omega)))
        go_wp2_with fail
        refine HR.mono ?_
        rintro e w2 ⟨g, gcap, rfl, own2, hb2⟩
        clear HR
        -- what is known from here on, of the world behind rowsOf
        have hb0 : Below wc.heap.size wc w2 := ((Below.refl _ _).alloc (Nat.le_refl _) _).trans (hb2.mono (by simp))
        have hbw : Below w.heap.size w w2 := hm.below.trans (hb0.mono (by have := hm.lt; omega))
        have l2 : w2.cell? ⟨wc.heap.size, 2, none⟩ = some (.slice (some ⟨w.heap.size, 0, none⟩) k k) := keep hb2 (by simp)
        have l4 : w2.cell? ⟨wc.heap.size, 4, none⟩ = some (.int .i64 fr) := keep hb2 (by simp)
        have l5 : w2.cell? ⟨wc.heap.size, 5, none⟩ = some (.slice sa kk kk) := keep hb2 (by simp)
        have HF : Hid (∀ q, q < k → ∀ r, r < 10 → w2.cell? ⟨w.heap.size, q * 10 + r, none⟩ = some (wsv A q r)) := fun q hq r hr => keep hb0 (hm.f q hq r hr)
        have HS : Hid (∀ j, j < kk → ∃ S, sa = some ⟨S, 0, none⟩ ∧ w2.cell? ⟨S, j * 9, none⟩ = some (.pointer (some ⟨w.heap.size, j * 10, none⟩))) := fun j hj => by
          obtain ⟨S, e, h⟩ := hm.st j hj
          exact ⟨S, e, keep hb0 h⟩
        have HA : Hid (∀ i, i < k → w2.cell? ⟨b, off + i, none⟩ = some (.int .i64 (A i))) := fun i hi => keep hbw (hA i hi)
        have hkl := kept_le A fr k
        have hlt1 : ∀ x ∈ kept A fr k, x < k := by intro x hx; simp [kept] at hx; exact hx.1
        have HP : Hid (∀ j (hj : j < (kept A fr k).length), w2.cell? ⟨g, j, none⟩ = some (.pointer (some ⟨w.heap.size, ((kept A fr k)[j]) * 10, none⟩)) ∧ ((kept A fr k)[j]) < k) := fun j hj => by
          refine ⟨?_, hlt1 _ (List.getElem_mem hj)⟩
          rw [own2.cellAt j (by omega)]
          simp [ptrs, hj]
        clear own2 hm hb2 hb0 hA hlt1
        have hq1 := fun W => Lib.run_eql_slice_nil (P := Yba.prog) W 56 49 (some ⟨g, 0, none⟩) (kept A fr k).length gcap 0 0 Yba.underlying56
        obtain ⟨i1, hi, hz0, hz1, hz2⟩ := info_parts Yba.info3
        obtain ⟨D, hD⟩ : ∃ D, D = madeCells (Value.int .i64 0).cells (k * 1) := ⟨_, rfl⟩
        have hDs : D.size = k * 1 := by rw [hD, size_madeCells]
        have hmk : ∀ W, (Instr.makeSlice 58 (.int .i64 0) (.int .i64 (k : Int))).run Yba.prog W = .ok (.slice (some ⟨W.heap.size, 0, none⟩) 0 k) (W.alloc (.cells D 3)) := by
          intro W
          rw [hD]; exact run_make_cap (P := Yba.prog) 58 3 i1 _ 1 8 Yba.underlying58 hi hz0 hz1 hz2 .i64 .i64 _ k rfl (by omega) (by omega) W
        have own0 := World.ownsRow_made (base := w2.heap.size) (e := 3) (size := 1) w2 D k (Nat.le_refl _) (by unfold maxLen; omega) hDs
        clear hD hDs
        go_wp2
        clear hq1 hmk
        go_loopg [16, 15] k (fun gk i v wr => ∃ q g2 cap2 : Nat, q ≤ k ∧ gk = k - q ∧ i = .int .i64 q ∧ v = .slice (some ⟨g2, 0, none⟩) (kept A fr q).length cap2 ∧
            wr.ownsRow w2.heap.size 3 1 (.slice (some ⟨g2, 0, none⟩) (kept A fr q).length cap2) (kept A fr q).length ((kept A fr q).map fun (x : Nat) => Value.int .i64 (x : Int)) ∧ Below w2.heap.size w2 wr)
        case atStart => exact ⟨0, w2.heap.size, k, Nat.zero_le _, rfl, rfl, rfl, own0, (Below.refl _ _).alloc (Nat.le_refl _) _⟩
        case round =>
          obtain ⟨q, g2, cap2, hq, rfl, rfl, rfl, hown, hb⟩ := hrel
          clear own0
          by_cases hlt : q < k
          · have hqz : (q : Int) < (k : Int) := by omega
            obtain rfl := hao (by omega)
            have dA := keep hb (HA.out q hlt)
            have hkq := kept_le A fr q
            have hsz := hb.size
            clear l2 l4 l5
            by_cases ht : A q < fr
            · have HK : Hid (kept A fr (q + 1) = kept A fr q) := kept_miss (by omega)
              revert dA ht
              generalize A q = a
              intro dA ht
              go_wp2
              go_roundg (k - (q + 1))
              case measure => omega
              case rel =>
                refine ⟨q + 1, g2, cap2, by omega, rfl, by go_num, ?_, ?_, hb⟩
                · rw [HK.out]
                · rw [HK.out]; exact hown
            · have HK : Hid (kept A fr (q + 1) = kept A fr q ++ [q]) := kept_hit (by omega)
              have ht' : decide (A q < fr) = false := by simpa using ht
              revert dA ht ht'
              generalize A q = a
              intro dA ht ht'
              go_wp2_with (first
                | (at_builtin; refine wpList_append_own _ rfl _ _ 58 rfl w2.heap.size 3 i1 (.int .i64 0) 1 8 Yba.underlying58 hi hz0 hz1 hz2 rfl (by decide) _ _ _ rfl (hown.alloc _) ⟨wr.heap.size, 0, none⟩ 1 1 [.int .i64 (q : Int)] rfl rfl ?c1 ?c2 ?c3 ?c4 ?c5 ?_))
              case c2 => rfl
              case c3 => unfold maxLen; omega
              case c4 => omega
              case c5 => omega
              intro v' w3 own3 hg3 _
              obtain ⟨g', cap', hv', hg1, hg2⟩ := own_form own3 (by omega)
              rw [hv'] at own3 ⊢
              have hb3 : Below w2.heap.size w2 w3 := (hb.alloc (by omega) _).grown hg3 (by simp; omega) (fun x hx => (hown.lt x hx).1)
              clear hv' hg3 hown
              go_wp2
              go_roundg (k - (q + 1))
              case measure => omega
              case rel =>
                refine ⟨q + 1, g', cap', by omega, rfl, by go_num, ?_, ?_, hb3⟩
                · rw [HK.out]; simp
                · rw [HK.out]; simpa using own3
          · have : q = k := by omega
            subst this
            clear hi hz0 hz1 hz2
            have HQ : Hid (∀ j (hj : j < (kept A fr q).length), wr.cell? ⟨g2, j, none⟩ = some (.int .i64 (((kept A fr q)[j] : Nat) : Int))) := fun j hj => by
              rw [hown.cellAt j (by omega)]
              simp [hj]
            clear hown
            generalize kept A fr q = ks at *
            go_wp2
            -- the pointers are those of the kept rows
            go_loopg [17] ks.length (fun gk i wx => ∃ j m : Nat, j ≤ ks.length ∧ gk = ks.length - j ∧ i = .int .i64 j ∧ wx = wr.drewN m)
            case atStart => exact ⟨0, 0, Nat.zero_le _, rfl, rfl, rfl⟩
            case round =>
              obtain ⟨j, m, hj, rfl, rfl, rfl⟩ := hrel
              have d2 := keep hb l2
              by_cases hjl : j < ks.length
              · obtain ⟨p1, p2⟩ := HP.out j hjl
                have d1 := keep hb p1
                have d3 := HQ.out j hjl
                have hjz : (j : Int) < (ks.length : Int) := by omega
                revert d1 d3 p2
                generalize ks[j] = x
                intro p2 d1 d3
                have hxz : (x : Int) < (q : Int) := by omega
                clear l2 l4 l5 p1
                obtain ⟨i2, hi2, _⟩ := info_parts Yba.info47
                have hpn := fun (a : Addr) (W : World) => run_neq_ptr_same (P := Yba.prog) (tp := 49) a Yba.underlying49 hi2 W
                go_wp2
                go_quiet (fail)
                go_wp2
                go_roundg (ks.length - (j + 1))
                case measure => omega
                case rel => exact ⟨j + 1, _, by omega, rfl, by go_num, rfl⟩
              · have d4 := keep hb l4
                have d5 := keep hb l5
                have hbm : Below w2.heap.size w2 (wr.drewN m) := below_drewN hb m
                clear HP HQ
                go_wp2
                clear d4 d5 d2
                go_loopg [18] q (fun gk i wx => ∃ x : Nat, x ≤ q ∧ gk = q - x ∧ i = .int .i64 x ∧ Below w2.heap.size w2 wx)
                case atStart => exact ⟨0, Nat.zero_le _, rfl, rfl, hbm⟩
                case round =>
                  obtain ⟨x, hx, rfl, rfl, hbx⟩ := hrel
                  rename World => WX
                  have hszx := hbx.size
                  by_cases hxl : x < q
                  · obtain rfl := hao (by omega)
                    have hxz : (x : Int) < (q : Int) := by omega
                    have d2 := keep hbx l2
                    have dA := keep hbx (HA.out x hxl)
                    have hbl := World.block_lt_of_cell? _ _ dA
                    have y0 : _ = some (wsv A x 0) := keep hbx (HF.out x hxl 0 (by omega))
                    have y1 : _ = some (wsv A x 1) := keep hbx (HF.out x hxl 1 (by omega))
                    have y2 : _ = some (wsv A x 2) := keep hbx (HF.out x hxl 2 (by omega))
                    have y3 : _ = some (wsv A x 3) := keep hbx (HF.out x hxl 3 (by omega))
                    have y4 : _ = some (wsv A x 4) := keep hbx (HF.out x hxl 4 (by omega))
                    have y5 : _ = some (wsv A x 5) := keep hbx (HF.out x hxl 5 (by omega))
                    have y6 : _ = some (wsv A x 6) := keep hbx (HF.out x hxl 6 (by omega))
                    have y7 : _ = some (wsv A x 7) := keep hbx (HF.out x hxl 7 (by omega))
                    have y8 : _ = some (wsv A x 8) := keep hbx (HF.out x hxl 8 (by omega))
                    have y9 : _ = some (wsv A x 9) := keep hbx (HF.out x hxl 9 (by omega))
                    simp only [wsv, wname, Nat.add_zero] at y0 y1 y2 y3 y4 y5 y6 y7 y8 y9
                    clear l2 l4 l5
                    revert dA y5
                    generalize A x = a
                    intro dA y5
                    go_wp2
                    go_quiet (fail)
                    go_wp2
                    go_roundg (q - (x + 1))
                    case measure => omega
                    case rel => exact ⟨x + 1, by omega, rfl, by go_num, below_drewN (hbx.alloc (by omega) _) _⟩
                  · have d5 := keep hbx l5
                    clear HF HA l2 l4 l5
                    go_wp2
                    go_loopg [20] kk (fun gk i wy => ∃ y m : Nat, y ≤ kk ∧ gk = kk - y ∧ i = .int .i64 y ∧ wy = WX.drewN m)
                    case atStart => exact ⟨0, 0, Nat.zero_le _, rfl, rfl, rfl⟩
                    case round =>
                      obtain ⟨y, m, hy, rfl, rfl, rfl⟩ := hrel
                      by_cases hyl : y < kk
                      · obtain ⟨S, hsa, hS⟩ := HS.out y hyl
                        have dS := keep hbx hS
                        clear hS
                        subst hsa
                        have hyz : (y : Int) < (kk : Int) := by omega
                        have hyz2 : (y : Int) < (q : Int) := by omega
                        obtain ⟨i2, hi2, _⟩ := info_parts Yba.info47
                        have hpn := fun (a : Addr) (W : World) => run_neq_ptr_same (P := Yba.prog) (tp := 49) a Yba.underlying49 hi2 W
                        go_wp2
                        go_quiet (fail)
                        go_wp2
                        go_roundg (kk - (y + 1))
                        case measure => omega
                        case rel => exact ⟨y + 1, _, by omega, rfl, by go_num, rfl⟩
                      · go_wp2
                        go_ret
                        exact ⟨rfl, hbw.trans ((below_drewN hbx _).mono (by have := hbw.size; omega))⟩

set_option maxRecDepth 100000 in
theorem longC (ao : Option Addr) (n cap : Nat) (fr s : Int) (w : World) (hn : 1048576 < n) (hm : n ≤ 9223372036854775807) :
    Calls Yba.prog 4 #[.slice ao n cap, .int .i64 fr, .int .u8 s] w fun e w' => e = .returned (.bool true) ∧ Below w.heap.size w w' := by
  have h : (1048576 : Int) < (n : Int) := by omega
  go_enter Yba.func4, Yba.ntmps4
  go_wp2
  go_ret
  exact ⟨rfl, Below.refl _ _⟩
end Go.Proofs.Ybulkexpwk
