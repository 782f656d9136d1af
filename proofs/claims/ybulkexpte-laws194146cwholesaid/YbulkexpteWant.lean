import Derived.Test.YbulkexpteRows
import Derived.WalkKit
import Derived.ProofKit
import Derived.Below
import Derived.WalkLawsBesides
import Derived.Laws.BitsAllLaws
import Derived.Outline
namespace Go.Proofs.Ybulkexpte
open Go.RowKit
set_option linter.unusedVariables false

/-- The bytes of one component, in plain numbers. -/
def comp (s f l : Int) : List Int := if f = l then [s, f / 256, f % 256] else [(s + 1) % 256, f / 256, f % 256, l / 256, l % 256]
def cells (zs : List Int) : List Value := zs.map (Value.int .u8)

theorem and255 (f : Int) (h0 : 0 ≤ f) (h1 : f ≤ 65535) : bits .and .u16 f 255 = f % 256 := by
  rw [u16_and f 255 h0 (by omega) (by omega) (by omega)]
  have : (255 : Int).toNat = 255 := rfl
  rw [this, nat_mask8]; omega

theorem want_any (s f l : Int) (w : World) (hs0 : 0 ≤ s) (hs : s ≤ 255) (hf0 : 0 ≤ f) (hf : f ≤ 65535) (hl0 : 0 ≤ l) (hl : l ≤ 65535) :
    Calls Yba.prog 6 #[.int .u8 s, .agg #[.int .u16 f, .int .u16 l]] w fun e w' => e = .returned (.slice (some ⟨w.heap.size + 1, 0, none⟩) (comp s f l).length (comp s f l).length) ∧ w' = (w.alloc (.cells #[.int .u16 f, .int .u16 l] 27)).alloc (.cells (cells (comp s f l)).toArray 5) := by
  have a1 := and255 f hf0 hf
  have a2 := and255 l hl0 hl
  by_cases hne : f = l
  · subst hne
    have e : comp s f f = [s, f / 256, f % 256] := by simp [comp]
    rw [e]
    clear e
    go_enter Yba.func6, Yba.ntmps6
    go_wp2
    go_ret
    exact ⟨rfl, rfl⟩
  · have e : comp s f l = [(s + 1) % 256, f / 256, f % 256, l / 256, l % 256] := by simp [comp, hne]
    have hb : (f == l) = false := by simpa using hne
    rw [e]
    clear e hne
    go_enter Yba.func6, Yba.ntmps6
    go_wp2
    go_ret
    exact ⟨rfl, rfl⟩

theorem Yba.info5 : (Yba.prog.info? 5).map (fun i => (i.zero, i.size, i.bytes)) = some (some (.int .u8 0), 1, 1) := by kernel_rfl
theorem Yba.info28 : (Yba.prog.info? 28).map (fun i => (i.zero, i.size, i.bytes)) = some (some (.slice none 0 0), 1, 24) := by kernel_rfl

theorem two_cells (w : World) (n : Nat) (a b : Value) (t : TypeId) (hn : n = w.heap.size) : ∀ j u, [a, b][j]? = some u → (w.alloc (.cells #[a, b] t)).cell? ((⟨n, 0, none⟩ : Addr).add j) = some u := by
  intro j u hj
  subst hn
  match j, hj with
  | 0, hj => simp at hj; subst hj; simp [Addr.add]
  | 1, hj => simp at hj; subst hj; simp [Addr.add]

theorem own_form {w : World} {B e n : Nat} {v : Value} {xs : List Value} (h : w.ownsRow B e 1 v n xs) (hn : 0 < n) : ∃ g cap, v = .slice (some ⟨g, 0, none⟩) n cap ∧ B ≤ g ∧ g < w.heap.size := by
  rcases h.2 with ⟨_, h0⟩ | ⟨g, cap, cur, rfl, hb, hg, _⟩
  · omega
  · exact ⟨g, cap, rfl, hb, (Array.getElem?_eq_some_iff.1 hg).1⟩

theorem app16 (B n : Nat) (v : Int) (sv : Value) (xs : List Value) (w : World) (hv0 : 0 ≤ v) (hv : v ≤ 65535) (hown : w.ownsRow B 5 1 sv n xs) (hB : B ≤ w.heap.size) (hn : n ≤ 100) :
    Calls Yba.prog 7 #[.agg #[], sv, .int .u16 v] w fun e w' => ∃ g cap, e = .returned (.slice (some ⟨g, 0, none⟩) (n + 2) cap) ∧ w'.ownsRow B 5 1 (.slice (some ⟨g, 0, none⟩) (n + 2) cap) (n + 2) (xs ++ [.int .u8 (v / 256), .int .u8 (v % 256)]) ∧ w.grownBy w' sv.ownBlock ∧ B ≤ g ∧ g < w'.heap.size := by
  obtain ⟨i0, hi, hz0, hz1, hz2⟩ := info_parts Yba.info5
  go_enter Yba.func7, Yba.ntmps7
  go_wp2_with (first
      | (at_builtin; refine wpList_append_own _ rfl _ _ 28 rfl B 5 i0 (.int .u8 0) 1 1 Yba.underlying28 hi hz0 hz1 hz2 rfl (by decide) _ _ _ rfl ((hown.alloc _).alloc _) ⟨w.heap.size + 1, 0, none⟩ 2 2 [.int .u8 (v / 256), .int .u8 (v % 256)] rfl rfl ?c1 ?c2 ?c3 ?c4 ?c5 ?_)
      | go_in)
  case c1 => exact two_cells _ _ _ _ _ (by simp)
  case c2 => intro u hu; simp at hu; rcases hu with rfl | rfl <;> rfl
  case c3 => unfold maxLen; omega
  case c4 => omega
  case c5 => simp; omega
  intro v' w1 hown' hg _
  go_wp2
  go_ret
  obtain ⟨g, cp, hv', hBg, hgl⟩ := own_form hown' (by omega)
  refine ⟨g, cp, by rw [hv']; rfl, hv' ▸ hown', ?_, hBg, hgl⟩
  exact ⟨hg.os, hg.tape, hg.output, by have := hg.size; simp at this; omega, fun k hk hne => (hg.block k (by simp; omega) hne).trans (by rw [Below.heap_alloc _ _ _ (by simp; omega), Below.heap_alloc _ _ _ hk])⟩
end Go.Proofs.Ybulkexpte
