import Derived.Test.YbulkexpteRows
import Derived.WalkKit
import Derived.ProofKit
import Derived.Below
import Derived.Deep.QuietTactic
import Derived.BigQuiet
import Derived.Deep.LoopGhost
import Derived.Outline
namespace Go.Proofs.Ybulkexpte
open Go.RowKit

/-- zzs194146ceq at two slices of one length whose cells hold the same bytes: true; the world has at most drawn. -/
theorem eq_true (g1 o1 g2 o2 n c1 c2 : Nat) (z : Nat → Int) (w : World) (hn : n ≤ 281474976710656)
    (h1 : ∀ i, i < n → w.cell? ⟨g1, o1 + i, none⟩ = some (.int .u8 (z i))) (h2 : ∀ i, i < n → w.cell? ⟨g2, o2 + i, none⟩ = some (.int .u8 (z i))) :
    Calls Yba.prog 5 #[.slice (some ⟨g1, o1, none⟩) n c1, .slice (some ⟨g2, o2, none⟩) n c2] w fun e w' => e = .returned (.bool true) ∧ ∃ k, w' = w.drewN k := by
  go_enter Yba.func5, Yba.ntmps5
  go_wp2
  go_loopg [5] n (fun gk i wr => ∃ k q : Nat, k ≤ n ∧ gk = n - k ∧ i = .int .i64 k ∧ wr = w.drewN q)
  case atStart => exact ⟨0, 0, Nat.zero_le _, rfl, rfl, rfl⟩
  case round =>
    obtain ⟨k, q, hk, rfl, rfl, rfl⟩ := hrel
    by_cases hlt : k < n
    · have hc1 := h1 k hlt
      have hc2 := h2 k hlt
      have hkz : (k : Int) < (n : Int) := by omega
      clear h1 h2
      go_wp2
      go_quiet (fail)
      go_wp2
      go_roundg (n - (k + 1))
      case measure => omega
      case rel => exact ⟨k + 1, _, by omega, rfl, by go_num, rfl⟩
    · clear h1 h2
      go_wp2
      go_ret
      exact ⟨rfl, _, rfl⟩
end Go.Proofs.Ybulkexpte
