import Derived.Test.YbulkexpwyRows
import Derived.Test.YbulkexpwyGen
import Derived.Deep.LoopGhost
import Derived.Deep.QuietTactic
import Derived.BigQuiet
import Derived.RegionTactic
import Derived.Outline
import Derived.Laws.BytesArg
import Derived.Lib.SmallJoins
import Derived.Lib.SlBytesConst
namespace Go.Proofs.Ybulkexpwy
open Go.RowKit
set_option linter.unusedVariables false

def bomB (x0 x1 x2 : Int) : Bool := (x0 == 239) && (x1 == 187) && (x2 == 191)

theorem str_eq3 (x0 x1 x2 : Int) (h0 : 0 ≤ x0 ∧ x0 ≤ 255) (h1 : 0 ≤ x1 ∧ x1 ≤ 255) (h2 : 0 ≤ x2 ∧ x2 ≤ 255) :
    ((strOfNums [x0, x1, x2]).toList == (strOfNums [239, 187, 191]).toList) = bomB x0 x1 x2 := by
  have e : ∀ a b : Int, 0 ≤ a ∧ a ≤ 255 → 0 ≤ b ∧ b ≤ 255 → (UInt8.ofNat a.toNat == UInt8.ofNat b.toNat) = (a == b) := by
    intro a b ha hb
    rw [Bool.eq_iff_iff]
    simp only [beq_iff_eq]
    constructor
    · intro h
      have := congrArg UInt8.toNat h
      simp [UInt8.toNat_ofNat'] at this
      omega
    · intro h; rw [h]
  rw [ByteArray.toList_eq, ByteArray.toList_eq]
  simp only [strOfNums_data, List.map_cons, List.map_nil, bomB]
  show (UInt8.ofNat x0.toNat == UInt8.ofNat (239 : Int).toNat && (UInt8.ofNat x1.toNat == UInt8.ofNat (187 : Int).toNat && (UInt8.ofNat x2.toNat == UInt8.ofNat (191 : Int).toNat && true))) = _
  rw [e x0 239 h0 (by omega), e x1 187 h1 (by omega), e x2 191 h2 (by omega)]
  simp [Bool.and_assoc]

theorem equal3 (g1 o1 c1 g2 o2 c2 : Nat) (x0 x1 x2 : Int) (w : World) (b0 : 0 ≤ x0 ∧ x0 ≤ 255) (b1 : 0 ≤ x1 ∧ x1 ≤ 255) (b2 : 0 ≤ x2 ∧ x2 ≤ 255)
    (h1 : ∀ i, i < 3 → w.cell? ⟨g1, o1 + i, none⟩ = some (.int .u8 ([x0, x1, x2].getD i 0))) (h2 : ∀ i, i < 3 → w.cell? ⟨g2, o2 + i, none⟩ = some (.int .u8 ([(239 : Int), 187, 191].getD i 0))) :
    Calls Yba.prog 17 #[.slice (some ⟨g1, o1, none⟩) 3 c1, .slice (some ⟨g2, o2, none⟩) 3 c2] w fun e w' => e = .returned (.bool (bomB x0 x1 x2)) ∧ w' = w := by
  have r1 := run_convert_bytes_arg (P := Yba.prog) w 47 5 Yba.underlying47 Yba.underlying5 g1 o1 3 c1 [x0, x1, x2] rfl h1 9 Yba.underlying9
  have r2 := run_convert_bytes_arg (P := Yba.prog) w 47 5 Yba.underlying47 Yba.underlying5 g2 o2 3 c2 [239, 187, 191] rfl h2 9 Yba.underlying9
  have he := str_eq3 x0 x1 x2 b0 b1 b2
  generalize strOfNums [x0, x1, x2] = s1 at *
  generalize strOfNums [239, 187, 191] = s2 at *
  clear h1 h2
  go_enter Yba.func17, Yba.ntmps17
  go_wp2
  go_ret
  exact ⟨rfl, rfl⟩

theorem pre_short (ao : Option Addr) (n c : Nat) (v : Value) (w : World) (hn : n < 3) (g2 o2 c2 : Nat) :
    Calls Yba.prog 15 #[.slice ao n c, .slice (some ⟨g2, o2, none⟩) 3 c2] w fun e w' => e = .returned (.bool false) ∧ w' = w := by
  have hz : decide ((3 : Int) ≤ (n : Int)) = false := by simp; omega
  go_enter Yba.func15, Yba.ntmps15
  go_wp2
  go_ret
  exact ⟨rfl, rfl⟩

theorem pre_long (g1 o1 n c1 g2 o2 c2 : Nat) (x0 x1 x2 : Int) (w : World) (hn : 3 ≤ n) (hc : n ≤ c1) (b0 : 0 ≤ x0 ∧ x0 ≤ 255) (b1 : 0 ≤ x1 ∧ x1 ≤ 255) (b2 : 0 ≤ x2 ∧ x2 ≤ 255)
    (h1 : ∀ i, i < 3 → w.cell? ⟨g1, o1 + i, none⟩ = some (.int .u8 ([x0, x1, x2].getD i 0))) (h2 : ∀ i, i < 3 → w.cell? ⟨g2, o2 + i, none⟩ = some (.int .u8 ([(239 : Int), 187, 191].getD i 0))) :
    Calls Yba.prog 15 #[.slice (some ⟨g1, o1, none⟩) n c1, .slice (some ⟨g2, o2, none⟩) 3 c2] w fun e w' => e = .returned (.bool (bomB x0 x1 x2)) ∧ w' = w := by
  have hz : (3 : Int) ≤ (n : Int) := by omega
  have HE := equal3 g1 o1 c1 g2 o2 c2 x0 x1 x2 w b0 b1 b2 h1 h2
  clear h1 h2
  go_enter Yba.func15, Yba.ntmps15
  go_wp2_with fail
  refine HE.mono ?_
  rintro e w' ⟨rfl, hw⟩
  have hw' := hw.symm
  subst hw'
  go_wp2
  go_ret
  exact ⟨rfl, rfl⟩

def bomCells : Array Value := #[.int .u8 239, .int .u8 187, .int .u8 191]
def offOf (bo : Bool) : Int := if bo then 3 else 0

theorem new_any (f : ByteArray) (ao : Option Addr) (n c : Nat) (bo : Bool) (w : World)
    (HP : ∀ S, Calls Yba.prog 15 #[.slice ao n c, .slice (some ⟨w.heap.size + 1, 0, none⟩) 3 3] ((w.alloc (.cells S 52)).alloc (.cells #[.int .u8 239, .int .u8 187, .int .u8 191] 5 (3, 4))) fun e w' => e = .returned (.bool bo) ∧ w' = (w.alloc (.cells S 52)).alloc (.cells #[.int .u8 239, .int .u8 187, .int .u8 191] 5 (3, 4))) :
    Calls Yba.prog 10 #[.string f, .slice ao n c] w fun e w' => e = .returned (.pointer (some ⟨w.heap.size, 0, none⟩)) ∧
      w' = (w.alloc (.cells #[.string f, .slice ao n c, .int .i64 (offOf bo), .int .i64 1, .int .i64 (offOf bo)] 52)).alloc (.cells #[.int .u8 239, .int .u8 187, .int .u8 191] 5 (3, 4)) := by
  have kc := fun (S : Array Value) => Joins.run_convert_bytes_const_at (P := Yba.prog) (w.alloc (.cells S 52)) 47 5 #[.int .u8 239, .int .u8 187, .int .u8 191] 3 3 (w.heap.size + 1) (by simp) Yba.underlying47 Yba.underlying5
  simp only [List.size_toArray, List.length_cons, List.length_nil, Nat.reduceAdd] at kc
  have HP' := hide HP
  clear HP
  cases bo with
  | true =>
    go_enter Yba.func10, Yba.ntmps10
    go_wp2_with (go_at_call 15; refine (HP'.out _).mono ?_; rintro e w' ⟨rfl, rfl⟩)
    go_ret
    exact ⟨rfl, rfl⟩
  | false =>
    go_enter Yba.func10, Yba.ntmps10
    go_wp2_with (go_at_call 15; refine (HP'.out _).mono ?_; rintro e w' ⟨rfl, rfl⟩)
    go_ret
    exact ⟨rfl, rfl⟩

/-- zzs194153csame at two slices of one length whose cells hold the same bytes. -/
theorem same_true (g1 g2 n c1 c2 : Nat) (z : Nat → Int) (w : World) (hn : n ≤ 281474976710656)
    (h1 : ∀ i, i < n → w.cell? ⟨g1, i, none⟩ = some (.int .u8 (z i))) (h2 : ∀ i, i < n → w.cell? ⟨g2, i, none⟩ = some (.int .u8 (z i))) :
    Calls Yba.prog 11 #[.slice (some ⟨g1, 0, none⟩) n c1, .slice (some ⟨g2, 0, none⟩) n c2] w fun e w' => e = .returned (.bool true) ∧ ∃ k, w' = w.drewN k := by
  have q1 := fun W => Lib.run_eql_slice_nil (P := Yba.prog) W 47 5 (some ⟨g1, 0, none⟩) n c1 0 0 Yba.underlying47
  have q2 := fun W => Lib.run_eql_slice_nil (P := Yba.prog) W 47 5 (some ⟨g2, 0, none⟩) n c2 0 0 Yba.underlying47
  go_enter Yba.func11, Yba.ntmps11
  go_wp2
  clear q1 q2
  go_loopg [5] n (fun gk i wr => ∃ k q : Nat, k ≤ n ∧ gk = n - k ∧ i = .int .i64 k ∧ wr = w.drewN q)
  case atStart => exact ⟨0, 0, Nat.zero_le _, rfl, rfl, rfl⟩
  case round =>
    obtain ⟨k, q, hk, rfl, rfl, rfl⟩ := hrel
    by_cases hlt : k < n
    · have hc1 := h1 k hlt
      have hc2 := h2 k hlt
      have hkz : (k : Int) < (n : Int) := by omega
      clear h1 h2
      go_wp2
      go_quiet (fail)
      go_wp2
      go_roundg (n - (k + 1))
      case measure => omega
      case rel => exact ⟨k + 1, _, by omega, rfl, by go_num, rfl⟩
    · clear h1 h2
      go_wp2
      go_ret
      exact ⟨rfl, _, rfl⟩

theorem same_nil (w : World) :
    Calls Yba.prog 11 #[.slice none 0 0, .slice none 0 0] w fun e w' => e = .returned (.bool true) ∧ ∃ k, w' = w.drewN k := by
  have q1 := fun W => Lib.run_eql_slice_nil (P := Yba.prog) W 47 5 none 0 0 0 0 Yba.underlying47
  go_enter Yba.func11, Yba.ntmps11
  go_wp2
  go_loopg [5] 0 (fun gk i wr => i = .int .i64 0 ∧ wr = w)
  case atStart => exact ⟨rfl, rfl⟩
  case round =>
    obtain ⟨rfl, rfl⟩ := hrel
    go_wp2
    go_ret
    exact ⟨rfl, 0, rfl⟩
end Go.Proofs.Ybulkexpwy
