/-
  The keys: zzs194153abuild, zzs194153amk, math.Trunc, keyOf, zzs194153asame.
-/
import Derived.Test.YbulkexpwyRows
import Derived.Test.YbulkexpwyGen
import Derived.Test.YbulkexpwyFlt
import Derived.Laws.Externs
import Derived.Laws.Pointers
import Derived.Laws.Rows
import Derived.Laws.NewFold
import Derived.Deep.Draws
import Derived.Laws.ResultCell
import Derived.Maps.OwnSet
import Derived.Deep.LoopGhost
import Derived.Deep.QuietTactic
import Derived.BigQuiet
import Derived.RegionTactic
import Derived.Outline
namespace Go.Proofs.Ybulkexpwy
open Go.RowKit
set_option linter.unusedVariables false

@[go_sem] theorem run_bits (b : Nat) (w : World) : (callFunc 12 #[.float .f64 b]).run Yba.prog w = .ok (.value (.int .u64 (b : Int))) w := by
  rw [run_callFunc_extern Yba.func12 (by kernel_rfl) (by kernel_rfl) (by kernel_rfl) (e := Extern.MathFloatBits.float64bits) (by kernel_rfl)]
  rfl

@[go_sem] theorem setCell_drewN (w : World) (q : Nat) (a : Addr) (v : Value) : (w.drewN q).setCell a v = (w.setCell a v).drewN q := rfl

/-- 'f == math.Trunc(f)'. -/
def tEq (b : Nat) : Bool := F64.order b (FloatKind.f64.encode ((FloatKind.f64.decode b).integral .zero)) == some .eq

theorem run_archTrunc (b : Nat) (w : World) : ∃ T k, (callFunc 18 #[.float .f64 b]).run Yba.prog w = .ok (.value (.float .f64 T)) (w.drewN k) ∧ (F64.order b T == some .eq) = tEq b := by
  rw [run_callFunc_extern Yba.func18 (by kernel_rfl) (by kernel_rfl) (by kernel_rfl) (e := Extern.MathFloor.toIntegral "math.archTrunc" .zero) (by kernel_rfl)]
  have hE : Extern.MathFloor.toIntegral "math.archTrunc" .zero #[.float .f64 b] = (match FloatKind.f64.decode b with
    | .nan s t =>
      if FloatKind.f64.format.quiet t = t then pure (.float .f64 b) else do
      let kept ← choose (.extern "math.Floor,Ceil,Trunc,RoundToEven.signallingNaN kept" 2)
      pure (.float .f64 (if kept == 1 then b else FloatKind.f64.encode (.nan s (FloatKind.f64.format.quiet t))))
    | d => pure (.float .f64 (FloatKind.f64.encode (d.integral .zero)))) := rfl
  rw [hE]
  cases hd : FloatKind.f64.decode b with
  | nan s t =>
    have hT : ∀ T, (F64.order b T == some .eq) = tEq b := by
      intro T
      have hd' : F64.read b = .nan s t := hd
      unfold tEq Ieee.Format.order
      rw [hd']
      rfl
    by_cases hq : FloatKind.f64.format.quiet t = t
    · refine ⟨b, 0, ?_, hT b⟩
      simp only [hq, if_true]
      rfl
    · simp only [hq, if_false]
      simp only [Sem.run_bind, run_choose_drew]
      split
      · exact ⟨_, 0, rfl, hT _⟩
      · exact ⟨_, 1, rfl, hT _⟩
  | infinity s => exact ⟨_, 0, rfl, by unfold tEq; rw [hd]⟩
  | number s m e => exact ⟨_, 0, rfl, by unfold tEq; rw [hd]⟩

/-- math.Trunc. -/
theorem trunc (b : Nat) (w : World) : Calls Yba.prog 16 #[.float .f64 b] w fun e w' => ∃ T k, e = .returned (.float .f64 T) ∧ w' = w.drewN k ∧ (F64.order b T == some .eq) = tEq b := by
  obtain ⟨T, k, hr, hT⟩ := run_archTrunc b w
  go_enter Yba.func16, Yba.ntmps16
  go_wp2
  go_ret
  exact ⟨T, k, rfl, rfl, hT⟩

/-- A key's plain data. -/
inductive K where
  | nil | str (s : ByteArray) | int (n : Int) | flt (b : Nat) | bool (x : Bool)

def K.val : K → Value
  | .nil => .nilIface
  | .str s => .iface 56 (.string s)
  | .int n => .iface 57 (.int .i64 n)
  | .flt b => .iface 58 (.float .f64 b)
  | .bool x => .iface 59 (.bool x)

theorem size37 : (Yba.prog.info? 37).map (·.size) = some 3 := by kernel_rfl
theorem ret6 {w : World} {w0 : World} {cs : Array Value} {a : Act} {post : Ending → World → Prop} (ht : a.tmps.getD 2 undef = .pointer (some ⟨w0.heap.size, 0, none⟩)) (hd : a.defers = []) (hw : w = w0.alloc (.cells cs 37)) (hcs : cs.size = 3) (h : post (.returned (.agg cs)) w) :
    bodyPost Yba.prog Yba.f6 post .ret a w := by
  refine bodyPost_ret (results_cell_row (p := 2) (ty := 37) rfl _ _ w0.heap.size 37 cs (0, 0) _ ht (hw ▸ heap_alloc_new _ _) Yba.underlying37 rfl ?_) hd h
  rw [size37, hcs]

@[go_sem] theorem as56_56 (v : Value) (w : World) : (Instr.typeAssert (.iface 56 v) 30 56 true).run Yba.prog w = .ok (.tuple #[v, .bool true]) w := by kernel_rfl
@[go_sem] theorem as56_57 (v : Value) (w : World) : (Instr.typeAssert (.iface 57 v) 30 56 true).run Yba.prog w = .ok (.tuple #[.string ⟨#[]⟩, .bool false]) w := by kernel_rfl
@[go_sem] theorem as56_58 (v : Value) (w : World) : (Instr.typeAssert (.iface 58 v) 30 56 true).run Yba.prog w = .ok (.tuple #[.string ⟨#[]⟩, .bool false]) w := by kernel_rfl
@[go_sem] theorem as56_59 (v : Value) (w : World) : (Instr.typeAssert (.iface 59 v) 30 56 true).run Yba.prog w = .ok (.tuple #[.string ⟨#[]⟩, .bool false]) w := by kernel_rfl
@[go_sem] theorem as56_nil (w : World) : (Instr.typeAssert .nilIface 30 56 true).run Yba.prog w = .ok (.tuple #[.string ⟨#[]⟩, .bool false]) w := by kernel_rfl
@[go_sem] theorem as57_56 (v : Value) (w : World) : (Instr.typeAssert (.iface 56 v) 30 57 true).run Yba.prog w = .ok (.tuple #[.int .i64 0, .bool false]) w := by kernel_rfl
@[go_sem] theorem as57_57 (v : Value) (w : World) : (Instr.typeAssert (.iface 57 v) 30 57 true).run Yba.prog w = .ok (.tuple #[v, .bool true]) w := by kernel_rfl
@[go_sem] theorem as57_58 (v : Value) (w : World) : (Instr.typeAssert (.iface 58 v) 30 57 true).run Yba.prog w = .ok (.tuple #[.int .i64 0, .bool false]) w := by kernel_rfl
@[go_sem] theorem as57_59 (v : Value) (w : World) : (Instr.typeAssert (.iface 59 v) 30 57 true).run Yba.prog w = .ok (.tuple #[.int .i64 0, .bool false]) w := by kernel_rfl
@[go_sem] theorem as57_nil (w : World) : (Instr.typeAssert .nilIface 30 57 true).run Yba.prog w = .ok (.tuple #[.int .i64 0, .bool false]) w := by kernel_rfl
@[go_sem] theorem as58_56 (v : Value) (w : World) : (Instr.typeAssert (.iface 56 v) 30 58 true).run Yba.prog w = .ok (.tuple #[.float .f64 0, .bool false]) w := by kernel_rfl
@[go_sem] theorem as58_57 (v : Value) (w : World) : (Instr.typeAssert (.iface 57 v) 30 58 true).run Yba.prog w = .ok (.tuple #[.float .f64 0, .bool false]) w := by kernel_rfl
@[go_sem] theorem as58_58 (v : Value) (w : World) : (Instr.typeAssert (.iface 58 v) 30 58 true).run Yba.prog w = .ok (.tuple #[v, .bool true]) w := by kernel_rfl
@[go_sem] theorem as58_59 (v : Value) (w : World) : (Instr.typeAssert (.iface 59 v) 30 58 true).run Yba.prog w = .ok (.tuple #[.float .f64 0, .bool false]) w := by kernel_rfl
@[go_sem] theorem as58_nil (w : World) : (Instr.typeAssert .nilIface 30 58 true).run Yba.prog w = .ok (.tuple #[.float .f64 0, .bool false]) w := by kernel_rfl
@[go_sem] theorem as59_56 (v : Value) (w : World) : (Instr.typeAssert (.iface 56 v) 30 59 true).run Yba.prog w = .ok (.tuple #[.bool false, .bool false]) w := by kernel_rfl
@[go_sem] theorem as59_57 (v : Value) (w : World) : (Instr.typeAssert (.iface 57 v) 30 59 true).run Yba.prog w = .ok (.tuple #[.bool false, .bool false]) w := by kernel_rfl
@[go_sem] theorem as59_58 (v : Value) (w : World) : (Instr.typeAssert (.iface 58 v) 30 59 true).run Yba.prog w = .ok (.tuple #[.bool false, .bool false]) w := by kernel_rfl
@[go_sem] theorem as59_59 (v : Value) (w : World) : (Instr.typeAssert (.iface 59 v) 30 59 true).run Yba.prog w = .ok (.tuple #[v, .bool true]) w := by kernel_rfl
@[go_sem] theorem as59_nil (w : World) : (Instr.typeAssert .nilIface 30 59 true).run Yba.prog w = .ok (.tuple #[.bool false, .bool false]) w := by kernel_rfl

/-- The key of a float. -/
def fkey (b : Nat) : Value := if isInt b then .agg #[.int .u8 105, .int .u64 (IntKind.u64.wrap (fint b)), .string ⟨#[]⟩] else .agg #[.int .u8 102, .int .u64 (b : Int), .string ⟨#[]⟩]

theorem conv_flt (b : Nat) (h : inR b = true) (w : World) : (convert 24 2 (.float .f64 b)).run Yba.prog w = .ok (.int .i64 (fint b)) w :=
  run_convert_float_int w 24 2 .f64 .i64 b _ (by rw [Yba.underlying24]; rfl) Yba.underlying2 (fint_eq b h)

theorem amk_str (s : ByteArray) (w : World) : Calls Yba.prog 6 #[.iface 56 (.string s)] w fun e w' => e = .returned (.agg #[.int .u8 115, .int .u64 0, .string s]) ∧ ∃ cs, w' = w.alloc (.cells cs 37) := by
  go_enter Yba.func6, Yba.ntmps6
  go_wp2
  refine ret6 (w0 := w) rfl rfl rfl rfl ?_
  exact ⟨rfl, _, rfl⟩

theorem amk_int (n : Int) (w : World) : Calls Yba.prog 6 #[.iface 57 (.int .i64 n)] w fun e w' => e = .returned (.agg #[.int .u8 105, .int .u64 (IntKind.u64.wrap n), .string ⟨#[]⟩]) ∧ ∃ cs, w' = w.alloc (.cells cs 37) := by
  go_enter Yba.func6, Yba.ntmps6
  go_wp2
  refine ret6 (w0 := w) rfl rfl rfl rfl ?_
  exact ⟨rfl, _, rfl⟩

theorem amk_bool (x : Bool) (w : World) : Calls Yba.prog 6 #[.iface 59 (.bool x)] w fun e w' => e = .returned (.agg #[.int .u8 98, .int .u64 (if x then 1 else 0), .string ⟨#[]⟩]) ∧ ∃ cs, w' = w.alloc (.cells cs 37) := by
  cases x with
  | true =>
    go_enter Yba.func6, Yba.ntmps6
    go_wp2
    refine ret6 (w0 := w) rfl rfl rfl rfl ?_
    exact ⟨rfl, _, rfl⟩
  | false =>
    go_enter Yba.func6, Yba.ntmps6
    go_wp2
    refine ret6 (w0 := w) rfl rfl rfl rfl ?_
    exact ⟨rfl, _, rfl⟩

theorem amk_flt (b : Nat) (w : World) : Calls Yba.prog 6 #[.iface 58 (.float .f64 b)] w fun e w' => e = .returned (fkey b) ∧ ∃ cs, w' = w.alloc (.cells cs 37) := by
  by_cases hI : inR b = true
  · have hc := conv_flt b hI
    have hI' := hI
    unfold inR at hI'
    rw [Bool.and_eq_true] at hI'
    obtain ⟨h1, h2⟩ := hI'
    by_cases hE : (F64.order (floatOfInt .f64 (fint b)) b == some .eq) = true
    · have hk : fkey b = .agg #[.int .u8 105, .int .u64 (IntKind.u64.wrap (fint b)), .string ⟨#[]⟩] := by unfold fkey isInt; rw [hI]; rw [show (F64.order (FloatKind.f64.nearest (fint b)) b == some .eq) = true from hE]; rfl
      rw [hk]
      go_enter Yba.func6, Yba.ntmps6
      go_wp2
      refine ret6 (w0 := w) rfl rfl rfl rfl ?_
      exact ⟨rfl, _, rfl⟩
    · have hE : (F64.order (floatOfInt .f64 (fint b)) b == some .eq) = false := by simpa using hE
      have hk : fkey b = .agg #[.int .u8 102, .int .u64 (b : Int), .string ⟨#[]⟩] := by unfold fkey isInt; rw [hI]; rw [show (F64.order (FloatKind.f64.nearest (fint b)) b == some .eq) = false from hE]; rfl
      rw [hk]
      go_enter Yba.func6, Yba.ntmps6
      go_wp2
      refine ret6 (w0 := w) rfl rfl rfl rfl ?_
      exact ⟨rfl, _, rfl⟩
  · have hI : inR b = false := by simpa using hI
    have hk : fkey b = .agg #[.int .u8 102, .int .u64 (b : Int), .string ⟨#[]⟩] := by unfold fkey isInt; rw [hI]; rfl
    rw [hk]
    unfold inR at hI
    cases h1 : (F64.order b 14114281232179134464 == some .gt || F64.order b 14114281232179134464 == some .eq) with
    | false =>
      clear hI
      go_enter Yba.func6, Yba.ntmps6
      go_wp2
      refine ret6 (w0 := w) rfl rfl rfl rfl ?_
      exact ⟨rfl, _, rfl⟩
    | true =>
      rw [h1, Bool.true_and] at hI
      go_enter Yba.func6, Yba.ntmps6
      go_wp2
      refine ret6 (w0 := w) rfl rfl rfl rfl ?_
      exact ⟨rfl, _, rfl⟩

def K.key : K → Value
  | .nil => .agg #[.int .u8 0, .int .u64 0, .string ⟨#[]⟩]
  | .str s => .agg #[.int .u8 115, .int .u64 0, .string s]
  | .int n => .agg #[.int .u8 105, .int .u64 (IntKind.u64.wrap n), .string ⟨#[]⟩]
  | .flt b => fkey b
  | .bool x => .agg #[.int .u8 98, .int .u64 (if x then 1 else 0), .string ⟨#[]⟩]

/-- zzs194153amk. -/
theorem amk (k : K) (hk : k ≠ .nil) (w : World) : Calls Yba.prog 6 #[k.val] w fun e w' => e = .returned k.key ∧ ∃ cs, w' = w.alloc (.cells cs 37) := by
  cases k with
  | nil => exact absurd rfl hk
  | str s => exact amk_str s w
  | int n => exact amk_int n w
  | flt b => exact amk_flt b w
  | bool x => exact amk_bool x w

/-- zzs194153abuild's plain data. -/
def bk (kd i : Int) (f : Nat) (s : ByteArray) (nl : Bool) : K :=
  if nl then .nil else if kd % 4 = 0 then .str s else if kd % 4 = 1 then .int i else if kd % 4 = 2 then .flt f else .bool (bits BinOp.and IntKind.i64 i 1 == 1)

theorem build (kd i : Int) (f : Nat) (s : ByteArray) (nl : Bool) (w : World) (h0 : 0 ≤ kd) (h1 : kd ≤ 255) (i0 : -9223372036854775808 ≤ i) (i1 : i ≤ 9223372036854775807) :
    Calls Yba.prog 5 #[.agg #[.int .u8 kd, .int .i64 i, .float .f64 f, .string s, .bool nl]] w fun e w' => e = .returned (bk kd i f s nl).val ∧ ∃ cs, w' = w.alloc (.cells cs 26) := by
  cases nl with
  | true =>
    go_enter Yba.func5, Yba.ntmps5
    go_wp2
    go_ret
    exact ⟨rfl, _, rfl⟩
  | false =>
    have h4 : kd % 4 = 0 ∨ kd % 4 = 1 ∨ kd % 4 = 2 ∨ kd % 4 = 3 := by omega
    rcases h4 with h | h | h | h
    · go_enter Yba.func5, Yba.ntmps5
      go_wp2
      go_ret
      exact ⟨by simp [bk, h, K.val], _, rfl⟩
    · go_enter Yba.func5, Yba.ntmps5
      go_wp2
      go_ret
      exact ⟨by simp [bk, h, K.val], _, rfl⟩
    · go_enter Yba.func5, Yba.ntmps5
      go_wp2
      go_ret
      exact ⟨by simp [bk, h, K.val], _, rfl⟩
    · go_enter Yba.func5, Yba.ntmps5
      go_wp2
      go_ret
      exact ⟨by simp [bk, h, K.val], _, rfl⟩

theorem ret14 {w : World} {w0 : World} {cs : Array Value} {a : Act} {x : Bool} {post : Ending → World → Prop} (ht : a.tmps.getD 2 undef = .pointer (some ⟨w0.heap.size, 0, none⟩)) (hx : a.tmps.getD 3 undef = .bool x) (hd : a.defers = []) (hw : w.heap[w0.heap.size]? = some (.cells cs 37)) (hcs : cs.size = 3) (h : post (.returned (.tuple #[.agg cs, .bool x])) w) :
    bodyPost Yba.prog Yba.f14 post .ret a w := by
  refine bodyPost_ret (v := .tuple #[.agg cs, .bool x]) ?_ hd h
  rw [results_cell_tmp (p := 2) (ty := 37) (u := 3) rfl, ht, hx]
  have hl := run_loadVar_row (P := Yba.prog) w w0.heap.size 37 37 cs (0, 0) _ hw Yba.underlying37 rfl (by rw [size37, hcs])
  simp [asAddr, hl]

/-- keyOf. -/
def KeyOf (k : K) (w : World) : Prop := Calls Yba.prog 14 #[k.val] w fun e w' => e = .returned (.tuple #[k.key, .bool true]) ∧ ∃ cs q, w' = (w.alloc (.cells cs 37)).drewN q

theorem keyOf_str (s : ByteArray) (w : World) : KeyOf (.str s) w := by
  unfold KeyOf K.val K.key
  go_enter Yba.func14, Yba.ntmps14
  go_wp2
  refine ret14 (w0 := w) rfl rfl rfl (heap_alloc_new _ _) rfl ?_
  exact ⟨rfl, _, 0, rfl⟩

theorem keyOf_int (n : Int) (w : World) : KeyOf (.int n) w := by
  unfold KeyOf K.val K.key
  go_enter Yba.func14, Yba.ntmps14
  go_wp2
  refine ret14 (w0 := w) rfl rfl rfl (heap_alloc_new _ _) rfl ?_
  exact ⟨rfl, _, 0, rfl⟩

theorem keyOf_bool (x : Bool) (w : World) : KeyOf (.bool x) w := by
  unfold KeyOf K.val K.key
  cases x with
  | true =>
    go_enter Yba.func14, Yba.ntmps14
    go_wp2
    refine ret14 (w0 := w) rfl rfl rfl (heap_alloc_new _ _) rfl ?_
    exact ⟨rfl, _, 0, rfl⟩
  | false =>
    go_enter Yba.func14, Yba.ntmps14
    go_wp2
    refine ret14 (w0 := w) rfl rfl rfl (heap_alloc_new _ _) rfl ?_
    exact ⟨rfl, _, 0, rfl⟩

theorem keyOf_flt (b : Nat) (w : World) : KeyOf (.flt b) w := by
  show Calls Yba.prog 14 #[.iface 58 (.float .f64 b)] w fun e w' => e = .returned (.tuple #[fkey b, .bool true]) ∧ ∃ cs q, w' = (w.alloc (.cells cs 37)).drewN q
  have HT := fun w => hide (trunc b w)
  by_cases hI : inR b = true
  · have hc := conv_flt b hI
    have hs := trunc_same b hI
    have hI' := hI
    unfold inR at hI'
    rw [Bool.and_eq_true] at hI'
    obtain ⟨h1, h2⟩ := hI'
    by_cases hE : tEq b = true
    · have hk : fkey b = .agg #[.int .u8 105, .int .u64 (IntKind.u64.wrap (fint b)), .string ⟨#[]⟩] := by unfold fkey isInt; rw [hI, ← hs, show (F64.order b (FloatKind.f64.encode ((FloatKind.f64.decode b).integral .zero)) == some .eq) = true from hE]; rfl
      rw [hk]
      clear hs hk
      rw [hE] at HT
      go_enter Yba.func14, Yba.ntmps14
      go_wp2_with fail
      refine (HT _).out.mono ?_
      rintro e w' ⟨T, q, rfl, rfl, hT⟩
      go_wp2
      refine ret14 (w0 := w) rfl rfl rfl (heap_alloc_new _ _) rfl ?_
      exact ⟨rfl, _, q, rfl⟩
    · have hE : tEq b = false := by simpa using hE
      have hk : fkey b = .agg #[.int .u8 102, .int .u64 (b : Int), .string ⟨#[]⟩] := by unfold fkey isInt; rw [hI, ← hs, show (F64.order b (FloatKind.f64.encode ((FloatKind.f64.decode b).integral .zero)) == some .eq) = false from hE]; rfl
      rw [hk]
      clear hs hk
      rw [hE] at HT
      go_enter Yba.func14, Yba.ntmps14
      go_wp2_with fail
      refine (HT _).out.mono ?_
      rintro e w' ⟨T, q, rfl, rfl, hT⟩
      go_wp2
      refine ret14 (w0 := w) rfl rfl rfl (heap_alloc_new _ _) rfl ?_
      exact ⟨rfl, _, q, rfl⟩
  · have hI : inR b = false := by simpa using hI
    have hk : fkey b = .agg #[.int .u8 102, .int .u64 (b : Int), .string ⟨#[]⟩] := by unfold fkey isInt; rw [hI]; rfl
    rw [hk]
    unfold inR at hI
    generalize tEq b = te at HT
    cases te with
    | false =>
      clear hI hk
      go_enter Yba.func14, Yba.ntmps14
      go_wp2_with fail
      refine (HT _).out.mono ?_
      rintro e w' ⟨T, q, rfl, rfl, hT⟩
      go_wp2
      refine ret14 (w0 := w) rfl rfl rfl (heap_alloc_new _ _) rfl ?_
      exact ⟨rfl, _, q, rfl⟩
    | true =>
      cases h1 : (F64.order b 14114281232179134464 == some .gt || F64.order b 14114281232179134464 == some .eq) with
      | false =>
        clear hI hk
        go_enter Yba.func14, Yba.ntmps14
        go_wp2_with fail
        refine (HT _).out.mono ?_
        rintro e w' ⟨T, q, rfl, rfl, hT⟩
        go_wp2
        refine ret14 (w0 := w) rfl rfl rfl (heap_alloc_new _ _) rfl ?_
        exact ⟨rfl, _, q, rfl⟩
      | true =>
        rw [h1, Bool.true_and] at hI
        clear hk
        go_enter Yba.func14, Yba.ntmps14
        go_wp2_with fail
        refine (HT _).out.mono ?_
        rintro e w' ⟨T, q, rfl, rfl, hT⟩
        go_wp2
        refine ret14 (w0 := w) rfl rfl rfl (heap_alloc_new _ _) rfl ?_
        exact ⟨rfl, _, q, rfl⟩

theorem keyOf_all (k : K) (hk : k ≠ .nil) (w : World) : KeyOf k w := by
  cases k with
  | nil => exact absurd rfl hk
  | str s => exact keyOf_str s w
  | int n => exact keyOf_int n w
  | flt b => exact keyOf_flt b w
  | bool x => exact keyOf_bool x w

theorem info56 : (Yba.prog.info? 56).map (fun i => i.comparable) = some true := by kernel_rfl
theorem info57 : (Yba.prog.info? 57).map (fun i => i.comparable) = some true := by kernel_rfl
theorem info59 : (Yba.prog.info? 59).map (fun i => i.comparable) = some true := by kernel_rfl
theorem run_eql_ifaces {P : Program} (w : World) {ti t : TypeId} {ms : Array (String × TypeId)} (x y : Value) (r : Bool) (hi : P.underlying ti = some (.interface ms)) (ht : (P.info? t).map (fun i => i.comparable) = some true)
    (he : ∀ d, (Op.equalIn (d + 1) t x y).run P w = .ok r w) : (binOp .eql ti (.iface t x) (.iface t y)).run P w = .ok (.bool r) w := by
  obtain ⟨i, h1, h2⟩ := Option.map_eq_some_iff.1 ht
  have h : ∀ d : Nat, (Op.equalIn (d + 2) ti (.iface t x) (.iface t y)).run P w = .ok r w := fun d => by
    rw [Op.equalIn]
    simp [run_underlying hi, typeInfo, h1, h2, he]
  simp only [binOp]
  simp [Op.equal, Op.maxDepth, h 9998]

/-- zzs194153asame of one value and itself. -/
theorem same (k : K) (w : World) : Calls Yba.prog 8 #[k.val, k.val] w fun e w' => e = .returned (.bool true) ∧ w' = w := by
  cases k with
  | nil =>
    show Calls Yba.prog 8 #[.nilIface, .nilIface] w _
    go_enter Yba.func8, Yba.ntmps8
    go_wp2
    go_ret
    exact ⟨rfl, rfl⟩
  | str s =>
    show Calls Yba.prog 8 #[.iface 56 (.string s), .iface 56 (.string s)] w _
    have he := run_eql_ifaces (P := Yba.prog) w (ti := 30) (t := 56) (.string s) (.string s) true Yba.underlying30 info56 (fun d => by rw [run_equalIn_string w d 56 s s Yba.underlying56]; simp)
    go_enter Yba.func8, Yba.ntmps8
    go_wp2
    go_ret
    exact ⟨rfl, rfl⟩
  | int n =>
    show Calls Yba.prog 8 #[.iface 57 (.int .i64 n), .iface 57 (.int .i64 n)] w _
    have he := run_eql_ifaces (P := Yba.prog) w (ti := 30) (t := 57) (.int .i64 n) (.int .i64 n) true Yba.underlying30 info57 (fun d => by rw [run_equalIn_int w d 57 .i64 .i64 n n Yba.underlying57]; simp)
    go_enter Yba.func8, Yba.ntmps8
    go_wp2
    go_ret
    exact ⟨rfl, rfl⟩
  | flt b =>
    show Calls Yba.prog 8 #[.iface 58 (.float .f64 b), .iface 58 (.float .f64 b)] w _
    go_enter Yba.func8, Yba.ntmps8
    go_wp2
    go_ret
    exact ⟨rfl, rfl⟩
  | bool x =>
    show Calls Yba.prog 8 #[.iface 59 (.bool x), .iface 59 (.bool x)] w _
    have he := run_eql_ifaces (P := Yba.prog) w (ti := 30) (t := 59) (.bool x) (.bool x) true Yba.underlying30 info59 (fun d => by rw [run_equalIn_bool' w d 59 x x Yba.underlying59]; simp)
    go_enter Yba.func8, Yba.ntmps8
    go_wp2
    go_ret
    exact ⟨rfl, rfl⟩

end Go.Proofs.Ybulkexpwy
