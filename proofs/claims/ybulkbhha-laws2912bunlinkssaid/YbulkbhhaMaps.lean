/- THE OWNERS' MAPS: keys "r" and "x" only; each operation on them as a run equation. And the bit. -/
import Derived.Test.YbulkbhhaLay
namespace Go.Proofs.Ybulkbhha
open Go.RowKit

theorem same_rr : Instr.sameNow .string (.string ⟨#[114]⟩) (.string ⟨#[114]⟩) = some true := by kernel_rfl
theorem same_xr : Instr.sameNow .string (.string ⟨#[120]⟩) (.string ⟨#[114]⟩) = some false := by kernel_rfl
theorem same_rx : Instr.sameNow .string (.string ⟨#[114]⟩) (.string ⟨#[120]⟩) = some false := by kernel_rfl
theorem findr (q : Value) (b : Nat) (es : List MapEntry) : Instr.findNow .string (.string ⟨#[114]⟩) (⟨.string ⟨#[114]⟩, q, b⟩ :: es) 0 = some (some (0, q)) := by
  simp [Instr.findNow, same_rr]
theorem findx (q : Value) (b : Nat) : Instr.findNow .string (.string ⟨#[120]⟩) [⟨.string ⟨#[114]⟩, q, b⟩] 0 = some none := by
  simp [Instr.findNow, same_xr]
theorem findgone (q : Value) (b : Nat) : Instr.findNow .string (.string ⟨#[114]⟩) [⟨.string ⟨#[120]⟩, q, b⟩] 0 = some none := by
  simp [Instr.findNow, same_rx]

/-- The entries of an owner's map: "r", and "x" where the bit is set. -/
def ents (q : Value) : Bool → Array MapEntry
  | false => #[⟨.string ⟨#[114]⟩, q, 0⟩]
  | true => #[⟨.string ⟨#[114]⟩, q, 0⟩, ⟨.string ⟨#[120]⟩, .pointer none, 1⟩]
/-- What is left when "r" is struck. -/
def left : Bool → Array MapEntry
  | false => #[]
  | true => #[⟨.string ⟨#[120]⟩, .pointer none, 1⟩]
def clk : Bool → Nat
  | false => 1
  | true => 2

theorem ck (e : Bool) (s : ByteArray) (w : World) : (Instr.checkKey e 10000 9 (.string s)).run Yba.prog w = .ok () w := MapKept.run_checkKey (k := .string s) Yba.underlying9 (by simp [MapKept.IsKey]) e 9999

theorem upd_r (w : World) (b : Nat) (v : Value) (h : w.heap[b]? = some (.map #[] 0)) :
    (Instr.mapUpdate 67 (.map (some b)) (.string ⟨#[114]⟩) v).run Yba.prog w = .ok () { w with heap := w.heap.setIfInBounds b (.map (ents v false) 1) } :=
  run_mapUpdate_first _ _ _ _ _ _ _ _ Yba.underlying67 Yba.underlying9 h
theorem upd_x (w : World) (b : Nat) (v : Value) (h : w.heap[b]? = some (.map (ents v false) 1)) :
    (Instr.mapUpdate 67 (.map (some b)) (.string ⟨#[120]⟩) (.pointer none)).run Yba.prog w = .ok () { w with heap := w.heap.setIfInBounds b (.map (ents v true) 2) } := by
  have hf := findx v 0
  simp [Instr.mapUpdate, run_underlying Yba.underlying67, MapKept.run_getObj_map h, ck, ents, MapKept.run_findKey Yba.underlying9 hf, MapKept.run_setObj_map _ h, Result.andThen]
theorem del_r (w : World) (b : Nat) (v : Value) (x : Bool) (ty : TypeId) (h : w.heap[b]? = some (.map (ents v x) (clk x))) :
    (Builtin.delete_ #[67, 9] ty #[.map (some b), .string ⟨#[114]⟩]).run Yba.prog w = .ok (.tuple #[]) { w with heap := w.heap.setIfInBounds b (.map (left x) (clk x)) } := by
  cases x
  · have hf := findr v 0 []
    simp [Builtin.delete_, run_underlying Yba.underlying67, MapKept.run_getObj_map h, ck, ents, left, MapKept.run_findKey Yba.underlying9 hf, MapKept.run_setObj_map _ h, Result.andThen, Array.eraseIdxIfInBounds]
  · have hf := findr v 0 [⟨.string ⟨#[120]⟩, .pointer none, 1⟩]
    simp [Builtin.delete_, run_underlying Yba.underlying67, MapKept.run_getObj_map h, ck, ents, left, MapKept.run_findKey Yba.underlying9 hf, MapKept.run_setObj_map _ h, Result.andThen, Array.eraseIdxIfInBounds]
theorem look_gone (w : World) (b : Nat) (x : Bool) (h : w.heap[b]? = some (.map (left x) (clk x))) :
    (Instr.lookup 67 (.map (some b)) (.string ⟨#[114]⟩) true).run Yba.prog w = .ok (.tuple #[.pointer none, .bool false]) w := by
  cases x
  · have hf : Instr.findNow .string (.string ⟨#[114]⟩) [] 0 = some none := rfl
    simp [Instr.lookup, run_underlying Yba.underlying67, MapKept.run_getObj_map h, ck, left, MapKept.run_findKey Yba.underlying9 hf, Result.andThen]
  · have hf := findgone (.pointer none) 1
    simp [Instr.lookup, run_underlying Yba.underlying67, MapKept.run_getObj_map h, ck, left, MapKept.run_findKey Yba.underlying9 hf, Result.andThen]
theorem look_r (w : World) (b : Nat) (v : Value) (x : Bool) (h : w.heap[b]? = some (.map (ents v x) (clk x))) :
    (Instr.lookup 67 (.map (some b)) (.string ⟨#[114]⟩) false).run Yba.prog w = .ok v w := by
  cases x
  · have hf := findr v 0 []
    simp [Instr.lookup, run_underlying Yba.underlying67, MapKept.run_getObj_map h, ck, ents, MapKept.run_findKey Yba.underlying9 hf, Result.andThen]
  · have hf := findr v 0 [⟨.string ⟨#[120]⟩, .pointer none, 1⟩]
    simp [Instr.lookup, run_underlying Yba.underlying67, MapKept.run_getObj_map h, ck, ents, MapKept.run_findKey Yba.underlying9 hf, Result.andThen]

def bit (x : Int) (i : Nat) : Bool := bits BinOp.and IntKind.u64 (x / 2 ^ (i % 64)) 1 == 1
set_option maxHeartbeats 4000000 in
theorem bit_any (x : Int) (i : Nat) (hi : i < 300) (w : World) :
    Calls Yba.prog 4 #[.int .u64 x, .int .i64 i] w fun e w' => e = .returned (.bool (bit x i)) ∧ w' = w := by
  go_enter Yba.func4, Yba.ntmps4
  go_wp2_with fail
  go_ret
  exact ⟨rfl, rfl⟩
end Go.Proofs.Ybulkbhha
