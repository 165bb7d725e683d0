/-
  The one map that the road makes: made, asked while it is empty, written once.
-/
import Derived.Test.Qxb6615047aFmtSmall
import Derived.MapKept
import Derived.ChangeMaps4
namespace Go.Proofs.Qxb6615047aFmt
open Go.RowKit Go.Extern.Stop Go.Stop Go.Extern
open Go.ChangeMaps (setBlock)

theorem map_make (w : World) : (Instr.makeMap 44 (some (.int .i64 1))).run Tryf.prog w = .ok (.map (some w.heap.size)) (w.alloc (.map #[] 0)) := by kernel_rfl
theorem key_check (b : Bool) (k : ByteArray) (w : World) : (Instr.checkKey b 10000 9 (.string k)).run Tryf.prog w = .ok () w := by kernel_rfl
theorem key_find (k : ByteArray) (w : World) : (Instr.findKey 9 (.string k) []).run Tryf.prog w = .ok none w := by kernel_rfl

theorem map_ask (w : World) (r : Nat) (k : ByteArray) (h : w.heap[r]? = some (.map #[] 0)) : (Instr.lookup 44 (.map (some r)) (.string k) false).run Tryf.prog w = .ok (.bool false) w := by
  simp [Instr.lookup, run_underlying Tryf.underlying44, MapKept.run_getObj_map h, key_check, key_find]

theorem map_put (w : World) (r : Nat) (k : ByteArray) (h : w.heap[r]? = some (.map #[] 0)) : (Instr.mapUpdate 44 (.map (some r)) (.string k) (.bool true)).run Tryf.prog w = .ok () (setBlock w r (.map #[{ key := .string k, val := .bool true, born := 0 }] 1)) := by
  simp [Instr.mapUpdate, run_underlying Tryf.underlying44, MapKept.run_getObj_map h, key_check, key_find, MapKept.run_setObj_map _ h, setBlock]
end Go.Proofs.Qxb6615047aFmt
