/- The map from peers to records: one key or none. -/
import Derived.Test.Qxb6616570aLeaf
set_option linter.unusedSimpArgs false
set_option linter.unusedVariables false
namespace Go.Proofs.Qxb6616570a
open Go.RowKit

theorem u87 : Try.prog.underlying 87 = some (.map 9 26) := Try.underlying87
theorem ck (w : World) (b : Bool) (p : ByteArray) : (Instr.checkKey b 10000 9 (.string p)).run Try.prog w = .ok () w :=
  MapKept.run_checkKey (d := .string) (k := .string p) Try.underlying9 trivial b 9999
theorem fk_nil (w : World) (p : ByteArray) : (Instr.findKey 9 (.string p) []).run Try.prog w = .ok none w :=
  MapKept.run_findKey (d := .string) Try.underlying9 rfl
theorem fk_one (w : World) (p : ByteArray) (v : Value) (b : Nat) : (Instr.findKey 9 (.string p) [{ key := .string p, val := v, born := b }]).run Try.prog w = .ok (some (0, v)) w :=
  MapKept.run_findKey (d := .string) Try.underlying9 (by simp [Instr.findNow, Instr.sameNow, (MapKept.bytes_beq p p).2 rfl])

theorem look_one {w : World} {m : Nat} {p : ByteArray} {v : Value} {b clk : Nat} (h : w.heap[m]? = some (.map #[{ key := .string p, val := v, born := b }] clk)) :
    (Instr.lookup 87 (.map (some m)) (.string p) true).run Try.prog w = .ok (.tuple #[v, .bool true]) w := by
  simp [Instr.lookup, run_underlying u87, MapKept.run_getObj_map h, ck, fk_one, Result.andThen]

theorem look_none {w : World} {m : Nat} {p : ByteArray} {clk : Nat} (h : w.heap[m]? = some (.map #[] clk)) :
    (Instr.lookup 87 (.map (some m)) (.string p) true).run Try.prog w = .ok (.tuple #[.pointer none, .bool false]) w := by
  simp [Instr.lookup, run_underlying u87, MapKept.run_getObj_map h, ck, fk_nil, Try.zeroValue26, Result.andThen]

theorem len_map {w : World} {m : Nat} {es : Array MapEntry} {clk : Nat} (h : w.heap[m]? = some (.map es clk)) (ty : TypeId) :
    (Builtin.len_ #[87] ty #[.map (some m)]).run Try.prog w = .ok (.int .i64 es.size) w := by
  simp [Builtin.len_, run_underlying u87, MapKept.run_getObj_map h, goInt, Result.andThen]

/-- A map's block turned. -/
def setMap (w : World) (m : Nat) (o : Obj) : World := { w with heap := w.heap.setIfInBounds m o }

theorem del_one {w : World} {m : Nat} {p : ByteArray} {v : Value} {b clk : Nat} (h : w.heap[m]? = some (.map #[{ key := .string p, val := v, born := b }] clk)) (ty : TypeId) :
    (Builtin.delete_ #[87, 9] ty #[.map (some m), .string p]).run Try.prog w = .ok (.tuple #[]) (setMap w m (.map #[] clk)) := by
  simp [Builtin.delete_, run_underlying u87, MapKept.run_getObj_map h, ck, fk_one, MapKept.run_setObj_map _ h, setMap, Result.andThen]

theorem put_none {w : World} {m : Nat} {p : ByteArray} {v : Value} {clk : Nat} (h : w.heap[m]? = some (.map #[] clk)) :
    (Instr.mapUpdate 87 (.map (some m)) (.string p) v).run Try.prog w = .ok () (setMap w m (.map #[{ key := .string p, val := v, born := clk }] (clk + 1))) := by
  simp [Instr.mapUpdate, run_underlying u87, MapKept.run_getObj_map h, ck, fk_nil, MapKept.run_setObj_map _ h, setMap, Result.andThen]

set_option maxHeartbeats 400000 in
theorem peerRecord_one (b m : Nat) (p : ByteArray) (v : Value) (bo clk : Nat) (w : World) (hc : w.cell? ⟨b, 2, none⟩ = some (.map (some m))) (h : w.heap[m]? = some (.map #[{ key := .string p, val := v, born := bo }] clk)) :
    Calls Try.prog 51 #[.pointer (some ⟨b, 0, none⟩), .string p] w fun e w' => e = .returned (.tuple #[v, .bool true]) ∧ w' = w := by
  have q := look_one h
  clear h
  go_enter Try.func51, Try.ntmps51
  go_wp2
  go_ret2
  exact ⟨rfl, rfl⟩

set_option maxHeartbeats 400000 in
theorem peerRecord_none (b m : Nat) (p : ByteArray) (clk : Nat) (w : World) (hc : w.cell? ⟨b, 2, none⟩ = some (.map (some m))) (h : w.heap[m]? = some (.map #[] clk)) :
    Calls Try.prog 51 #[.pointer (some ⟨b, 0, none⟩), .string p] w fun e w' => e = .returned (.tuple #[.pointer none, .bool false]) ∧ w' = w := by
  have q := look_none (p := p) h
  clear h
  go_enter Try.func51, Try.ntmps51
  go_wp2
  go_ret2
  exact ⟨rfl, rfl⟩

set_option maxHeartbeats 400000 in
theorem peerCount_any (b m : Nat) (es : Array MapEntry) (clk : Nat) (w : World) (hc : w.cell? ⟨b, 2, none⟩ = some (.map (some m))) (h : w.heap[m]? = some (.map es clk)) :
    Calls Try.prog 52 #[.pointer (some ⟨b, 0, none⟩)] w fun e w' => e = .returned (.int .i64 es.size) ∧ w' = w := by
  have q := len_map h
  clear h
  go_enter Try.func52, Try.ntmps52
  go_wp2
  go_ret
  exact ⟨rfl, rfl⟩

set_option maxHeartbeats 400000 in
theorem putPeer_any (b m : Nat) (p : ByteArray) (v : Value) (clk : Nat) (w : World) (hc : w.cell? ⟨b, 2, none⟩ = some (.map (some m))) (h : w.heap[m]? = some (.map #[] clk)) :
    Calls Try.prog 36 #[.pointer (some ⟨b, 0, none⟩), .string p, v] w fun e w' => e = .returned (.tuple #[]) ∧ w' = setMap w m (.map #[{ key := .string p, val := v, born := clk }] (clk + 1)) := by
  have q := put_none (p := p) (v := v) h
  clear h
  go_enter Try.func36, Try.ntmps36
  go_wp2
  go_end0
  exact ⟨rfl, rfl⟩

set_option maxHeartbeats 400000 in
theorem deleted_any (b m : Nat) (v : Value) (w : World) (hc : w.cell? ⟨b, 3, none⟩ = some (.int .i64 0)) :
    Calls Try.prog 61 #[.pointer (some ⟨b, 3, none⟩), v] w fun e w' => e = .returned v ∧ ∃ n, w' = w.drewN n := by
  go_enter Try.func61, Try.ntmps61
  go_wp2
  go_quiet (fail)
  go_wp2
  go_ret
  exact ⟨rfl, _, rfl⟩

end Go.Proofs.Qxb6616570a
