import Derived.Test.Qxb6002405aStrs
import Derived.MapKept
namespace Go.Proofs.Qxb6002405a
open Go.RowKit
set_option linter.unusedVariables false

/-- the header's key -/
def host : ByteArray := ⟨#[72, 111, 115, 116]⟩
def Ent (k : ByteArray) (v : Value) (b : Nat) : MapEntry := { key := .string k, val := v, born := b }
def putMap (w : World) (M : Nat) (o : Obj) : World := { w with heap := w.heap.setIfInBounds M o }

theorem putMap_at {w : World} {M : Nat} (o : Obj) (h : M < w.heap.size) : (putMap w M o).heap[M]? = some o := by
  simp [putMap, h]
theorem putMap_grown (w : World) (M : Nat) (o : Obj) : w.grownBy (putMap w M o) (some M) :=
  ⟨rfl, rfl, rfl, by simp [putMap], fun k hk hne => by
    have : M ≠ k := fun e => hne (by rw [e])
    simp [putMap, this]⟩
theorem lt_of_heap {w : World} {M : Nat} {o : Obj} (h : w.heap[M]? = some o) : M < w.heap.size := (Array.getElem?_eq_some_iff.1 h).1

theorem ba_ne {a b : ByteArray} (h : a ≠ b) : (a == b) = false := by
  cases e : (a == b)
  · rfl
  · exact absurd ((MapKept.bytes_beq a b).1 e) h
theorem ba_eq (a : ByteArray) : (a == a) = true := (MapKept.bytes_beq a a).2 rfl
theorem host_ne (k : ByteArray) (h : (k.toList == [72, 111, 115, 116]) = false) : k ≠ host := by
  rintro rfl
  have : (host.toList == [72, 111, 115, 116]) = true := by rw [ByteArray.toList_eq]; rfl
  rw [this] at h
  cases h

section
variable {w : World} {M clock : Nat} {k : ByteArray} {v1 v2 : Value} {t : TypeId}

theorem chk (s : ByteArray) (e : Bool) (w : World) : (Instr.checkKey e 10000 9 (.string s)).run Try.prog w = .ok () w :=
  MapKept.run_checkKey Try.underlying9 (by exact trivial) e 9999

theorem upd0 (ht : Try.prog.underlying t = some (.map 9 22)) (h : w.heap[M]? = some (.map #[] clock)) (k : ByteArray) (v : Value) :
    (Instr.mapUpdate t (.map (some M)) (.string k) v).run Try.prog w = .ok () (putMap w M (.map #[Ent k v clock] (clock + 1))) := by
  unfold Instr.mapUpdate
  simp [run_underlying ht, MapKept.run_getObj_map h, chk, Instr.findKey, run_underlying Try.underlying9, Instr.findNow, MapKept.run_setObj_map _ h, putMap, Ent]
theorem upd1 (ht : Try.prog.underlying t = some (.map 9 22)) (h : w.heap[M]? = some (.map #[Ent k v1 0] clock)) (s : ByteArray) (hs : s ≠ k) (v : Value) :
    (Instr.mapUpdate t (.map (some M)) (.string s) v).run Try.prog w = .ok () (putMap w M (.map #[Ent k v1 0, Ent s v clock] (clock + 1))) := by
  unfold Instr.mapUpdate
  simp [run_underlying ht, MapKept.run_getObj_map h, chk, Instr.findKey, run_underlying Try.underlying9, Instr.findNow, Instr.sameNow, Ent, ba_ne hs, MapKept.run_setObj_map _ h, putMap]
theorem look1_hit (ht : Try.prog.underlying t = some (.map 9 22)) (h : w.heap[M]? = some (.map #[Ent k v1 0] clock)) :
    (Instr.lookup t (.map (some M)) (.string k) true).run Try.prog w = .ok (.tuple #[v1, .bool true]) w := by
  unfold Instr.lookup
  simp [run_underlying ht, MapKept.run_getObj_map h, chk, Instr.findKey, run_underlying Try.underlying9, Instr.findNow, Instr.sameNow, Ent, ba_eq]
theorem look1_miss (ht : Try.prog.underlying t = some (.map 9 22)) (h : w.heap[M]? = some (.map #[Ent k v1 0] clock)) (s : ByteArray) (hs : s ≠ k) :
    (Instr.lookup t (.map (some M)) (.string s) true).run Try.prog w = .ok (.tuple #[.slice none 0 0, .bool false]) w := by
  unfold Instr.lookup
  simp [run_underlying ht, MapKept.run_getObj_map h, chk, Instr.findKey, run_underlying Try.underlying9, Instr.findNow, Instr.sameNow, Ent, ba_ne hs]
theorem look2_fst (ht : Try.prog.underlying t = some (.map 9 22)) {s : ByteArray} (h : w.heap[M]? = some (.map #[Ent k v1 0, Ent s v2 1] clock)) :
    (Instr.lookup t (.map (some M)) (.string k) true).run Try.prog w = .ok (.tuple #[v1, .bool true]) w := by
  unfold Instr.lookup
  simp [run_underlying ht, MapKept.run_getObj_map h, chk, Instr.findKey, run_underlying Try.underlying9, Instr.findNow, Instr.sameNow, Ent, ba_eq]
theorem look2_snd (ht : Try.prog.underlying t = some (.map 9 22)) {s : ByteArray} (hs : s ≠ k) (h : w.heap[M]? = some (.map #[Ent k v1 0, Ent s v2 1] clock)) :
    (Instr.lookup t (.map (some M)) (.string s) true).run Try.prog w = .ok (.tuple #[v2, .bool true]) w := by
  unfold Instr.lookup
  simp [run_underlying ht, MapKept.run_getObj_map h, chk, Instr.findKey, run_underlying Try.underlying9, Instr.findNow, Instr.sameNow, Ent, ba_eq, ba_ne hs]
theorem del1_miss (ty : TypeId) (ht : Try.prog.underlying t = some (.map 9 22)) (h : w.heap[M]? = some (.map #[Ent k v1 0] clock)) (s : ByteArray) (hs : s ≠ k) :
    (Builtin.delete_ #[t, 9] ty #[.map (some M), .string s]).run Try.prog w = .ok (.tuple #[]) (putMap w M (.map #[Ent k v1 0] clock)) := by
  unfold Builtin.delete_
  simp [run_underlying ht, MapKept.run_getObj_map h, chk, Instr.findKey, run_underlying Try.underlying9, Instr.findNow, Instr.sameNow, Ent, ba_ne hs, MapKept.run_setObj_map _ h, putMap]
theorem del2_snd (ty : TypeId) (ht : Try.prog.underlying t = some (.map 9 22)) {s : ByteArray} (hs : s ≠ k) (h : w.heap[M]? = some (.map #[Ent k v1 0, Ent s v2 1] clock)) :
    (Builtin.delete_ #[t, 9] ty #[.map (some M), .string s]).run Try.prog w = .ok (.tuple #[]) (putMap w M (.map #[Ent k v1 0] clock)) := by
  unfold Builtin.delete_
  simp [run_underlying ht, MapKept.run_getObj_map h, chk, Instr.findKey, run_underlying Try.underlying9, Instr.findNow, Instr.sameNow, Ent, ba_eq, ba_ne hs, MapKept.run_setObj_map _ h, putMap]
theorem len1 (ty : TypeId) (ht : Try.prog.underlying t = some (.map 9 22)) {e1 : MapEntry} (h : w.heap[M]? = some (.map #[e1] clock)) :
    (Builtin.len_ #[t] ty #[.map (some M)]).run Try.prog w = .ok (.int .i64 1) w := by
  unfold Builtin.len_
  simp [run_underlying ht, MapKept.run_getObj_map h]
  rfl
theorem len2 (ty : TypeId) (ht : Try.prog.underlying t = some (.map 9 22)) {e1 e2 : MapEntry} (h : w.heap[M]? = some (.map #[e1, e2] clock)) :
    (Builtin.len_ #[t] ty #[.map (some M)]).run Try.prog w = .ok (.int .i64 2) w := by
  unfold Builtin.len_
  simp [run_underlying ht, MapKept.run_getObj_map h]
  rfl
end
end Go.Proofs.Qxb6002405a
