import Derived.Test.YbulkszsRows
import Derived.WalkKit
import Derived.ProofKit
import Derived.WalkSpells
import Derived.Below
namespace Go.Proofs.Ybulkszs
open Go.RowKit

theorem key9 (s : ByteArray) (em : Bool) (w : World) : (Instr.checkKey em 10000 9 (.string s)).run Yba.prog w = .ok () w :=
  MapKept.run_checkKey Yba.underlying9 (by simp [MapKept.IsKey]) em 9999

theorem run_look1 (w : World) (M : Nat) (v : Value) (h : w.heap[M]? = some (.map #[⟨.string { data := #[117, 101, 49] }, v, 0⟩] 1)) :
    (Instr.lookup 70 (.map (some M)) (.string { data := #[117, 101, 49] }) true).run Yba.prog w = .ok (.tuple #[v, .bool true]) w := by
  have hf := MapKept.run_findKey (w := w) (k := .string { data := #[117, 101, 49] }) (l := [⟨.string { data := #[117, 101, 49] }, v, 0⟩]) (a := some (0, v)) Yba.underlying9 (by rfl)
  simp [Instr.lookup, run_underlying Yba.underlying70, MapKept.run_getObj_map h, key9, hf]

theorem run_look2 (w : World) (M : Nat) (v : Value) (h : w.heap[M]? = some (.map #[⟨.string { data := #[117, 101, 49] }, v, 0⟩] 1)) :
    (Instr.lookup 70 (.map (some M)) (.string { data := #[117, 101, 50] }) true).run Yba.prog w = .ok (.tuple #[.pointer none, .bool false]) w := by
  have hf := MapKept.run_findKey (w := w) (k := .string { data := #[117, 101, 50] }) (l := [⟨.string { data := #[117, 101, 49] }, v, 0⟩]) (a := none) Yba.underlying9 (by rfl)
  simp [Instr.lookup, run_underlying Yba.underlying70, MapKept.run_getObj_map h, key9, hf, Yba.zeroValue60]

theorem run_insert (w : World) (v : Value) :
    (Instr.mapUpdate 70 (.map (some w.heap.size)) (.string { data := #[117, 101, 49] }) v).run Yba.prog (w.alloc (.map #[] 0)) = .ok () (w.alloc (.map #[⟨.string { data := #[117, 101, 49] }, v, 0⟩] 1)) := by
  have hb : (w.alloc (.map #[] 0)).heap[w.heap.size]? = some (.map #[] 0) := heap_alloc_new w _
  have hf := MapKept.run_findKey (w := w.alloc (.map #[] 0)) (k := .string { data := #[117, 101, 49] }) (l := []) (a := none) Yba.underlying9 (by rfl)
  simp only [Instr.mapUpdate, Sem.run_bind, run_underlying Yba.underlying70, Result.andThen_ok, MapKept.run_getObj_map hb, key9, hf, MapKept.run_setObj_map _ hb]
  have e : ∀ (A B : Obj), (w.heap.push A).setIfInBounds w.heap.size B = w.heap.push B := by
    intro A B
    apply Array.ext_getElem?
    intro i
    rw [Array.getElem?_setIfInBounds, Array.getElem?_push, Array.getElem?_push]
    by_cases h : w.heap.size = i
    · simp [h]
    · simp [h, Ne.symm h]
  show Result.ok () { (w.alloc (.map #[] 0)) with heap := (w.heap.push _).setIfInBounds w.heap.size _ } = _
  rw [e]
  rfl
end Go.Proofs.Ybulkszs
