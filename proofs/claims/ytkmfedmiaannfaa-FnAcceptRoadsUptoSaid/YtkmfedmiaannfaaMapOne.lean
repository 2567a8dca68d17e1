/- A map of strings' lists made with one entry, and read at that entry's key. -/
import Derived.Test.YtkmfedmiaannfaaProg
import Derived.WalkKit
import Derived.Below
import Derived.ChangeMaps4
import Derived.Carry
import Derived.Laws.Cover2
set_option linter.unusedVariables false
set_option linter.unusedSimpArgs false
namespace Go.Proofs.Ytkmfedmiaannfaa.One
open Go.RowKit Go.MapKept

theorem heap_new (w : World) (o : Obj) : (w.alloc o).heap[w.heap.size]? = some o := by
  show (w.heap.push o)[w.heap.size]? = some o
  simp

theorem set_new (w : World) (o o' : Obj) : ({ w.alloc o with heap := (w.alloc o).heap.setIfInBounds w.heap.size o' } : World) = w.alloc o' := by
  have h : (w.heap.push o).setIfInBounds w.heap.size o' = w.heap.push o' := by
    apply Array.ext_getElem?
    intro i
    rw [Array.getElem?_setIfInBounds, Array.getElem?_push, Array.getElem?_push]
    by_cases e : w.heap.size = i
    · subst e; simp
    · rw [if_neg e, if_neg (fun h => e h.symm), if_neg (fun h => e h.symm)]
  show ({ w.alloc o with heap := (w.heap.push o).setIfInBounds w.heap.size o' } : World) = _
  rw [h]; rfl

def entryOf (s : ByteArray) (v : Value) : MapEntry := { key := .string s, val := v, born := 0 }

theorem insert_one (s : ByteArray) (v : Value) (w : World) :
    (Instr.mapUpdate 81 (.map (some w.heap.size)) (.string s) v).run Try.prog (w.alloc (.map #[] 0)) = .ok () (w.alloc (.map #[entryOf s v] 1)) := by
  have hb := heap_new w (.map #[] 0)
  have hk : IsKey .string (.string s) := trivial
  have hf : Instr.findNow .string (.string s) [] 0 = some none := rfl
  simp [Instr.mapUpdate, run_underlying Try.underlying81, MapKept.run_getObj_map hb, MapKept.run_checkKey Try.underlying9 hk, MapKept.run_findKey Try.underlying9 hf, MapKept.run_setObj_map _ hb, Result.andThen]
  exact set_new w _ _

theorem lookup_one (s : ByteArray) (v : Value) (w : World) :
    (Instr.lookup 81 (.map (some w.heap.size)) (.string s) false).run Try.prog (w.alloc (.map #[entryOf s v] 1)) = .ok v (w.alloc (.map #[entryOf s v] 1)) := by
  have hb := heap_new w (.map #[entryOf s v] 1)
  have hk : IsKey .string (.string s) := trivial
  have hf : Instr.findNow .string (.string s) [entryOf s v] 0 = some (some (0, v)) := by
    have e : (s == s) = true := by obtain ⟨x⟩ := s; show (x == x) = true; simp
    simp [Instr.findNow, Instr.sameNow, entryOf, e]
  simp [Instr.lookup, run_underlying Try.underlying81, MapKept.run_getObj_map hb, MapKept.run_checkKey Try.underlying9 hk, MapKept.run_findKey Try.underlying9 hf, Result.andThen]

end Go.Proofs.Ytkmfedmiaannfaa.One
