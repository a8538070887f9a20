import Derived.Test.Qxb6601726aFind
namespace Go.Proofs.Qxb6601726a
open Go.ChangeShapes Go.WideShapes Go.ChangeAt Go.RowKit
set_option linter.unusedVariables false

theorem z47size : (Try.t47.zero.map fun z => z.cells.size == 65536) = some true := by kernel_rfl

theorem z47 : ∃ z, Try.t47.zero = some z ∧ z.cells.size = 65536 := by
  have h := z47size
  generalize Try.t47.zero = o at h
  cases o with
  | none => cases h
  | some z => exact ⟨z, rfl, by simpa using h⟩

theorem run_alloc_of (P : Program) (t : TypeId) (i : TypeInfo) (z : Value) (h : ∀ w, Sem.run P (typeInfo t) w = .ok i w) (hz : i.zero = some z) (w : World) :
    (Instr.alloc t true (.tuple #[])).run P w = .ok (.pointer (some ⟨w.heap.size, 0, none⟩)) (w.alloc (.cells z.cells t)) := by
  simp [Instr.alloc, zeroValue, h, hz, newVar, newRow]

theorem alloc47 : ∃ zc : Array Value, zc.size = 65536 ∧ ∀ w, (Instr.alloc 47 true (.tuple #[])).run Try.prog w = .ok (.pointer (some ⟨w.heap.size, 0, none⟩)) (w.alloc (.cells zc 47)) := by
  obtain ⟨z, hz, hs⟩ := z47
  exact ⟨z.cells, hs, run_alloc_of Try.prog 47 Try.t47 z Try.typeInfo47 hz⟩

theorem wpList_alloc_of {P : Program} (w : World) {ops : Array Oper} {rest : List Oper} {o : Oper} {a : Act} {Q : Exit → Act → World → Prop}
    (hg : o.guard = none) (t : TypeId) (hop : o.op = Op.alloc t) (zc : Array Value)
    (hrun : ∀ w, (Instr.alloc t true (.tuple #[])).run P w = .ok (.pointer (some ⟨w.heap.size, 0, none⟩)) (w.alloc (.cells zc t)))
    (hK : wpList P ops Q rest (a.put o.dst (.pointer (some ⟨w.heap.size, 0, none⟩))) (w.alloc (.cells zc t))) :
    wpList P ops Q (o :: rest) a w := by
  refine wpList_plain hg fun K hK' => ?_
  unfold Oper.wp
  simp [execOp, hop, hrun, Result.andThen]
  exact hK' _ _ hK
end Go.Proofs.Qxb6601726a
