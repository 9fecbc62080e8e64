import Derived.Test.Qxb6604433aBounds
namespace Go.Proofs.Qxb6604433a
open Go.RowKit Go.WideShapes
set_option linter.unusedVariables false
set_option linter.unusedSimpArgs false

theorem list32 {l : List Value} (h : l.length = 32) : ∃ x0 x1 x2 x3 x4 x5 x6 x7 x8 x9 x10 x11 x12 x13 x14 x15 x16 x17 x18 x19 x20 x21 x22 x23 x24 x25 x26 x27 x28 x29 x30 x31, l = [x0, x1, x2, x3, x4, x5, x6, x7, x8, x9, x10, x11, x12, x13, x14, x15, x16, x17, x18, x19, x20, x21, x22, x23, x24, x25, x26, x27, x28, x29, x30, x31] := by
  match l, h with
  | [x0, x1, x2, x3, x4, x5, x6, x7, x8, x9, x10, x11, x12, x13, x14, x15, x16, x17, x18, x19, x20, x21, x22, x23, x24, x25, x26, x27, x28, x29, x30, x31], _ => exact ⟨x0, x1, x2, x3, x4, x5, x6, x7, x8, x9, x10, x11, x12, x13, x14, x15, x16, x17, x18, x19, x20, x21, x22, x23, x24, x25, x26, x27, x28, x29, x30, x31, rfl⟩

/-- The two structs, as rows of cells. -/
def headCells (v : Int) (cs : Array Value) (x : Value) : Array Value := #[.int .u16 v] ++ cs ++ #[x]
def helloCells (v : Int) (cs : Array Value) (x2 x3 x4 x5 x6 : Value) : Array Value := #[.int .u16 v] ++ cs ++ #[x2, x3, x4, x5, x6]

theorem run_build96 (v : Int) (cs : Array Value) (hcs : cs.size = 32) (a2 : Option Addr) (n2 c2 : Nat) (w : World) :
    (Instr.build 96 #[(0, .int .u16 v), (1, .agg cs), (2, .slice a2 n2 c2)]).run Try.prog w = .ok (.agg (headCells v cs (.slice a2 n2 c2))) w := by
  obtain ⟨l⟩ := cs
  obtain ⟨x0, x1, x2, x3, x4, x5, x6, x7, x8, x9, x10, x11, x12, x13, x14, x15, x16, x17, x18, x19, x20, x21, x22, x23, x24, x25, x26, x27, x28, x29, x30, x31, rfl⟩ := list32 (l := l) (by simpa using hcs)
  kernel_rfl

theorem run_build98 (v : Int) (cs : Array Value) (hcs : cs.size = 32) (a2 a3 a4 a5 a6 : Option Addr) (n2 c2 n3 c3 n4 c4 n5 c5 n6 c6 : Nat) (w : World) :
    (Instr.build 98 #[(0, .agg (headCells v cs (.slice a2 n2 c2))), (1, .slice a3 n3 c3), (2, .slice a4 n4 c4), (3, .slice a5 n5 c5), (4, .slice a6 n6 c6)]).run Try.prog w = .ok (.agg (helloCells v cs (.slice a2 n2 c2) (.slice a3 n3 c3) (.slice a4 n4 c4) (.slice a5 n5 c5) (.slice a6 n6 c6))) w := by
  obtain ⟨l⟩ := cs
  obtain ⟨x0, x1, x2, x3, x4, x5, x6, x7, x8, x9, x10, x11, x12, x13, x14, x15, x16, x17, x18, x19, x20, x21, x22, x23, x24, x25, x26, x27, x28, x29, x30, x31, rfl⟩ := list32 (l := l) (by simpa using hcs)
  kernel_rfl

theorem helloCells_37 (v : Int) (cs : Array Value) (hcs : cs.size = 32) (x2 x3 x4 x5 x6 : Value) : (helloCells v cs x2 x3 x4 x5 x6)[37]? = some x6 := by
  obtain ⟨l⟩ := cs
  obtain ⟨y0, y1, y2, y3, y4, y5, y6, y7, y8, y9, y10, y11, y12, y13, y14, y15, y16, y17, y18, y19, y20, y21, y22, y23, y24, y25, y26, y27, y28, y29, y30, y31, rfl⟩ := list32 (l := l) (by simpa using hcs)
  kernel_rfl

/-- 'build' by an equation on its run. -/
theorem wpList_build {P : Program} {w : World} {ops : Array Oper} {rest : List Oper} {o : Oper} {a : Act} {Q : Exit → Act → World → Prop} (hgd : o.guard = none) (t : TypeId) (parts : Array (Nat × Operand)) (ho : o.op = .build t parts)
    (vals : Array (Nat × Value)) (hv : parts.map (fun p => (p.1, a.eval p.2)) = vals) (v : Value) (hrun : (Instr.build t vals).run P w = .ok v w)
    (h : wpList P ops Q rest (a.put o.dst v) w) : wpList P ops Q (o :: rest) a w := by
  refine wpList_plain hgd fun K hK => ?_
  subst hv
  unfold Oper.wp
  simp only [execOp, ho]
  rw [Sem.run_bind, hrun]
  exact hK _ _ h

end Go.Proofs.Qxb6604433a
