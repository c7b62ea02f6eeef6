import Derived.Test.Qxb6605187aWalkA
import Derived.Test.Qxb6605187aAnyway
import Derived.KernelRfl
namespace Go.Proofs.Qxb6605187a
open Go.RowKit
set_option linter.unusedVariables false

theorem y_move (ρ : Operand → Value) (o : Oper) (x : Operand) (v : Value) (w : World) (ho : o.op = .move x) (hx : ρ x = v) : (execOp ρ o).run Try.prog w = .ok (.value v) w := by
  simp [execOp, ho, hx]
theorem y_nil (ρ : Operand → Value) (o : Oper) (x : Operand) (ad : Addr) (w : World) (ho : o.op = .nilCheck x) (hx : ρ x = .pointer (some ad)) : (execOp ρ o).run Try.prog w = .ok (.value (.pointer (some ad))) w := by
  simp only [execOp, ho, hx]
  go_simp
theorem y_field0 (ρ : Operand → Value) (o : Oper) (x : Operand) (g : Nat) (w : World) (ho : o.op = .fieldAddr 55 x 0) (hx : ρ x = .pointer (some ⟨g, 0, none⟩)) : (execOp ρ o).run Try.prog w = .ok (.value (.pointer (some ⟨g, 0, none⟩))) w := by
  simp only [execOp, ho, hx]
  go_simp
theorem y_field1 (ρ : Operand → Value) (o : Oper) (x : Operand) (g : Nat) (w : World) (ho : o.op = .fieldAddr 55 x 1) (hx : ρ x = .pointer (some ⟨g, 0, none⟩)) : (execOp ρ o).run Try.prog w = .ok (.value (.pointer (some ⟨g, 1, none⟩))) w := by
  simp only [execOp, ho, hx]
  go_simp
theorem y_index37 (ρ : Operand → Value) (o : Oper) (x y : Operand) (b m cap c : Nat) (w : World) (ho : o.op = .indexAddr 37 x y) (hx : ρ x = .slice (some ⟨b, 0, none⟩) m cap) (hy : ρ y = .int .i64 c) (hc : c < m) : (execOp ρ o).run Try.prog w = .ok (.value (.pointer (some ⟨b, c, none⟩))) w := by
  simp only [execOp, ho, hx, hy]
  go_simp
theorem y_index23i (ρ : Operand → Value) (o : Oper) (x y : Operand) (b m cap c : Nat) (w : World) (ho : o.op = .indexAddr 23 x y) (hx : ρ x = .slice (some ⟨b, 0, none⟩) m cap) (hy : ρ y = .int .i32 c) (hc : c < m) : (execOp ρ o).run Try.prog w = .ok (.value (.pointer (some ⟨b, c, none⟩))) w := by
  simp only [execOp, ho, hx, hy]
  go_simp
theorem y_index23 (ρ : Operand → Value) (o : Oper) (x y : Operand) (b m cap c : Nat) (w : World) (ho : o.op = .indexAddr 23 x y) (hx : ρ x = .slice (some ⟨b, 0, none⟩) m cap) (hy : ρ y = .int .i64 c) (hc : c < m) : (execOp ρ o).run Try.prog w = .ok (.value (.pointer (some ⟨b, c, none⟩))) w := by
  simp only [execOp, ho, hx, hy]
  go_simp
theorem y_index22i (ρ : Operand → Value) (o : Oper) (x y : Operand) (b m cap c : Nat) (w : World) (ho : o.op = .indexAddr 22 x y) (hx : ρ x = .slice (some ⟨b, 0, none⟩) m cap) (hy : ρ y = .int .i32 c) (hc : c < m) : (execOp ρ o).run Try.prog w = .ok (.value (.pointer (some ⟨b, c, none⟩))) w := by
  simp only [execOp, ho, hx, hy]
  go_simp
theorem y_load30 (ρ : Operand → Value) (o : Oper) (x : Operand) (ad : Addr) (p : Option Addr) (w : World) (ho : o.op = .load 30 x) (hx : ρ x = .pointer (some ad)) (hc : w.cell? ad = some (.pointer p)) : (execOp ρ o).run Try.prog w = .ok (.value (.pointer p)) w := by
  simp only [execOp, ho, hx]
  go_simp
theorem y_load22 (ρ : Operand → Value) (o : Oper) (x : Operand) (ad : Addr) (p : Option Addr) (l c : Nat) (w : World) (ho : o.op = .load 22 x) (hx : ρ x = .pointer (some ad)) (hc : w.cell? ad = some (.slice p l c)) : (execOp ρ o).run Try.prog w = .ok (.value (.slice p l c)) w := by
  simp only [execOp, ho, hx]
  go_simp
theorem y_load23 (ρ : Operand → Value) (o : Oper) (x : Operand) (ad : Addr) (p : Option Addr) (l c : Nat) (w : World) (ho : o.op = .load 23 x) (hx : ρ x = .pointer (some ad)) (hc : w.cell? ad = some (.slice p l c)) : (execOp ρ o).run Try.prog w = .ok (.value (.slice p l c)) w := by
  simp only [execOp, ho, hx]
  go_simp
theorem y_load21 (ρ : Operand → Value) (o : Oper) (x : Operand) (ad : Addr) (r : Int) (w : World) (ho : o.op = .load 21 x) (hx : ρ x = .pointer (some ad)) (hc : w.cell? ad = some (.int .i32 r)) : (execOp ρ o).run Try.prog w = .ok (.value (.int .i32 r)) w := by
  simp only [execOp, ho, hx]
  go_simp
theorem y_load3 (ρ : Operand → Value) (o : Oper) (x : Operand) (ad : Addr) (r : Int) (w : World) (ho : o.op = .load 3 x) (hx : ρ x = .pointer (some ad)) (hc : w.cell? ad = some (.int .i64 r)) : (execOp ρ o).run Try.prog w = .ok (.value (.int .i64 r)) w := by
  simp only [execOp, ho, hx]
  go_simp
theorem y_len23 (ρ : Operand → Value) (o : Oper) (x : Operand) (p : Option Addr) (l c : Nat) (w : World) (ho : o.op = .call { callee := .builtin .len, args := #[x], argTypes := #[23] }) (hx : ρ x = .slice p l c) (hl : l ≤ 70000) : (execOp ρ o).run Try.prog w = .ok (.value (.int .i64 l)) w := by
  simp only [execOp, ho]
  go_simp
theorem y_add3 (ρ : Operand → Value) (o : Oper) (x y : Operand) (i j : Int) (w : World) (ho : o.op = .binOp .add 3 x y 3) (hx : ρ x = .int .i64 i) (hy : ρ y = .int .i64 j) (h1 : 0 ≤ i) (h2 : 0 ≤ j) (h3 : i ≤ 1000000) (h4 : j ≤ 1000000) : (execOp ρ o).run Try.prog w = .ok (.value (.int .i64 (i + j))) w := by
  simp only [execOp, ho, hx, hy]
  go_simp
  rw [IntKind.wrap_i64]
  omega

theorem y_build21 (ρ : Operand → Value) (o : Oper) (x : Operand) (r : Int) (w : World) (ho : o.op = .buildSlice 23 1 #[(0, x)]) (hx : ρ x = .int .i32 r) : (execOp ρ o).run Try.prog w = .ok (.value (.slice (some ⟨w.heap.size, 0, none⟩) 1 1)) (w.alloc (.cells #[.int .i32 r] 21)) := by
  simp only [execOp, ho]
  go_simp
theorem y_build3 (ρ : Operand → Value) (o : Oper) (x : Operand) (r : Int) (w : World) (ho : o.op = .buildSlice 22 1 #[(0, x)]) (hx : ρ x = .int .i64 r) : (execOp ρ o).run Try.prog w = .ok (.value (.slice (some ⟨w.heap.size, 0, none⟩) 1 1)) (w.alloc (.cells #[.int .i64 r] 3)) := by
  simp only [execOp, ho]
  go_simp
theorem y_store23 (ρ : Operand → Value) (o : Oper) (x y : Operand) (ad : Addr) (p : Option Addr) (l c : Nat) (u : Value) (w : World) (ho : o.op = .store 23 x y) (hx : ρ x = .pointer (some ad)) (hy : ρ y = .slice p l c) (hc : w.cell? ad = some u) (hf : w.frozen? ad = false) : (execOp ρ o).run Try.prog w = .ok .skip (w.setCell ad (.slice p l c)) := by
  simp only [execOp, ho, hx, hy]
  go_simp
theorem y_store22 (ρ : Operand → Value) (o : Oper) (x y : Operand) (ad : Addr) (p : Option Addr) (l c : Nat) (u : Value) (w : World) (ho : o.op = .store 22 x y) (hx : ρ x = .pointer (some ad)) (hy : ρ y = .slice p l c) (hc : w.cell? ad = some u) (hf : w.frozen? ad = false) : (execOp ρ o).run Try.prog w = .ok .skip (w.setCell ad (.slice p l c)) := by
  simp only [execOp, ho, hx, hy]
  go_simp

theorem y_call42 (ρ : Operand → Value) (o : Oper) (x y : Operand) (p q : Value) (w : World) (ho : o.op = .call { callee := .value (.func 42), args := #[x, y], argTypes := #[30, 3] }) (hx : ρ x = p) (hy : ρ y = q) (hf : ρ (.func 42) = .func (.func 42) #[] #[]) : (execOp ρ o).run Try.prog w = .ok (.enter 42 #[p, q]) w := by
  simp only [execOp, ho]
  go_simp

/-- region number k of a code -/
def findReg (k : Nat) : Code → Option Code
  | .region id ops d => if id = k then some (.region id ops d) else none
  | .seq a b => match findReg k a with
    | some c => some c
    | none => findReg k b
  | .block _ c => findReg k c
  | .scope c => findReg k c
  | .loop c => findReg k c
  | .cond _ a b => match findReg k a with
    | some c => some c
    | none => findReg k b
  | _ => none

theorem eval_put_ne (a : Act) (t t' : Nat) (v : Value) (h : t ≠ t') : (a.put (some t) v).eval (.tmp t') = a.eval (.tmp t') := by
  apply Act.eval_put
  intro d hd
  injection hd with hd
  subst hd
  intro e
  injection e with e
  exact h e.symm
theorem eval_put_eq (a : Act) (t : Nat) (v : Value) (h : t < a.tmps.size) : (a.put (some t) v).eval (.tmp t) = v := by
  simp [Act.put, Act.eval, h]
theorem size_put (a : Act) (d : Option Nat) (v : Value) : (a.put d v).tmps.size = a.tmps.size := by
  cases d <;> simp [Act.put]
end Go.Proofs.Qxb6605187a
