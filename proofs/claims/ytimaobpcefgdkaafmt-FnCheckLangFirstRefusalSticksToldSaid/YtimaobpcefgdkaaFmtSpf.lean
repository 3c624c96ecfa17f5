/- A call of fmt.Sprintf with a plain format and no operand: some string, and one draw. -/
import Derived.Test.YtimaobpcefgdkaaFmtRow
import Derived.Stop.CallBack
import Derived.Stop.Texts
import Derived.Deep.RegionHeld3
import Derived.Deep.RegionLaw
namespace Go.Proofs.YtimaobpcefgdkaaFmt
open Go.RowKit Go.Extern.Stop Go.Stop Go.Extern
theorem callSpf (args : Array Value) (w : World) : (callFunc 22 args).run Tryf.prog w = (FmtCalls.sprintf #[9, 73] #[9] args).run Tryf.prog w :=
  run_callFunc_next Tryf.func22 (by kernel_rfl) (by kernel_rfl) (by kernel_rfl) args w
theorem guardSpf (name : String) (w : World) : (FmtStop.guard name).run Tryf.prog w = .ok () w := by kernel_rfl
theorem nextTurns : Extern.next FmtCalls.turnsRow = some (FmtCalls.begun #[] #[]) := by kernel_rfl
/-- A plain format: nothing is printed of operands. -/
def PlainF (f : ByteArray) : Prop := FmtStop.printed? f 0 = some []
theorem step_sprintf {ops : Array Oper} {o : Oper} {a : Act} {w : World} {K : Act → World → Prop} {Q : Exit → Act → World → Prop} {E : Prop}
    (hg : o.guard = none) (s x : Operand) (ts : Array TypeId) (hop : o.op = Op.call { callee := Callee.value (Operand.func 22), args := #[s, x], argTypes := ts })
    {f : ByteArray} (hf : PlainF f) (hs : a.eval s = .string f) (hx : a.eval x = .slice none 0 0) (hK : ∀ t : ByteArray, K (a.put o.dst (.string t)) w.drew) :
    if Region.wanted o (yielded ops a.tmps) = true then Oper.wp Tryf.prog o a w K Q else E := by
  have hw : Region.wanted o (yielded ops a.tmps) = true := by simp [Region.wanted, hg]
  rw [if_pos hw]
  unfold PlainF at hf
  have hrun : (execOp a.eval o).run Tryf.prog w = .ok (.row FmtCalls.turnsRow (FmtCalls.save 0 0 (.slice none 0 0) f [] [])) w := by
    have h1 : (callFunc 22 #[.string f, .slice none 0 0]).run Tryf.prog w = .ok (.row FmtCalls.turnsRow (FmtCalls.save 0 0 (.slice none 0 0) f [] [])) w := by
      rw [callSpf, FmtCalls.sprintf_lit]
      simp [guardSpf, FmtDoors.count, hf]
    have h0 : a.eval (Operand.func 22) = .func (.func 22) #[] #[] := rfl
    simp [execOp, hop, resolve, invoke, hs, hx, h0, Deferred.ofValue, h1]
  have h2 : ∃ t : ByteArray, (FmtCalls.begun #[] #[] (FmtCalls.save 0 0 (.slice none 0 0) f [] [])).run Tryf.prog w = .ok (.value (.string t)) w.drew := by
    rw [FmtCalls.run_begun_save]
    simp [FmtCalls.turns, FmtCalls.finish, FmtCalls.frontName]
    refine ⟨_, (if_neg (fun h => ?_)).trans rfl⟩
    exact Bool.false_ne_true h
  obtain ⟨t, h2⟩ := h2
  unfold Oper.wp
  rw [hrun, Oper.upon_row]
  exact rows_value nextTurns h2 (hK _)
end Go.Proofs.YtimaobpcefgdkaaFmt
