/-
  More of a region that draws its order: values, slices.
-/
import Derived.Test.YbulkduvuAny
import Derived.Test.YbulkduvuSeg
namespace Go.Proofs.Ybulkduvu.Base
open Go Go.RowKit
section
variable {P : Program} {ops : Array Oper} {Q : Exit → Act → World → Prop} {md : Region.Mode} {S : World → Prop} {fuel : Nat} {listed : Array Bool} {a : Act} {w : World} {o : Oper}

/-- taken first, under a guard that is met -/
theorem any_takeG (i : Nat) (hi : ops[i]? = some o) (d : Option Tmp) (hd : o.dst = d) (hs : Region.noSelect ops = true) (hf : Region.free md ops listed i = true) (hr : (Region.ready md ops listed).contains i = true)
    (hw : Region.wanted o (yielded ops a.tmps) = true) (v : Value) (hQ : ∀ c a w, Q (.panic c) (a.put d v) w → Q (.panic c) a w) (hrun : ∀ w, S w → (execOp a.eval o).run P w = .ok (.value v) w) (hS : S w)
    (h : wpAnyH P md ops Q S fuel (listed.setIfInBounds i true) (a.put d v) w) : wpAnyH P md ops Q S (fuel + 1) listed a w := by
  subst hd
  exact wpAnyH_take hi hs hf hr hQ (.inl ⟨hw, hrun⟩) hS h

theorem exec_load_cell {ty : TypeId} {x : Operand} (ho : o.op = .load ty x) {ad : Addr} (hx : a.eval x = .pointer (some ad)) {v : Value} (hc : w.cell? ad = some v) {D : TypeDesc} (hu : P.underlying ty = some D) (hD : (match D with | .struct _ | .array _ _ => false | _ => true) = true) :
    (execOp a.eval o).run P w = .ok (.value v) w := by
  have hagg : (isAgg ty).run P w = .ok false w := by
    unfold isAgg
    rw [Sem.run_bind, run_underlying hu w]
    cases D <;> simp_all
  simp [execOp, ho, hx, Instr.loadAt, Instr.sureAddr, loadVar, hagg, hc]

theorem any_oneG (i : Nat) (hi : ops[i]? = some o) (hr : Region.ready md ops listed = [i]) (hw : Region.wanted o (yielded ops a.tmps) = true)
    (h : o.wp P a w (fun a' w' => S w' ∧ wpAnyH P md ops Q S fuel (listed.setIfInBounds i true) a' w') Q) : wpAnyH P md ops Q S (fuel + 1) listed a w := by
  refine wpAnyH_all hr (by simp) (fun j hj => ?_)
  simp at hj
  subst hj
  unfold wpOp
  simp only [hi]
  rw [if_pos hw]
  exact .inl h

theorem any_callG (i : Nat) (hi : ops[i]? = some o) (hr : Region.ready md ops listed = [i]) (hw : Region.wanted o (yielded ops a.tmps) = true) (d : Option Tmp) (hd : o.dst = d) (f : FuncId) (xs : List Operand) (ats : Array TypeId)
    (ho : o.op = .call { callee := .value (.func f), args := xs.toArray, argTypes := ats }) (fn : Func) (hf : P.funcs[f]? = some fn) (hn : (fn.name == "runtime.NumGoroutine") = false) (hb : fn.body.isNone = false) (args : List Value) (hargs : xs.map a.eval = args)
    (hK : Calls P f args.toArray w fun e w1 => ∃ v, e = .returned v ∧ S w1 ∧ wpAnyH P md ops Q S fuel (listed.setIfInBounds i true) (a.put d v) w1) :
    wpAnyH P md ops Q S (fuel + 1) listed a w := by
  subst hd
  refine any_oneG i hi hr hw ?_
  obtain ⟨dst, op, ty, pos, aft, gd⟩ := o
  subst ho
  unfold Oper.wp
  have hargs' : #[] ++ xs.toArray.map a.eval ++ #[] = args.toArray := by simp [← hargs]
  rw [execOp_call_go, hargs', run_go hf hn hb]
  refine hK.mono ?_
  rintro e w1 ⟨v, rfl, h⟩
  exact h

/-- an operation that yields a value, alone ready, by its run -/
theorem any_val (i : Nat) (hi : ops[i]? = some o) (hr : Region.ready md ops listed = [i]) (hg : o.guard = none) (d : Option Tmp) (hd : o.dst = d) (v : Value) (w1 : World) (hrun : (execOp a.eval o).run P w = .ok (.value v) w1)
    (hK : S w1 ∧ wpAnyH P md ops Q S fuel (listed.setIfInBounds i true) (a.put d v) w1) : wpAnyH P md ops Q S (fuel + 1) listed a w := by
  subst hd
  refine any_one i hi hr hg ?_
  unfold Oper.wp
  rw [hrun]
  exact hK

theorem any_buildSlice (i : Nat) (hi : ops[i]? = some o) (hr : Region.ready md ops listed = [i]) (hg : o.guard = none) (d : Option Tmp) (hd : o.dst = d) (T : TypeId) (n : Nat) (parts : List (Nat × Operand)) (ho : o.op = .buildSlice T n parts.toArray) (vs : List (Nat × Value)) (hvs : parts.map (fun p => (p.1, a.eval p.2)) = vs) (cs : Array Value) (e : TypeId)
    (hrun : ∀ w, (Instr.buildSlice T n vs.toArray).run P w = .ok (.slice (some ⟨w.heap.size, 0, none⟩) n n) (w.alloc (.cells cs e)))
    (hK : ∀ b w1, Hid (b = w.heap.size) → Fr [] w w1 → w1.heap[b]? = some (.cells cs e) → Hid (w1.heap.size = w.heap.size + 1) → S w1 ∧ wpAnyH P md ops Q S fuel (listed.setIfInBounds i true) (a.put d (.slice (some ⟨b, 0, none⟩) n n)) w1) : wpAnyH P md ops Q S (fuel + 1) listed a w :=
  any_val i hi hr hg d hd _ _ (exec_buildSlice ho hvs (hrun w)) (hK _ _ rfl (Fr.alloc _ _) (heap_alloc_new _ _) (World.size_alloc _ _))
end
end Go.Proofs.Ybulkduvu.Base
