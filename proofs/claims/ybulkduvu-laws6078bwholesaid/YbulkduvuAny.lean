/-
  A region that draws its order, walked by hand: what only reads is taken first; what writes comes up alone.
-/
import Derived.Test.YbulkduvuBase
import Derived.Deep.RegionHeld3
namespace Go.Proofs.Ybulkduvu.Base
open Go Go.RowKit
section
variable {P : Program} {ops : Array Oper} {Q : Exit → Act → World → Prop} {md : Region.Mode} {S : World → Prop} {fuel : Nat} {listed : Array Bool} {a : Act} {w : World} {o : Oper}

/-- an operation that yields v wherever S holds, taken first -/
theorem any_take (i : Nat) (hi : ops[i]? = some o) (d : Option Tmp) (hd : o.dst = d) (hs : Region.noSelect ops = true) (hf : Region.free md ops listed i = true) (hr : (Region.ready md ops listed).contains i = true)
    (hg : o.guard = none) (v : Value) (hQ : ∀ c a w, Q (.panic c) (a.put d v) w → Q (.panic c) a w) (hrun : ∀ w, S w → (execOp a.eval o).run P w = .ok (.value v) w) (hS : S w)
    (h : wpAnyH P md ops Q S fuel (listed.setIfInBounds i true) (a.put d v) w) : wpAnyH P md ops Q S (fuel + 1) listed a w := by
  subst hd
  exact wpAnyH_take hi hs hf hr hQ (.inl ⟨by simp [Region.wanted, hg], hrun⟩) hS h

/-- a whole row's load, taken first -/
theorem any_load_arr (i : Nat) (hi : ops[i]? = some o) (d : Option Tmp) (hd : o.dst = d) (hs : Region.noSelect ops = true) (hf : Region.free md ops listed i = true) (hr : (Region.ready md ops listed).contains i = true)
    (hg : o.guard = none) (cs : Array Value) (hQ : ∀ c a w, Q (.panic c) (a.put d (.agg cs)) w → Q (.panic c) a w)
    (ty : TypeId) (x : Operand) (ho : o.op = .load ty x) (g : Nat) (hx : a.eval x = .pointer (some ⟨g, 0, none⟩)) (t : TypeId) (fr : Nat × Nat) (hrow : ∀ w, S w → w.heap[g]? = some (.cells cs t fr))
    (D : TypeDesc) (hu : P.underlying ty = some D) (hD : (match D with | .struct _ | .array _ _ => true | _ => false) = true) (hz : (P.info? ty).map (·.size) = some cs.size) (hS : S w)
    (h : wpAnyH P md ops Q S fuel (listed.setIfInBounds i true) (a.put d (.agg cs)) w) : wpAnyH P md ops Q S (fuel + 1) listed a w := by
  refine any_take i hi d hd hs hf hr hg _ hQ (fun w hw => ?_) hS h
  simp only [execOp, ho, hx, Instr.loadAt, Instr.sureAddr, Sem.run_bind, Sem.run_pure, Result.andThen_ok, run_loadVar_row w g t ty cs fr D (hrow w hw) hu hD hz]

/-- one cell's load, taken first -/
theorem any_load_cell (i : Nat) (hi : ops[i]? = some o) (d : Option Tmp) (hd : o.dst = d) (hs : Region.noSelect ops = true) (hf : Region.free md ops listed i = true) (hr : (Region.ready md ops listed).contains i = true)
    (hg : o.guard = none) (v : Value) (hQ : ∀ c a w, Q (.panic c) (a.put d v) w → Q (.panic c) a w)
    (ty : TypeId) (x : Operand) (ho : o.op = .load ty x) (ad : Addr) (hx : a.eval x = .pointer (some ad)) (hc : ∀ w, S w → w.cell? ad = some v)
    (D : TypeDesc) (hu : P.underlying ty = some D) (hD : (match D with | .struct _ | .array _ _ => false | _ => true) = true) (hS : S w)
    (h : wpAnyH P md ops Q S fuel (listed.setIfInBounds i true) (a.put d v) w) : wpAnyH P md ops Q S (fuel + 1) listed a w := by
  refine any_take i hi d hd hs hf hr hg _ hQ (fun w hw => ?_) hS h
  have hagg : (isAgg ty).run P w = .ok false w := by
    unfold isAgg
    rw [Sem.run_bind, run_underlying hu w]
    cases D <;> simp_all
  simp [execOp, ho, hx, Instr.loadAt, Instr.sureAddr, loadVar, hagg, hc w hw]

/-- one operation alone may come up -/
theorem any_one (i : Nat) (hi : ops[i]? = some o) (hr : Region.ready md ops listed = [i]) (hg : o.guard = none)
    (h : o.wp P a w (fun a' w' => S w' ∧ wpAnyH P md ops Q S fuel (listed.setIfInBounds i true) a' w') Q) : wpAnyH P md ops Q S (fuel + 1) listed a w := by
  refine wpAnyH_all hr (by simp) (fun j hj => ?_)
  simp at hj
  subst hj
  unfold wpOp
  simp only [hi]
  rw [if_pos (by simp [Region.wanted, hg])]
  exact .inl h

theorem any_store_arr (i : Nat) (hi : ops[i]? = some o) (hr : Region.ready md ops listed = [i]) (hg : o.guard = none) (ty : TypeId) (x y : Operand) (ho : o.op = .store ty x y)
    (g : Nat) (cells : Array Value) (hx : a.eval x = .pointer (some ⟨g, 0, none⟩)) (hy : a.eval y = .agg cells)
    (t : TypeId) (old : Array Value) (hrow : w.heap[g]? = some (.cells old t)) (hz : (P.info? ty).map (·.size) = some cells.size) (hs : old.size = cells.size) (h1 : cells.all (·.oneCell') = true)
    (hK : ∀ w1, Fr [g] w w1 → w1.heap[g]? = some (.cells cells t) → Hid (w1.heap.size = w.heap.size) → S w1 ∧ wpAnyH P md ops Q S fuel (listed.setIfInBounds i true) (a.put o.dst undef) w1) :
    wpAnyH P md ops Q S (fuel + 1) listed a w := by
  refine any_one i hi hr hg ?_
  unfold Oper.wp
  simp only [execOp, ho, hx, hy, Instr.storeAt, Instr.sureAddr, Sem.run_bind, Sem.run_pure, Result.andThen_ok, run_storeVar_row w g t ty old cells hrow hz hs h1]
  exact hK _ (Fr.setRow _ _ _) (setRow_heap w g old cells t _ hrow) (setRow_size _ _ _)

theorem any_unit (i : Nat) (hi : ops[i]? = some o) (hr : Region.ready md ops listed = [i]) (hg : o.guard = none) (w1 : World) (hrun : (execOp a.eval o).run P w = .ok .skip w1)
    (hK : S w1 ∧ wpAnyH P md ops Q S fuel (listed.setIfInBounds i true) (a.put o.dst undef) w1) :
    wpAnyH P md ops Q S (fuel + 1) listed a w := by
  refine any_one i hi hr hg ?_
  unfold Oper.wp
  rw [hrun]
  exact hK

theorem run_go {f : FuncId} {fn : Func} (hf : P.funcs[f]? = some fn) (hn : (fn.name == "runtime.NumGoroutine") = false) (hb : fn.body.isNone = false) (args : Array Value) (w : World) : (callFunc f args).run P w = .ok (.enter f args) w := by
  have hn' : fn.name ≠ "runtime.NumGoroutine" := by simpa using hn
  have hb' : fn.body ≠ none := fun e => by simp [e] at hb
  simp [callFunc, hf, hn', hb']

/-- a call of a Go function -/
theorem any_call (i : Nat) (hi : ops[i]? = some o) (hr : Region.ready md ops listed = [i]) (hg : o.guard = none) (d : Option Tmp) (hd : o.dst = d) (f : FuncId) (xs : List Operand) (ats : Array TypeId)
    (ho : o.op = .call { callee := .value (.func f), args := xs.toArray, argTypes := ats }) (fn : Func) (hf : P.funcs[f]? = some fn) (hn : (fn.name == "runtime.NumGoroutine") = false) (hb : fn.body.isNone = false) (args : List Value) (hargs : xs.map a.eval = args)
    (hK : Calls P f args.toArray w fun e w1 => ∃ v, e = .returned v ∧ S w1 ∧ wpAnyH P md ops Q S fuel (listed.setIfInBounds i true) (a.put d v) w1) :
    wpAnyH P md ops Q S (fuel + 1) listed a w := by
  subst hd
  refine any_one i hi hr hg ?_
  obtain ⟨dst, op, ty, pos, aft, gd⟩ := o
  subst ho
  unfold Oper.wp
  have hargs' : #[] ++ xs.toArray.map a.eval ++ #[] = args.toArray := by simp [← hargs]
  rw [execOp_call_go, hargs', run_go hf hn hb]
  refine hK.mono ?_
  rintro e w1 ⟨v, rfl, h⟩
  exact h

theorem any_done (hr : Region.ready md ops listed = []) (h : Q .normal a w) : wpAnyH P md ops Q S fuel listed a w := wpAnyH_done hr h fuel

theorem any_begin {id : Nat} (S : World → Prop) (hm : P.follows .mixedOrders = true) (hS : S w.drew) (h : wpAnyH P .any ops Q S ops.size (Array.replicate ops.size false) a w.drew) : (Code.region id ops true).wp P Q a w :=
  wp_region_held_drew hm hS (fun _ => h)
end
end Go.Proofs.Ybulkduvu.Base
