import Derived.Test.YbulkdusoFmtLen
import Derived.Test.YbulkdusoFmtFmt
namespace Go.Proofs.YbulkdusoFmt.Base
open Go Go.RowKit
section
variable {P : Program} {ops : Array Oper} {Q : Exit → Act → World → Prop} {md : Region.Mode} {S : World → Prop} {fuel : Nat} {listed : Array Bool} {a : Act} {w : World} {o : Oper}

theorem any_store_cell (j : Nat) (hj : ops[j]? = some o) (hr : Region.ready md ops listed = [j]) (hg : o.guard = none) (ty : TypeId) (x y : Operand) (ho : o.op = .store ty x y)
    (g i : Nat) (v : Value) (hx : a.eval x = .pointer (some ⟨g, i, none⟩)) (hy : a.eval y = v) (h1 : v.oneCell' = true)
    (t : TypeId) (cs : Array Value) (hrow : w.heap[g]? = some (.cells cs t)) (hi : i < cs.size) (hz : (P.info? ty).map (·.size) = some 1)
    (hK : ∀ w1, Fr [g] w w1 → w1.heap[g]? = some (.cells (cs.setIfInBounds i v) t) → Hid (w1.heap.size = w.heap.size) → S w1 ∧ wpAnyH P md ops Q S fuel (listed.setIfInBounds j true) (a.put o.dst undef) w1) :
    wpAnyH P md ops Q S (fuel + 1) listed a w := by
  have hc : w.cell? ⟨g, i, none⟩ = some cs[i] := by rw [cell_of_row w g i cs t _ hrow]; simp [hi]
  have hf : w.frozen? ⟨g, i, none⟩ = false := frozen_of_row w g i cs t hrow
  have hcells : v.cells = #[v] := by cases v <;> simp [Value.oneCell', Value.cells] at h1 ⊢
  refine any_unit j hj hr hg (w.setCell ⟨g, i, none⟩ v) ?_ (hK _ (Fr.setCell w ⟨g, i, none⟩ v) (heap_setCell_same w g i cs t v hrow) (World.size_setCell _ _ _))
  cases hq : P.info? ty with
  | none => simp [hq] at hz
  | some inf =>
    have hs : inf.size = 1 := by simpa [hq] using hz
    simp [execOp, ho, hx, hy, Instr.storeAt, Instr.sureAddr, storeVar, sizeOf, typeInfo, hq, hs, hcells, storeCells, Addr.add, run_store _ _ _ _ _ h1, hc, hf]

theorem any_box (j : Nat) (hj : ops[j]? = some o) (hr : Region.ready md ops listed = [j]) (hg : o.guard = none) (t : TypeId) (x : Operand) (ho : o.op = .box t x) (d : Option Tmp) (hd : o.dst = d) (v : Value) (hx : a.eval x = v)
    (hK : ∀ b w1, Hid (b = w.heap.size) → Fr [] w w1 → S w1 ∧ wpAnyH P md ops Q S fuel (listed.setIfInBounds j true) (a.put d (.pointer (some ⟨b, 0, none⟩))) w1) :
    wpAnyH P md ops Q S (fuel + 1) listed a w := by
  refine any_val j hj hr hg d hd (.pointer (some ⟨w.heap.size, 0, none⟩)) (w.alloc (.cells v.cells t)) ?_ (hK _ _ rfl (Fr.alloc _ _))
  simp [execOp, ho, hx, Instr.box, newVar, newRow]

theorem exec_call {f : FuncId} {xs : List Operand} {ats : Array TypeId} (ho : o.op = .call { callee := .value (.func f), args := xs.toArray, argTypes := ats }) {args : List Value} (hargs : xs.map a.eval = args) {r : Result Next}
    (hrun : (callFunc f args.toArray).run P w = r) : (execOp a.eval o).run P w = r := by
  obtain ⟨dst, op, ty, pos, aft, gd⟩ := o
  subst ho
  have hargs' : #[] ++ xs.toArray.map a.eval ++ #[] = args.toArray := by simp [← hargs]
  rw [execOp_call_go, hargs', hrun]
end
end Go.Proofs.YbulkdusoFmt.Base

namespace Go.Proofs.YbulkdusoFmt
open Go.RowKit Base

def tlv (c m k : Value) (off il hl ln : Int) : Array Value := #[c, m, k, .int .i64 off, .int .i64 0, .int .i64 il, .int .i64 hl, .int .i64 ln, .slice none 0 0, .bool false]

theorem build41 (p : Int) (w : World) : (Instr.build 41 #[(2, .int .i64 p), (8, .bool false)]).run Ybaf.prog w = .ok (.agg (tlv (.int .u8 0) (.int .u64 0) (.bool false) p 0 0 0)) w := by kernel_rfl
theorem build80 (p : Int) (c t : ByteArray) (w : World) : (Instr.build 80 #[(0, .int .i64 p), (1, .string c), (2, .string t)]).run Ybaf.prog w = .ok (.agg #[.int .i64 p, .string c, .string t]) w := by kernel_rfl
theorem bs107 (m : Int) (w : World) : (Instr.buildSlice 107 1 #[(0, .iface 37 (.int .u64 m))]).run Ybaf.prog w = .ok (.slice (some ⟨w.heap.size, 0, none⟩) 1 1) (w.alloc (.cells #[.iface 37 (.int .u64 m)] 20)) := by kernel_rfl
theorem size41 : (Ybaf.prog.info? 41).map (·.size) = some 10 := by kernel_rfl
theorem size36 : (Ybaf.prog.info? 36).map (·.size) = some 1 := by kernel_rfl
theorem size37 : (Ybaf.prog.info? 37).map (·.size) = some 1 := by kernel_rfl
theorem size4 : (Ybaf.prog.info? 4).map (·.size) = some 1 := by kernel_rfl
theorem size3 : (Ybaf.prog.info? 3).map (·.size) = some 1 := by kernel_rfl
theorem size2 : (Ybaf.prog.info? 2).map (·.size) = some 1 := by kernel_rfl

section
variable {w w' : World} {t : Nat} {c m k : Value} {off il hl ln : Int}
theorem tlv1 (h : w.heap[t]? = some (.cells (tlv c m k off il hl ln) 41)) : w.cell? ⟨t, 1, none⟩ = some m := by rw [cell_of_row w t 1 _ _ _ h]; rfl
theorem tlv3 (h : w.heap[t]? = some (.cells (tlv c m k off il hl ln) 41)) : w.cell? ⟨t, 3, none⟩ = some (.int .i64 off) := by rw [cell_of_row w t 3 _ _ _ h]; rfl
theorem tlv5 (h : w.heap[t]? = some (.cells (tlv c m k off il hl ln) 41)) : w.cell? ⟨t, 5, none⟩ = some (.int .i64 il) := by rw [cell_of_row w t 5 _ _ _ h]; rfl
end

/-- the Scanner at s, its octets, apart from the block t -/
structure Env (w : World) (s b o cap n p t : Nat) (l : List Int) : Prop where
  hs : w.heap[s]? = some (.cells (scn (.slice (some ⟨b, o, none⟩) n cap) p) 34)
  hb : Bts w b o l
  st : s ≠ t
  bt : b ≠ t

theorem Bts.keep {w w' : World} {b o : Nat} {l : List Int} {S : List Nat} (h : Bts w b o l) (F : Fr S w w') (hS : b ∉ S) : Bts w' b o l := fun i c hc => F.cell (h i c hc) hS
theorem Env.keep {w w' : World} {s b o cap n p t : Nat} {l : List Int} (h : Env w s b o cap n p t l) (F : Fr [t] w w') : Env w' s b o cap n p t l :=
  ⟨F.get h.hs (by simpa using h.st), h.hb.keep F (by simpa using h.bt), h.st, h.bt⟩
theorem Env.keep0 {w w' : World} {s b o cap n p t : Nat} {l : List Int} (h : Env w s b o cap n p t l) (F : Fr [] w w') : Env w' s b o cap n p t l := h.keep (F.mono (by simp))

theorem idx22 {b o n cap i : Nat} (h : i < n) (w : World) : (Instr.indexAt 22 (.slice (some ⟨b, o, none⟩) n cap) (.int .i64 i)).run Ybaf.prog w = .ok (.pointer (some ⟨b, o + i, none⟩)) w := by
  have e : Ybaf.prog.elem 22 = 5 := by kernel_rfl
  rw [run_indexAt_slice w 22 ⟨b, o, none⟩ n cap .i64 i (by rw [e]; exact Ybaf.underlying22), if_pos (by omega), e, Ybaf.sizeOf5]
  simp [Addr.add_lit]
theorem exec_index {w : World} {o : Oper} {a : Act} {T : TypeId} {x i : Operand} (ho : o.op = .indexAddr T x i) {xv iv v : Value} {w1 : World} (hx : a.eval x = xv) (hi : a.eval i = iv) (hrun : (Instr.indexAt T xv iv).run Ybaf.prog w = .ok v w1) : (execOp a.eval o).run Ybaf.prog w = .ok (.value v) w1 := by
  simp [execOp, ho, hx, hi, hrun]

/-- the length is of the indefinite form -/
def hk (l : List Int) (p : Nat) : Prop := ∃ q, tg l p = some q ∧ l[q]? = some 128

def headRes (i : Prop) (p : Nat) (R : Option (Int × Nat)) (e : Ending) (ts : Array Value) : Prop :=
  match R with
  | none => (¬ i ∧ ∃ x, e = .returned (.iface 77 x)) ∨ (i ∧ e = .returned .nilIface ∧ ts[7]? = some (.int .i64 (-1)))
  | some (x, q) => e = .returned .nilIface ∧ ts[7]? = some (.int .i64 x) ∧ ts[6]? = some (.int .i64 ((q : Int) - p))

theorem hd_none {l : List Int} {p : Nat} (h : tg l p = none) : hd l p = none ∧ ¬ hk l p := by
  constructor
  · unfold hd; rw [h]
  · rintro ⟨q, hq, _⟩; rw [h] at hq; cases hq
theorem hd_some {l : List Int} {p q : Nat} (h : tg l p = some q) : hd l p = le l q ∧ (hk l p ↔ l[q]? = some 128) := by
  constructor
  · unfold hd; rw [h]
  · constructor
    · rintro ⟨q', h1, h2⟩; rw [h] at h1; cases h1; exact h2
    · exact fun h2 => ⟨q, h, h2⟩


theorem exec_conv {w : World} {o : Oper} {a : Act} {x : Operand} {c : Int} (h0 : 0 ≤ c) (h1 : c < 256) (ho : o.op = .convert 5 2 x) (hx : a.eval x = .int .u8 c) : (execOp a.eval o).run Ybaf.prog w = .ok (.value (.int .i64 c)) w := by
  have hw := wraps_i64 c h0 (by omega)
  have hrun : (convert 5 2 (.int .u8 c)).run Ybaf.prog w = .ok (.int .i64 c) w := by simp [go_sem, hw]
  simp [execOp, ho, hx, hrun]
theorem exec_add1 {w : World} {o : Oper} {a : Act} {x : Operand} {c : Int} (h0 : 0 ≤ c) (h1 : c ≤ 1048576) (ho : o.op = .binOp .add 3 x (.const (.int .i64 1)) 3) (hx : a.eval x = .int .i64 c) : (execOp a.eval o).run Ybaf.prog w = .ok (.value (.int .i64 (c + 1))) w := by
  have hw := wraps_i64 (c + 1) (by omega) (by omega)
  have hrun : (binOp .add 3 (.int .i64 c) (.int .i64 1)).run Ybaf.prog w = .ok (.int .i64 (c + 1)) w := by simp [go_sem, hw]
  have h1' : a.eval (.const (.int .i64 1)) = .int .i64 1 := rfl
  simp [execOp, ho, hx, h1', eqGuard_add, hrun]

end Go.Proofs.YbulkdusoFmt
