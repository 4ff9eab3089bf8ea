import Derived.Test.YbulkdusaWalkB
namespace Go.Proofs.Ybulkdusa
open Go.RowKit Base

/-- the store's cells: its lock (cells 15, 19), its two maps, its horizon -/
def stRow (l0 l4 : Int) (bd ba : Nat) (hz : Int) : Array Value :=
  #[.pointer none, .int .i64 0, .pointer none, .int .i32 0, .int .u32 0, .map none, .map none, .map none, .int .u64 0, .int .u64 0, .int .i64 0, .bool false, .bool false, .int .u64 0, .int .u32 0,
    .int .i32 l0, .int .u32 0, .int .u32 0, .int .u32 0, .int .i32 l4, .int .i32 0, .map (some bd), .map (some ba), .int .u64 hz]

theorem slice60_to {b o n cap i : Nat} (h : i ≤ cap) (w : World) : (Instr.sliceAt 60 (.slice (some ⟨b, o, none⟩) n cap) none (some (.int .i64 i)) none).run Yba.prog w = .ok (.slice (some ⟨b, o, none⟩) i cap) w := by
  have e : Yba.prog.elem 60 = 66 := by kernel_rfl
  have hu : Yba.prog.underlying 60 = some (.slice (Yba.prog.elem 60)) := by rw [e]; exact Yba.underlying60
  rw [run_sliceAt_slice w 60 _ _ _ _ hu]
  simp [Instr.slice, run_underlying Yba.underlying60, Instr.sliceBounds, Instr.sliceBound, asIntOf, Yba.sizeOf66]
  rw [if_pos h]
  split <;> simp [Addr.add]

theorem slice60_from {b o n cap i : Nat} (h : i ≤ n) (hn : n ≤ cap) : ∃ o', (i < cap → o' = o + i * 3) ∧ ∀ w, (Instr.sliceAt 60 (.slice (some ⟨b, o, none⟩) n cap) (some (.int .i64 i)) none none).run Yba.prog w = .ok (.slice (some ⟨b, o', none⟩) (n - i) (cap - i)) w := by
  have e : Yba.prog.elem 60 = 66 := by kernel_rfl
  have hu : Yba.prog.underlying 60 = some (.slice (Yba.prog.elem 60)) := by rw [e]; exact Yba.underlying60
  by_cases hc : i < cap
  · refine ⟨o + i * 3, fun _ => rfl, fun w => ?_⟩
    rw [run_sliceAt_slice w 60 _ _ _ _ hu]
    have hne : ¬ cap = i := by omega
    simp [Instr.slice, run_underlying Yba.underlying60, Instr.sliceBounds, Instr.sliceBound, asIntOf, Yba.sizeOf66, hne, Addr.add_lit]
    omega
  · have hci : cap = i := by omega
    refine ⟨o, fun h => absurd h hc, fun w => ?_⟩
    rw [run_sliceAt_slice w 60 _ _ _ _ hu]
    simp [Instr.slice, run_underlying Yba.underlying60, Instr.sliceBounds, Instr.sliceBound, asIntOf, Yba.sizeOf66, hci]
    omega

theorem exec_slice {w : World} {o : Oper} {a : Act} {T : TypeId} {x : Operand} {lo hi : Option Operand} (ho : o.op = .slice T x lo hi none) {xv v : Value} {lv hv : Option Value} {w1 : World} (hx : a.eval x = xv) (hl : lo.map a.eval = lv) (hh : hi.map a.eval = hv)
    (hrun : (Instr.sliceAt T xv lv hv none).run Yba.prog w = .ok v w1) : (execOp a.eval o).run Yba.prog w = .ok (.value v) w1 := by
  simp [execOp, ho, hx, hl, hh, hrun]

/-- 'clear(vs[:i])' -/
theorem clear60 {b o i cap : Nat} {cs : Array Value} {w : World} (hi : 0 < i) (hb : w.heap[b]? = some (.cells cs 66)) (hf : o + i * 3 ≤ cs.size) :
    ∃ zs : List Value, zs.length = i * 3 ∧ (Builtin.clear_ #[60] 0 #[.slice (some ⟨b, o, none⟩) i cap]).run Yba.prog w = .ok (.tuple #[]) (w.setCells b o zs) := by
  refine ⟨(Builtin.zeroCells #[.int .u64 0, .slice none 0 0, .bool false] i).toList, by rw [Array.length_toList, size_zeroCells]; rfl, ?_⟩
  have hlen : (Builtin.zeroCells #[.int .u64 0, .slice none 0 0, .bool false] i).toList.length = i * 3 := by rw [Array.length_toList, size_zeroCells]; rfl
  have h1 : ∀ v ∈ (Builtin.zeroCells #[.int .u64 0, .slice none 0 0, .bool false] i).toList, v.oneCell' = true := by
    intro v hv
    simp only [Builtin.zeroCells, Array.toList_map, List.mem_map] at hv
    obtain ⟨k, _, rfl⟩ := hv
    have h3 : k % 3 = 0 ∨ k % 3 = 1 ∨ k % 3 = 2 := by omega
    simp only [List.size_toArray, List.length_cons, List.length_nil, Nat.zero_add, Nat.reduceAdd]
    rcases h3 with h | h | h <;> rw [h] <;> rfl
  have hth := there_row (n := i * 3) hb hf
  have hst := run_storeCells_cells (P := Yba.prog) b o (Builtin.zeroCells #[.int .u64 0, .slice none 0 0, .bool false] i).toList 0 w (fun j hj => by rw [hlen] at hj; simpa using (hth j hj).1) (fun j hj => by rw [hlen] at hj; simpa using (hth j hj).2) h1
  simp only [Nat.add_zero] at hst
  obtain ⟨i, rfl⟩ : ∃ k, i = k + 1 := ⟨i - 1, by omega⟩
  simp [Builtin.clear_, run_underlying Yba.underlying60, Value.cells, hst]

/-- is the key aged behind 'keep'? -/
def agB : List Ver → Bool
  | [] => false
  | [x] => x.del
  | _ => true
end Go.Proofs.Ybulkdusa
