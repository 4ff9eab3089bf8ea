import Derived.Test.YbulkdusoFmtHeadA
namespace Go.Proofs.YbulkdusoFmt.Base
open Go Go.RowKit
section
variable {P : Program} {ops : Array Oper} {Q : Exit → Act → World → Prop} {md : Region.Mode} {S : World → Prop} {fuel : Nat} {listed : Array Bool} {a : Act} {w : World} {o : Oper}
theorem any_alloc (j : Nat) (hj : ops[j]? = some o) (hr : Region.ready md ops listed = [j]) (hg : o.guard = none) (t : TypeId) (ho : o.op = .alloc t) (d : Option Tmp) (hd : o.dst = d) (z : Value) (cs : Array Value) (hz : (zeroValue t).run P w = .ok z w) (hcs : z.cells = cs)
    (hK : ∀ b w1, Hid (b = w.heap.size) → Fr [] w w1 → w1.heap[b]? = some (.cells cs t) → S w1 ∧ wpAnyH P md ops Q S fuel (listed.setIfInBounds j true) (a.put d (.pointer (some ⟨b, 0, none⟩))) w1) :
    wpAnyH P md ops Q S (fuel + 1) listed a w := by
  subst hcs
  refine any_val j hj hr hg d hd (.pointer (some ⟨w.heap.size, 0, none⟩)) (w.alloc (.cells z.cells t)) ?_ (hK _ _ rfl (Fr.alloc _ _) (heap_alloc_new _ _))
  simp [execOp, ho, Instr.alloc, hz, newVar, newRow]
end
end Go.Proofs.YbulkdusoFmt.Base

namespace Go.Proofs.YbulkdusoFmt
open Go.RowKit Base

/-- a Decoder -/
def dec (sp : Value) (ao : Int) (er : Value) (pk : Bool) (n : Int) (top : Value) : Array Value :=
  #[sp, .int .u8 0, .int .u64 0, .bool false, .int .i64 ao, .int .i64 0, .int .i64 0, .int .i64 0, .int .i64 0, .slice none 0 0, .bool false, .bool false, er, .bool pk, .slice none 0 0, .int .i64 n, top, .slice none 0 0, .int .i64 0, .slice none 0 0, .int .i64 0, .slice none 0 0, .map none, .map none]

section
variable {w : World} {g : Nat} {sp er top : Value} {ao n : Int} {pk : Bool}
theorem dec0 (h : w.heap[g]? = some (.cells (dec sp ao er pk n top) 56)) : w.cell? ⟨g, 0, none⟩ = some sp := by rw [cell_of_row w g 0 _ _ _ h]; rfl
theorem dec4 (h : w.heap[g]? = some (.cells (dec sp ao er pk n top) 56)) : w.cell? ⟨g, 4, none⟩ = some (.int .i64 ao) := by rw [cell_of_row w g 4 _ _ _ h]; rfl
theorem dec12 (h : w.heap[g]? = some (.cells (dec sp ao er pk n top) 56)) : w.cell? ⟨g, 12, none⟩ = some er := by rw [cell_of_row w g 12 _ _ _ h]; rfl
theorem dec13 (h : w.heap[g]? = some (.cells (dec sp ao er pk n top) 56)) : w.cell? ⟨g, 13, none⟩ = some (.bool pk) := by rw [cell_of_row w g 13 _ _ _ h]; rfl
theorem dec15 (h : w.heap[g]? = some (.cells (dec sp ao er pk n top) 56)) : w.cell? ⟨g, 15, none⟩ = some (.int .i64 n) := by rw [cell_of_row w g 15 _ _ _ h]; rfl
theorem dec16 (h : w.heap[g]? = some (.cells (dec sp ao er pk n top) 56)) : w.cell? ⟨g, 16, none⟩ = some top := by rw [cell_of_row w g 16 _ _ _ h]; rfl
end

set_option maxHeartbeats 400000 in
theorem len10 (g : Nat) (n : Int) (w : World) (h : w.cell? ⟨g, 15, none⟩ = some (.int .i64 n)) : Calls Ybaf.prog 10 #[.pointer (some ⟨g, 14, none⟩)] w fun e w' => e = .returned (.int .i64 n) ∧ w' = w := by
  go_enter Ybaf.func10, Ybaf.ntmps10
  go_wp2
  go_ret
  exact ⟨rfl, rfl⟩

theorem idx43 {b : Nat} (w : World) : (Instr.indexAt 43 (.slice (some ⟨b, 0, none⟩) 1 1) (.int .i64 0)).run Ybaf.prog w = .ok (.pointer (some ⟨b, 0, none⟩)) w := by kernel_rfl

set_option maxHeartbeats 1000000 in
set_option maxRecDepth 100000 in
theorem top11 (g eb : Nat) (w : World) (h : w.cell? ⟨g, 16, none⟩ = some (.slice (some ⟨eb, 0, none⟩) 1 1)) : Calls Ybaf.prog 11 #[.pointer (some ⟨g, 14, none⟩)] w fun e w' => e = .returned (.pointer (some ⟨eb, 0, none⟩)) ∧ Fr [] w w' := by
  go_enter Ybaf.func11, Ybaf.ntmps11
  go_wp2
  have hS : w.drew.cell? ⟨g, 16, none⟩ = some (.slice (some ⟨eb, 0, none⟩) 1 1) := h
  refine any_begin (fun w' => w'.cell? ⟨g, 16, none⟩ = some (.slice (some ⟨eb, 0, none⟩) 1 1)) (by kernel_rfl) hS ?_
  refine any_take 0 rfl (some 3) rfl (by kernel_rfl) (by kernel_rfl) (by kernel_rfl) rfl (.pointer (some ⟨g, 14, none⟩)) (fun _ _ _ h => h) (fun _ _ => rfl) hS ?_
  simp only [Act.put, List.setIfInBounds_toArray, List.set_cons_zero, List.set_cons_succ]
  refine any_take 1 rfl (some 4) rfl (by kernel_rfl) (by kernel_rfl) (by kernel_rfl) rfl (.pointer (some ⟨g, 14, none⟩)) (fun _ _ _ h => h) (fun _ _ => by first | rfl | kernel_rfl) hS ?_
  simp only [Act.put, List.setIfInBounds_toArray, List.set_cons_zero, List.set_cons_succ]
  refine any_take 2 rfl (some 5) rfl (by kernel_rfl) (by kernel_rfl) (by kernel_rfl) rfl (.pointer (some ⟨g, 16, none⟩)) (fun _ _ _ h => h) (fun _ _ => by first | rfl | kernel_rfl) hS ?_
  simp only [Act.put, List.setIfInBounds_toArray, List.set_cons_zero, List.set_cons_succ]
  refine any_load_cell 3 rfl (some 6) rfl (by kernel_rfl) (by kernel_rfl) (by kernel_rfl) rfl (.slice (some ⟨eb, 0, none⟩) 1 1) (fun _ _ _ h => h) 43 (.tmp 5) rfl ⟨g, 16, none⟩ rfl (fun w h => h) _ Ybaf.underlying43 rfl hS ?_
  simp only [Act.put, List.setIfInBounds_toArray, List.set_cons_zero, List.set_cons_succ]
  refine any_take 4 rfl (some 7) rfl (by kernel_rfl) (by kernel_rfl) (by kernel_rfl) rfl (.pointer (some ⟨g, 14, none⟩)) (fun _ _ _ h => h) (fun _ _ => rfl) hS ?_
  simp only [Act.put, List.setIfInBounds_toArray, List.set_cons_zero, List.set_cons_succ]
  refine any_take 5 rfl (some 8) rfl (by kernel_rfl) (by kernel_rfl) (by kernel_rfl) rfl (.pointer (some ⟨g, 14, none⟩)) (fun _ _ _ h => h) (fun _ _ => by first | rfl | kernel_rfl) hS ?_
  simp only [Act.put, List.setIfInBounds_toArray, List.set_cons_zero, List.set_cons_succ]
  refine any_take 6 rfl (some 9) rfl (by kernel_rfl) (by kernel_rfl) (by kernel_rfl) rfl (.pointer (some ⟨g, 16, none⟩)) (fun _ _ _ h => h) (fun _ _ => by first | rfl | kernel_rfl) hS ?_
  simp only [Act.put, List.setIfInBounds_toArray, List.set_cons_zero, List.set_cons_succ]
  refine any_load_cell 7 rfl (some 10) rfl (by kernel_rfl) (by kernel_rfl) (by kernel_rfl) rfl (.slice (some ⟨eb, 0, none⟩) 1 1) (fun _ _ _ h => h) 43 (.tmp 9) rfl ⟨g, 16, none⟩ rfl (fun w h => h) _ Ybaf.underlying43 rfl hS ?_
  simp only [Act.put, List.setIfInBounds_toArray, List.set_cons_zero, List.set_cons_succ]
  refine any_take 8 rfl (some 11) rfl (by kernel_rfl) (by kernel_rfl) (by kernel_rfl) rfl (.int .i64 1) (fun _ _ _ h => h) (fun _ _ => by first | rfl | kernel_rfl) hS ?_
  simp only [Act.put, List.setIfInBounds_toArray, List.set_cons_zero, List.set_cons_succ]
  refine any_take 9 rfl (some 12) rfl (by kernel_rfl) (by kernel_rfl) (by kernel_rfl) rfl (.int .i64 0) (fun _ _ _ h => h) (fun _ _ => by first | rfl | kernel_rfl) hS ?_
  simp only [Act.put, List.setIfInBounds_toArray, List.set_cons_zero, List.set_cons_succ]
  refine any_take 10 rfl (some 13) rfl (by kernel_rfl) (by kernel_rfl) (by kernel_rfl) rfl (.pointer (some ⟨eb, 0, none⟩)) (fun _ _ _ h => h) (fun w _ => exec_index (xv := .slice (some ⟨eb, 0, none⟩) 1 1) (iv := .int .i64 0) rfl rfl rfl (idx43 w)) hS ?_
  simp only [Act.put, List.setIfInBounds_toArray, List.set_cons_zero, List.set_cons_succ]
  refine any_take 11 rfl (some 2) rfl (by kernel_rfl) (by kernel_rfl) (by kernel_rfl) rfl (.pointer (some ⟨eb, 0, none⟩)) (fun _ _ _ h => h) (fun _ _ => rfl) hS ?_
  simp only [Act.put, List.setIfInBounds_toArray, List.set_cons_zero, List.set_cons_succ]
  refine any_done (by kernel_rfl) ?_
  go_wp2
  go_ret
  exact ⟨rfl, Fr.drew w⟩

set_option maxHeartbeats 400000 in
theorem clamp5 (x : Int) (n : Nat) (w : World) (hn : n ≤ 1048576) : Calls Ybaf.prog 5 #[.int .i64 x, .int .i64 n] w fun e w' => (∃ p : Nat, p ≤ n ∧ e = .returned (.int .i64 p)) ∧ w' = w := by
  have e1 : IntKind.u64.wrap x = x % 18446744073709551616 := IntKind.wrap_u64 x
  have e2 : IntKind.u64.wrap ((n : Int) + 1) = (n : Int) + 1 := wraps_u64 _ (by omega) (by omega)
  obtain ⟨p, hp⟩ : ∃ p : Nat, (p : Int) = x % 18446744073709551616 % ((n : Int) + 1) := ⟨(x % 18446744073709551616 % ((n : Int) + 1)).toNat, by have := Int.emod_nonneg (x % 18446744073709551616) (show (n : Int) + 1 ≠ 0 by omega); omega⟩
  have hpn : p ≤ n := by have := Int.emod_lt_of_pos (x % 18446744073709551616) (show 0 < (n : Int) + 1 by omega); omega
  go_enter Ybaf.func5, Ybaf.ntmps5
  go_wp2
  go_ret
  refine ⟨⟨p, hpn, ?_⟩, rfl⟩
  rw [hp]
  rfl

set_option maxHeartbeats 400000 in
theorem new6 (t : ByteArray) (w : World) : Calls Ybaf.prog 6 #[.string t] w fun e w' => (∃ x, e = .returned (.iface 63 x)) ∧ Fr [] w w' := by
  go_enter Ybaf.func6, Ybaf.ntmps6
  go_wp2_with (refine wpList_box rfl 65 _ rfl (some 5) rfl _ _ rfl rfl ?_; intro g w1 e1 F1 rg z1)
  go_ret
  exact ⟨⟨_, rfl⟩, F1⟩
end Go.Proofs.YbulkdusoFmt
