import Derived.Test.YbulkdurmWalkB
import Derived.Test.YbulkdurmAny
namespace Go.Proofs.Ybulkdurm
open Go.RowKit Base
open Go.Maps (Keyed)

/-- what is known of the bytes, of the numbers of an argument -/
def Row8 (w : World) (a : Option Addr) (len : Nat) : Prop := len = 0 ∨ ∃ b o, a = some ⟨b, o, none⟩ ∧ ∀ j, j < len → ∃ k : Nat, k < 256 ∧ w.cell? ⟨b, o + j, none⟩ = some (.int .u8 k)
def Row64 (w : World) (a : Option Addr) (len : Nat) : Prop := len = 0 ∨ ∃ b o, a = some ⟨b, o, none⟩ ∧ ∀ j, j < len → ∃ s : Int, (Lit.int .i64 s).wf = true ∧ w.cell? ⟨b, o + j, none⟩ = some (.int .i64 s)

/-- the three results read -/
theorem results3 {fn : Func} {t p q : Tmp} {tp tq : TypeId} (h : fn.results = #[.tmp t, .cell p tp, .cell q tq]) {tmps : Array Value} {w : World} {bp bq : Nat} {cp cq : Array Value}
    (hp : tmps.getD p undef = .pointer (some ⟨bp, 0, none⟩)) (hq : tmps.getD q undef = .pointer (some ⟨bq, 0, none⟩))
    (lp : (loadVar tp ⟨bp, 0, none⟩).run Yba.prog w = .ok (.agg cp) w) (lq : (loadVar tq ⟨bq, 0, none⟩).run Yba.prog w = .ok (.agg cq) w) :
    (results fn tmps).run Yba.prog w = .ok (.tuple #[tmps.getD t undef, .agg cp, .agg cq]) w := by
  have hp' : tmps[p]?.getD undef = .pointer (some ⟨bp, 0, none⟩) := by simpa using hp
  have hq' : tmps[q]?.getD undef = .pointer (some ⟨bq, 0, none⟩) := by simpa using hq
  simp [results, h, hp', hq', asAddr, lp, lq]
theorem load25 {w : World} {b : Nat} {p : Nat → Bool} (r : w.heap[b]? = some (.cells (bA p) 25)) : (loadVar 25 ⟨b, 0, none⟩).run Yba.prog w = .ok (.agg (bA p)) w :=
  run_loadVar_row w b 25 25 _ (0, 0) _ r Yba.underlying25 rfl (by rw [size25, bA_size])
theorem load26 {w : World} {b : Nat} {v : Nat → Int} (r : w.heap[b]? = some (.cells (iA v) 26)) : (loadVar 26 ⟨b, 0, none⟩).run Yba.prog w = .ok (.agg (iA v)) w :=
  run_loadVar_row w b 26 26 _ (0, 0) _ r Yba.underlying26 rfl (by rw [size26, iA_size])

set_option maxHeartbeats 400000 in
set_option maxRecDepth 100000 in
theorem build_nil (a0 a1 : Option Addr) (l0 c0 l1 c1 : Nat) (w : World) :
    Calls Yba.prog 5 #[.slice a0 l0 c0, .slice a1 l1 c1, .bool true] w fun e w' => e = .returned (.tuple #[.map none, .agg (bA fun _ => false), .agg (iA fun _ => 0)]) ∧ Fr [] w w' := by
  go_enter Yba.func5, Yba.ntmps5
  go_wp2_with (first
    | (refine wpList_alloc rfl 25 rfl (some 7) rfl _ (bA fun _ => false) (zero25 _) rfl ?_; intro b7 w1 e1 F1 r7 s1)
    | (refine wpList_alloc rfl 26 rfl (some 8) rfl _ (iA fun _ => 0) (zero26 _) rfl ?_; intro b8 w2 e2 F2 r8 s2; replace r7 := F2.get r7 (by simp))
    | (refine wpList_alloc rfl 25 rfl (some 9) rfl _ (bA fun _ => false) (zero25 _) rfl ?_; intro b9 w3 e3 F3 r9 s3; replace r7 := F3.get r7 (by simp); replace r8 := F3.get r8 (by simp))
    | (refine wpList_alloc rfl 26 rfl (some 10) rfl _ (iA fun _ => 0) (zero26 _) rfl ?_; intro b10 w4 e4 F4 r10 s4; replace r7 := F4.get r7 (by simp); replace r8 := F4.get r8 (by simp); replace r9 := F4.get r9 (by simp)))
  have q1 := e1.out
  have q2 := e2.out
  have q3 := e3.out
  have q4 := e4.out
  have q5 := s1.out
  have q6 := s2.out
  have q7 := s3.out
  have n78 : b7 ≠ b8 := by omega
  have n79 : b9 ≠ b7 := by omega
  have n7a : b10 ≠ b7 := by omega
  have n89 : b9 ≠ b8 := by omega
  have n8a : b10 ≠ b8 := by omega
  have g7 : w.heap.size ≤ b7 := by omega
  have g8 : w.heap.size ≤ b8 := by omega
  have G : Fr [] w w4 := ((F1.trans0 F2).trans0 F3).trans0 F4
  clear q1 q2 q3 q4 q5 q6 q7 e1 e2 e3 e4 s1 s2 s3 s4 F1 F2 F3 F4
  refine any_begin (fun w' => w'.heap[b9]? = some (.cells (bA fun _ => false) 25) ∧ w'.heap[b10]? = some (.cells (iA fun _ => 0) 26)) (by kernel_rfl) ⟨r9, r10⟩ ?_
  refine any_load_arr 0 rfl (some 16) rfl (by kernel_rfl) (by kernel_rfl) (by kernel_rfl) rfl (bA fun _ => false) (fun _ _ _ h => h) 25 (.tmp 9) rfl b9 rfl 25 (0, 0) (fun _ h => h.1) _ Yba.underlying25 rfl (by rw [size25, bA_size]) ⟨r9, r10⟩ ?_
  simp only [Act.put, List.setIfInBounds_toArray, List.set_cons_zero, List.set_cons_succ]
  refine any_load_arr 1 rfl (some 17) rfl (by kernel_rfl) (by kernel_rfl) (by kernel_rfl) rfl (iA fun _ => 0) (fun _ _ _ h => h) 26 (.tmp 10) rfl b10 rfl 26 (0, 0) (fun _ h => h.2) _ Yba.underlying26 rfl (by rw [size26, iA_size]) ⟨r9, r10⟩ ?_
  simp only [Act.put, List.setIfInBounds_toArray, List.set_cons_zero, List.set_cons_succ]
  refine any_take 2 rfl (some 6) rfl (by kernel_rfl) (by kernel_rfl) (by kernel_rfl) rfl (.map none) (fun _ _ _ h => h) (fun _ _ => rfl) ⟨r9, r10⟩ ?_
  simp only [Act.put, List.setIfInBounds_toArray, List.set_cons_zero, List.set_cons_succ]
  refine any_store_arr 3 rfl (by kernel_rfl) rfl 25 (.tmp 7) (.tmp 16) rfl b7 (bA fun _ => false) rfl rfl 25 _ r7 (by rw [size25, bA_size]) (by rw [bA_size]) (bA_one _) ?_
  intro w5 F5 r7' s5
  refine ⟨⟨F5.get r9 (by simp [n79]), F5.get r10 (by simp [n7a])⟩, ?_⟩
  replace r8 := F5.get r8 (by simp [n78.symm])
  refine any_store_arr 4 rfl (by kernel_rfl) rfl 26 (.tmp 8) (.tmp 17) rfl b8 (iA fun _ => 0) rfl rfl 26 _ r8 (by rw [size26, iA_size]) (by rw [iA_size]) (iA_one _) ?_
  intro w6 F6 r8' s6
  refine ⟨⟨F6.get (F5.get r9 (by simp [n79])) (by simp [n89]), F6.get (F5.get r10 (by simp [n7a])) (by simp [n8a])⟩, ?_⟩
  refine any_done (by kernel_rfl) ?_
  go_wp2
  replace r7' := F6.get r7' (by simp [n78])
  refine bodyPost_ret (results3 rfl rfl rfl (load25 r7') (load26 r8')) rfl ⟨rfl, ?_⟩
  exact ((G.trans0 (Fr.drew w4)).trans1 F5 (.inr g7)).trans1 F6 (.inr g8)
end Go.Proofs.Ybulkdurm
