import Derived.Test.YbulkdurmWalkE
namespace Go.Proofs.Ybulkdurm
open Go.RowKit Base Go.MuLone
open Go.Maps (Keyed)

theorem fa38_1 (g : Nat) (w : World) : (Instr.fieldAt 38 (.pointer (some ⟨g, 0, none⟩)) 1).run Yba.prog w = .ok (.pointer (some ⟨g, 2, none⟩)) w := by kernel_rfl
theorem fa38_2 (g : Nat) (w : World) : (Instr.fieldAt 38 (.pointer (some ⟨g, 0, none⟩)) 2).run Yba.prog w = .ok (.pointer (some ⟨g, 3, none⟩)) w := by kernel_rfl

theorem rfs_cell2 {w : World} {g : Nat} {s : Int} {m0 m1 : Option Nat} (r : w.heap[g]? = some (.cells (rfs s m0 m1) 38)) : w.cell? ⟨g, 2, none⟩ = some (.map m0) := by rw [cell_of_row w g 2 _ _ _ r]; rfl
theorem rfs_cell3 {w : World} {g : Nat} {s : Int} {m0 m1 : Option Nat} (r : w.heap[g]? = some (.cells (rfs s m0 m1) 38)) : w.cell? ⟨g, 3, none⟩ = some (.map m1) := by rw [cell_of_row w g 3 _ _ _ r]; rfl

/-- 'm[id] = size' behind 'r.now[id] = size' -/
theorem map_update_run {w w1 : World} {o : Oper} {a : Act} {t : TypeId} {m x y : Operand} {mv key v : Value} (ho : o.op = .mapUpdate t m x y) (hm : a.eval m = mv) (hx : a.eval x = key) (hy : a.eval y = v) (hrun : (Instr.mapUpdate t mv key v).run Yba.prog w = .ok () w1) :
    (execOp a.eval o).run Yba.prog w = .ok .skip w1 := by
  simp [execOp, ho, hm, hx, hy, hrun]

/-- what 'keep' leaves -/
def Kept (w w' : World) (g : Nat) (lk : Int) (m0 m1 : Option Nat) (n : Nat) (p : Nat → Bool) (v : Nat → Int) : Prop :=
  Fr (g :: m0.toList) w w' ∧ ∃ b, w'.heap[g]? = some (.cells (rfs lk (some b) m1) 38) ∧ MapIs w' b n p v ∧ (m0 = some b ∨ m0 = none ∧ w.heap.size ≤ b)

set_option maxHeartbeats 1000000 in
theorem keep_some (g b : Nat) (lk : Int) (m1 : Option Nat) (n k : Nat) (s : Int) (p : Nat → Bool) (v : Nat → Int) (w : World) (rg : w.heap[g]? = some (.cells (rfs lk (some b) m1) 38)) (M : MapIs w b n p v)
    (hk : k < 256) (hs : (Lit.int .i64 s).wf = true) (hn : n < maxLen) :
    Calls Yba.prog 13 #[.pointer (some ⟨g, 0, none⟩), .agg (idC k), .int .i64 s] w fun e w' => e = .returned (.tuple #[]) ∧ Kept w w' g lk (some b) m1 (n + 1) (upd p k true) (upd v k s) := by
  have heq := fun w => run_eql_map_nil (P := Yba.prog) w 24 48 2 (some b) Yba.underlying24
  go_enter Yba.func13, Yba.ntmps13
  go_wp2_with (first
    | (refine wpList_box rfl 48 _ rfl (some 4) rfl _ (idC k) rfl rfl ?_; intro b4 w1 e1 F1 r4 s1; replace rg := F1.get rg (by simp); replace M := M.keep F1 (by simp))
    | (refine wpList_load_cell rfl 24 _ rfl (some 9) rfl g 2 (.map (some b)) rfl 38 _ _ rg rfl _ Yba.underlying24 rfl ?_))
  refine any_begin (fun w' => w'.heap[g]? = some (.cells (rfs lk (some b) m1) 38) ∧ w'.heap[b4]? = some (.cells (idC k) 48)) (by kernel_rfl) ⟨rg, r4⟩ ?_
  refine any_take 0 rfl (some 15) rfl (by kernel_rfl) (by kernel_rfl) (by kernel_rfl) rfl (.pointer (some ⟨g, 0, none⟩)) (fun _ _ _ h => h) (fun _ _ => rfl) ⟨rg, r4⟩ ?_
  simp only [Act.put, List.setIfInBounds_toArray, List.set_cons_zero, List.set_cons_succ]
  refine any_take 1 rfl (some 16) rfl (by kernel_rfl) (by kernel_rfl) (by kernel_rfl) rfl (.pointer (some ⟨g, 0, none⟩)) (fun _ _ _ h => h) (fun _ _ => rfl) ⟨rg, r4⟩ ?_
  simp only [Act.put, List.setIfInBounds_toArray, List.set_cons_zero, List.set_cons_succ]
  refine any_take 2 rfl (some 17) rfl (by kernel_rfl) (by kernel_rfl) (by kernel_rfl) rfl (.pointer (some ⟨g, 2, none⟩)) (fun _ _ _ h => h) (fun _ _ => by kernel_rfl) ⟨rg, r4⟩ ?_
  simp only [Act.put, List.setIfInBounds_toArray, List.set_cons_zero, List.set_cons_succ]
  refine any_load_cell 3 rfl (some 18) rfl (by kernel_rfl) (by kernel_rfl) (by kernel_rfl) rfl (.map (some b)) (fun _ _ _ h => h) 24 (.tmp 17) rfl ⟨g, 2, none⟩ rfl (fun _ h => rfs_cell2 h.1) _ Yba.underlying24 rfl ⟨rg, r4⟩ ?_
  simp only [Act.put, List.setIfInBounds_toArray, List.set_cons_zero, List.set_cons_succ]
  refine any_load_arr 4 rfl (some 19) rfl (by kernel_rfl) (by kernel_rfl) (by kernel_rfl) rfl (idC k) (fun _ _ _ h => h) 48 (.tmp 4) rfl b4 rfl 48 (0, 0) (fun _ h => h.2) _ Yba.underlying48 rfl (by rw [size48, idC_size]) ⟨rg, r4⟩ ?_
  simp only [Act.put, List.setIfInBounds_toArray, List.set_cons_zero, List.set_cons_succ]
  refine any_take 5 rfl (some 20) rfl (by kernel_rfl) (by kernel_rfl) (by kernel_rfl) rfl (.int .i64 s) (fun _ _ _ h => h) (fun _ _ => rfl) ⟨rg, r4⟩ ?_
  simp only [Act.put, List.setIfInBounds_toArray, List.set_cons_zero, List.set_cons_succ]
  obtain ⟨w2, hrun, M2, F2, s2⟩ := (M.keep (Fr.drew w1) (by simp)).store hn hk hs
  have rg2 := F2.get rg (by simp [(M.ne_cells rg).symm])
  refine any_unit 6 rfl (by kernel_rfl) rfl w2 (map_update_run rfl rfl rfl rfl hrun) ⟨⟨rg2, F2.get r4 (by simp [(M.ne_cells r4).symm])⟩, ?_⟩
  refine any_done (by kernel_rfl) ?_
  go_wp2
  go_end0
  exact ⟨rfl, ((F1.mono (by simp)).trans0 (Fr.drew w1)).trans1 F2 (.inl (by simp)), b, rg2, M2, .inl rfl⟩

set_option maxHeartbeats 1000000 in
theorem keep_none (g : Nat) (lk : Int) (m1 : Option Nat) (k : Nat) (s : Int) (w : World) (rg : w.heap[g]? = some (.cells (rfs lk none m1) 38))
    (hk : k < 256) (hs : (Lit.int .i64 s).wf = true) :
    Calls Yba.prog 13 #[.pointer (some ⟨g, 0, none⟩), .agg (idC k), .int .i64 s] w fun e w' => e = .returned (.tuple #[]) ∧ Kept w w' g lk none m1 1 (upd (fun _ => false) k true) (upd (fun _ => 0) k s) := by
  have heq := fun w => run_eql_map_nil (P := Yba.prog) w 24 48 2 none Yba.underlying24
  go_enter Yba.func13, Yba.ntmps13
  go_wp2_with (first
    | (refine wpList_box rfl 48 _ rfl (some 4) rfl _ (idC k) rfl rfl ?_; intro b4 w1 e1 F1 r4 s1; replace rg := F1.get rg (by simp))
    | (refine wpList_load_cell rfl 24 _ rfl (some 9) rfl g 2 (.map none) rfl 38 _ _ rg rfl _ Yba.underlying24 rfl ?_)
    | (refine wpList_makeMap rfl 24 rfl (some 12) rfl ?_; intro b w2 e2 F2 rb s2; replace rg := F2.get rg (by simp); replace r4 := F2.get r4 (by simp))
    | (refine wpList_store_cell rfl 24 (.tmp 14) _ rfl g 2 (.map (some b)) rfl rfl rfl 38 _ rg (by simp [rfs]) size24 ?_; intro w3 F3 rg3 s3; rw [rfs_set2] at rg3))
  have M : MapIs w3 b 0 (fun _ => false) (fun _ => 0) := (MapIs.made rb).keep F3 (by simp [(MapIs.made rb).ne_cells rg])
  have l4 := lt_of_get r4
  have lg := lt_of_get rg
  have n4 : b4 ≠ g := by
    have := F1.size
    intro e
    subst e
    rw [rg] at r4
    simp at r4
  replace r4 := F3.get r4 (by simp [n4])
  refine any_begin (fun w' => w'.heap[g]? = some (.cells (rfs lk (some b) m1) 38) ∧ w'.heap[b4]? = some (.cells (idC k) 48)) (by kernel_rfl) ⟨rg3, r4⟩ ?_
  refine any_take 0 rfl (some 15) rfl (by kernel_rfl) (by kernel_rfl) (by kernel_rfl) rfl (.pointer (some ⟨g, 0, none⟩)) (fun _ _ _ h => h) (fun _ _ => rfl) ⟨rg3, r4⟩ ?_
  simp only [Act.put, List.setIfInBounds_toArray, List.set_cons_zero, List.set_cons_succ]
  refine any_take 1 rfl (some 16) rfl (by kernel_rfl) (by kernel_rfl) (by kernel_rfl) rfl (.pointer (some ⟨g, 0, none⟩)) (fun _ _ _ h => h) (fun _ _ => rfl) ⟨rg3, r4⟩ ?_
  simp only [Act.put, List.setIfInBounds_toArray, List.set_cons_zero, List.set_cons_succ]
  refine any_take 2 rfl (some 17) rfl (by kernel_rfl) (by kernel_rfl) (by kernel_rfl) rfl (.pointer (some ⟨g, 2, none⟩)) (fun _ _ _ h => h) (fun _ _ => by kernel_rfl) ⟨rg3, r4⟩ ?_
  simp only [Act.put, List.setIfInBounds_toArray, List.set_cons_zero, List.set_cons_succ]
  refine any_load_cell 3 rfl (some 18) rfl (by kernel_rfl) (by kernel_rfl) (by kernel_rfl) rfl (.map (some b)) (fun _ _ _ h => h) 24 (.tmp 17) rfl ⟨g, 2, none⟩ rfl (fun _ h => rfs_cell2 h.1) _ Yba.underlying24 rfl ⟨rg3, r4⟩ ?_
  simp only [Act.put, List.setIfInBounds_toArray, List.set_cons_zero, List.set_cons_succ]
  refine any_load_arr 4 rfl (some 19) rfl (by kernel_rfl) (by kernel_rfl) (by kernel_rfl) rfl (idC k) (fun _ _ _ h => h) 48 (.tmp 4) rfl b4 rfl 48 (0, 0) (fun _ h => h.2) _ Yba.underlying48 rfl (by rw [size48, idC_size]) ⟨rg3, r4⟩ ?_
  simp only [Act.put, List.setIfInBounds_toArray, List.set_cons_zero, List.set_cons_succ]
  refine any_take 5 rfl (some 20) rfl (by kernel_rfl) (by kernel_rfl) (by kernel_rfl) rfl (.int .i64 s) (fun _ _ _ h => h) (fun _ _ => rfl) ⟨rg3, r4⟩ ?_
  simp only [Act.put, List.setIfInBounds_toArray, List.set_cons_zero, List.set_cons_succ]
  obtain ⟨w4, hrun, M4, F4, s4⟩ := (M.keep (Fr.drew w3) (by simp)).store (by decide) hk hs
  have rg4 := F4.get rg3 (by simp [(M.ne_cells rg3).symm])
  refine any_unit 6 rfl (by kernel_rfl) rfl w4 (map_update_run rfl rfl rfl rfl hrun) ⟨⟨rg4, F4.get r4 (by simp [(M.ne_cells r4).symm])⟩, ?_⟩
  refine any_done (by kernel_rfl) ?_
  go_wp2
  go_end0
  have q1 := F1.size
  have q2 := e2.out
  have hb : w.heap.size ≤ b := by omega
  exact ⟨rfl, ((((F1.mono (by simp)).trans0 F2).trans1 F3 (.inl (by simp))).trans0 (Fr.drew w3)).trans1 F4 (.inr hb), b, rg4, M4, .inr ⟨rfl, hb⟩⟩

theorem keep_any (g : Nat) (lk : Int) (m0 m1 : Option Nat) (n k : Nat) (s : Int) (p : Nat → Bool) (v : Nat → Int) (w : World) (rg : w.heap[g]? = some (.cells (rfs lk m0 m1) 38)) (M : MV w m0 n p v) (hz : m0 = none → v = fun _ => 0)
    (hk : k < 256) (hs : (Lit.int .i64 s).wf = true) (hn : n < maxLen) :
    Calls Yba.prog 13 #[.pointer (some ⟨g, 0, none⟩), .agg (idC k), .int .i64 s] w fun e w' => e = .returned (.tuple #[]) ∧ Kept w w' g lk m0 m1 (n + 1) (upd p k true) (upd v k s) := by
  rcases M with ⟨rfl, h⟩ | ⟨b, rfl, h⟩
  · rw [hz rfl]
    refine (keep_none g lk m1 k s w rg hk hs).mono ?_
    rintro e w' ⟨rfl, F, b, r, M, hb⟩
    refine ⟨rfl, F, b, r, (M.congr fun j hj => ?_).mono (by omega), hb⟩
    simp only [upd]
    split
    · rfl
    · rw [h j hj]
  · exact keep_some g b lk m1 n k s p v w rg h hk hs hn
end Go.Proofs.Ybulkdurm
