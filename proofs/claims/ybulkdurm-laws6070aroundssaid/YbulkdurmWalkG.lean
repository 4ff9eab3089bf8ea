import Derived.Test.YbulkdurmWalkF
namespace Go.Proofs.Ybulkdurm
open Go.RowKit Base Go.MuLone
open Go.Maps (Keyed)

theorem ne_rows {w : World} {b g : Nat} {k lk : Int} {m0 m1 : Option Nat} (h : w.heap[b]? = some (.cells (idC k) 48)) (h' : w.heap[g]? = some (.cells (rfs lk m0 m1) 38)) : b ≠ g := by
  intro e
  subst e
  rw [h'] at h
  simp at h

/-- the lock given back behind 'keep' -/
theorem Kept.unlock {w w1 w2 w3 : World} {g : Nat} {m0 m1 : Option Nat} {n : Nat} {p : Nat → Bool} {v : Nat → Int} (F1 : Fr [] w w1) (F2 : Fr [g] w1 w2) (h : Kept w2 w3 g 1 m0 m1 n p v) :
    Kept w (w3.setCell ⟨g, 0, none⟩ (.int .i32 0)) g 0 m0 m1 n p v := by
  obtain ⟨F3, b, r3, M, hb⟩ := h
  have F4 := Fr.setCell w3 ⟨g, 0, none⟩ (.int .i32 0)
  have hF : Fr (g :: m0.toList) w w3 := ((F1.mono (by simp)).trans1 F2 (.inl (by simp))).trans F3 (fun x hx => .inl hx)
  refine ⟨hF.trans1 F4 (.inl (by simp)), b, heap_setCell_same _ g 0 _ _ _ r3, M.keep F4 (by simp [M.ne_cells r3]), hb.imp id (fun ⟨h1, h2⟩ => ⟨h1, ?_⟩)⟩
  have := F1.size
  have := F2.size
  omega

set_option maxHeartbeats 1000000 in
theorem add_any (g : Nat) (m0 m1 : Option Nat) (n k : Nat) (s : Int) (p : Nat → Bool) (v : Nat → Int) (w : World) (rg : w.heap[g]? = some (.cells (rfs 0 m0 m1) 38)) (M : MV w m0 n p v) (hz : Hid (m0 = none → v = fun _ => 0))
    (hk : k < 256) (hs : (Lit.int .i64 s).wf = true) (hn : n < maxLen) :
    Calls Yba.prog 8 #[.pointer (some ⟨g, 0, none⟩), .agg (idC k), .int .i64 s] w fun e w' => e = .returned (.tuple #[]) ∧ Kept w w' g 0 m0 m1 (n + 1) (upd p k true) (upd v k s) := by
  go_enter_defers Yba.func8, Yba.ntmps8
  go_wp2_with (first
    | (refine wpList_box rfl 48 _ rfl (some 4) rfl _ (idC k) rfl rfl ?_; intro b4 w1 e1 F1 r4 s1; replace rg := F1.get rg (by simp))
    | (go_at_call 11; refine (lock_free Yba.muLib ⟨g, 0, none⟩ _ (rfs_lock rg) (rfs_free rg)).mono ?_; rintro e w2 ⟨rfl, hw2⟩; have rg2 : w2.heap[g]? = some (.cells (rfs 1 m0 m1) 38) := (by rw [hw2]; exact heap_setCell_same _ g 0 _ _ _ rg); have F2 : Fr [g] w1 w2 := (by rw [hw2]; exact Fr.setCell w1 ⟨g, 0, none⟩ _); have s2 : Hid (w2.heap.size = w1.heap.size) := (by rw [hw2]; exact World.size_setCell _ _ _); have n4 : b4 ≠ g := ne_rows r4 rg; replace r4 := F2.get r4 (by simp [n4]); clear hw2)
    | (refine wpList_load_arr rfl 48 _ rfl (some 14) rfl b4 rfl 48 (idC k) _ r4 _ Yba.underlying48 rfl (by rw [size48, idC_size]) ?_)
    | (go_at_call 13; refine (keep_any g 1 m0 m1 n k s p v _ rg2 ((M.keep0 F1).keep F2 ((M.keep0 F1).ne rg)) hz.out hk hs hn).mono ?_; rintro e w3 ⟨rfl, K3⟩))
  obtain ⟨F3, b, r3, M3, hb⟩ := id K3
  refine leaves_cons (f := 12) (args := #[.pointer (some ⟨g, 0, none⟩)]) (by simp) (by simp [go_sem]) ?_
  refine (unlock_deferred Yba.muLib ⟨g, 0, none⟩ .returning _ (rfs_lock r3) (rfs_free r3)).mono ?_
  rintro e u' w4 ⟨rfl, rfl, hw4⟩
  refine ⟨_, results_none rfl _ _ _, rfl, ?_⟩
  rw [hw4]
  exact K3.unlock F1 F2

theorem lookup_run {w : World} {o : Oper} {a : Act} {t : TypeId} {m x : Operand} {mv key v : Value} (ho : o.op = .lookup t m x true) (hm : a.eval m = mv) (hx : a.eval x = key) (hrun : (Instr.lookup t mv key true).run Yba.prog w = .ok v w) :
    (execOp a.eval o).run Yba.prog w = .ok (.value v) w := by
  simp [execOp, ho, hm, hx, hrun]

set_option maxHeartbeats 1000000 in
theorem size_now (g : Nat) (m0 m1 : Option Nat) (n0 n1 k : Nat) (p0 p1 : Nat → Bool) (v0 v1 : Nat → Int) (w : World) (rg : w.heap[g]? = some (.cells (rfs 0 m0 m1) 38)) (M0 : MV w m0 n0 p0 v0) (M1 : MV w m1 n1 p1 v1)
    (hk : k < 256) (hp : p0 k = true) :
    Calls Yba.prog 10 #[.pointer (some ⟨g, 0, none⟩), .agg (idC k)] w fun e w' => e = .returned (.tuple #[.int .i64 (v0 k), .bool true]) ∧ Fr [g] w w' ∧ w'.heap[g]? = some (.cells (rfs 0 m0 m1) 38) := by
  go_enter_defers Yba.func10, Yba.ntmps10
  go_wp2_with (first
    | (refine wpList_box rfl 48 _ rfl (some 3) rfl _ (idC k) rfl rfl ?_; intro b4 w1 e1 F1 r4 s1; replace rg := F1.get rg (by simp))
    | (go_at_call 11; refine (lock_free Yba.muLib ⟨g, 0, none⟩ _ (rfs_lock rg) (rfs_free rg)).mono ?_; rintro e w2 ⟨rfl, hw2⟩; have rg2 : w2.heap[g]? = some (.cells (rfs 1 m0 m1) 38) := (by rw [hw2]; exact heap_setCell_same _ g 0 _ _ _ rg); have F2 : Fr [g] w1 w2 := (by rw [hw2]; exact Fr.setCell w1 ⟨g, 0, none⟩ _); have s2 : Hid (w2.heap.size = w1.heap.size) := (by rw [hw2]; exact World.size_setCell _ _ _); have n4 : b4 ≠ g := ne_rows r4 rg; replace r4 := F2.get r4 (by simp [n4]); clear hw2))
  have Ma : MV w2 m0 n0 p0 v0 := (M0.keep0 F1).keep F2 ((M0.keep0 F1).ne rg)
  have Mb : MV w2 m1 n1 p1 v1 := (M1.keep0 F1).keep F2 ((M1.keep0 F1).ne rg)
  refine wp_region_noPanic ?_
  refine any_begin (fun w' => w'.heap[g]? = some (.cells (rfs 1 m0 m1) 38) ∧ w'.heap[b4]? = some (.cells (idC k) 48) ∧ MV w' m0 n0 p0 v0) (by kernel_rfl) ⟨rg2, r4, Ma⟩ ?_
  refine any_take 0 rfl (some 18) rfl (by kernel_rfl) (by kernel_rfl) (by kernel_rfl) rfl (.pointer (some ⟨g, 0, none⟩)) (fun _ _ _ h => h) (fun _ _ => rfl) ⟨rg2, r4, Ma⟩ ?_
  simp only [Act.put, List.setIfInBounds_toArray, List.set_cons_zero, List.set_cons_succ]
  refine any_take 1 rfl (some 19) rfl (by kernel_rfl) (by kernel_rfl) (by kernel_rfl) rfl (.pointer (some ⟨g, 0, none⟩)) (fun _ _ _ h => h) (fun _ _ => rfl) ⟨rg2, r4, Ma⟩ ?_
  simp only [Act.put, List.setIfInBounds_toArray, List.set_cons_zero, List.set_cons_succ]
  refine any_take 2 rfl (some 20) rfl (by kernel_rfl) (by kernel_rfl) (by kernel_rfl) rfl (.pointer (some ⟨g, 2, none⟩)) (fun _ _ _ h => h) (fun _ _ => by kernel_rfl) ⟨rg2, r4, Ma⟩ ?_
  simp only [Act.put, List.setIfInBounds_toArray, List.set_cons_zero, List.set_cons_succ]
  refine any_load_cell 3 rfl (some 21) rfl (by kernel_rfl) (by kernel_rfl) (by kernel_rfl) rfl (.map m0) (fun _ _ _ h => h) 24 (.tmp 20) rfl ⟨g, 2, none⟩ rfl (fun _ h => rfs_cell2 h.1) _ Yba.underlying24 rfl ⟨rg2, r4, Ma⟩ ?_
  simp only [Act.put, List.setIfInBounds_toArray, List.set_cons_zero, List.set_cons_succ]
  refine any_load_arr 4 rfl (some 22) rfl (by kernel_rfl) (by kernel_rfl) (by kernel_rfl) rfl (idC k) (fun _ _ _ h => h) 48 (.tmp 3) rfl b4 rfl 48 (0, 0) (fun _ h => h.2.1) _ Yba.underlying48 rfl (by rw [size48, idC_size]) ⟨rg2, r4, Ma⟩ ?_
  simp only [Act.put, List.setIfInBounds_toArray, List.set_cons_zero, List.set_cons_succ]
  refine any_take 5 rfl (some 23) rfl (by kernel_rfl) (by kernel_rfl) (by kernel_rfl) rfl (.tuple #[(.int .i64 (v0 k)), .bool true]) (fun _ _ _ h => h) (fun w h => lookup_run (mv := .map m0) (key := .agg (idC k)) rfl rfl rfl (by rw [h.2.2.look hk, hp]; rfl)) ⟨rg2, r4, Ma⟩ ?_
  simp only [Act.put, List.setIfInBounds_toArray, List.set_cons_zero, List.set_cons_succ]
  refine any_take 6 rfl (some 17) rfl (by kernel_rfl) (by kernel_rfl) (by kernel_rfl) rfl (.tuple #[(.int .i64 (v0 k)), .bool true]) (fun _ _ _ h => h) (fun _ _ => rfl) ⟨rg2, r4, Ma⟩ ?_
  simp only [Act.put, List.setIfInBounds_toArray, List.set_cons_zero, List.set_cons_succ]
  refine any_take 7 rfl (some 24) rfl (by kernel_rfl) (by kernel_rfl) (by kernel_rfl) rfl (.int .i64 (v0 k)) (fun _ _ _ h => h) (fun _ _ => by rfl) ⟨rg2, r4, Ma⟩ ?_
  simp only [Act.put, List.setIfInBounds_toArray, List.set_cons_zero, List.set_cons_succ]
  refine any_take 8 rfl (some 25) rfl (by kernel_rfl) (by kernel_rfl) (by kernel_rfl) rfl (.bool true) (fun _ _ _ h => h) (fun _ _ => by rfl) ⟨rg2, r4, Ma⟩ ?_
  simp only [Act.put, List.setIfInBounds_toArray, List.set_cons_zero, List.set_cons_succ]
  refine any_take 9 rfl (some 6) rfl (by kernel_rfl) (by kernel_rfl) (by kernel_rfl) rfl (.int .i64 (v0 k)) (fun _ _ _ h => h) (fun _ _ => rfl) ⟨rg2, r4, Ma⟩ ?_
  simp only [Act.put, List.setIfInBounds_toArray, List.set_cons_zero, List.set_cons_succ]
  refine any_take 10 rfl (some 7) rfl (by kernel_rfl) (by kernel_rfl) (by kernel_rfl) rfl (.bool true) (fun _ _ _ h => h) (fun _ _ => rfl) ⟨rg2, r4, Ma⟩ ?_
  simp only [Act.put, List.setIfInBounds_toArray, List.set_cons_zero, List.set_cons_succ]
  refine any_done (by kernel_rfl) ?_
  refine NoPanic.normal ?_
  go_wp2
  have rgD : w2.drew.heap[g]? = some (.cells (rfs 1 m0 m1) 38) := rg2
  refine leaves_cons (f := 12) (args := #[.pointer (some ⟨g, 0, none⟩)]) (by simp) (by simp [go_sem]) ?_
  refine (unlock_deferred Yba.muLib ⟨g, 0, none⟩ .returning _ (rfs_lock rgD) (rfs_free rgD)).mono ?_
  rintro e u' w4 ⟨rfl, rfl, hw4⟩
  refine ⟨_, results_tmp2 rfl _ _ _, rfl, ?_⟩
  rw [hw4]
  exact ⟨((F1.mono (by simp)).trans1 F2 (.inl (by simp))).trans1 ((Fr.drew w2).mono (T := [g]) (by simp) |>.trans1 (Fr.setCell w2.drew ⟨g, 0, none⟩ (.int .i32 0)) (.inl (by simp))) (.inl (by simp)), heap_setCell_same _ g 0 _ _ _ rgD⟩

set_option maxHeartbeats 1000000 in
theorem size_not (g : Nat) (m0 m1 : Option Nat) (n0 n1 k : Nat) (p0 p1 : Nat → Bool) (v0 v1 : Nat → Int) (w : World) (rg : w.heap[g]? = some (.cells (rfs 0 m0 m1) 38)) (M0 : MV w m0 n0 p0 v0) (M1 : MV w m1 n1 p1 v1)
    (hk : k < 256) (hp : p0 k = false) (hq : p1 k = false) :
    Calls Yba.prog 10 #[.pointer (some ⟨g, 0, none⟩), .agg (idC k)] w fun e w' => e = .returned (.tuple #[.int .i64 0, .bool false]) ∧ Fr [g] w w' ∧ w'.heap[g]? = some (.cells (rfs 0 m0 m1) 38) := by
  go_enter_defers Yba.func10, Yba.ntmps10
  go_wp2_with (first
    | (refine wpList_box rfl 48 _ rfl (some 3) rfl _ (idC k) rfl rfl ?_; intro b4 w1 e1 F1 r4 s1; replace rg := F1.get rg (by simp))
    | (go_at_call 11; refine (lock_free Yba.muLib ⟨g, 0, none⟩ _ (rfs_lock rg) (rfs_free rg)).mono ?_; rintro e w2 ⟨rfl, hw2⟩; have rg2 : w2.heap[g]? = some (.cells (rfs 1 m0 m1) 38) := (by rw [hw2]; exact heap_setCell_same _ g 0 _ _ _ rg); have F2 : Fr [g] w1 w2 := (by rw [hw2]; exact Fr.setCell w1 ⟨g, 0, none⟩ _); have s2 : Hid (w2.heap.size = w1.heap.size) := (by rw [hw2]; exact World.size_setCell _ _ _); have n4 : b4 ≠ g := ne_rows r4 rg; replace r4 := F2.get r4 (by simp [n4]); clear hw2))
  have Ma : MV w2 m0 n0 p0 v0 := (M0.keep0 F1).keep F2 ((M0.keep0 F1).ne rg)
  have Mb : MV w2 m1 n1 p1 v1 := (M1.keep0 F1).keep F2 ((M1.keep0 F1).ne rg)
  refine wp_region_noPanic ?_
  refine any_begin (fun w' => w'.heap[g]? = some (.cells (rfs 1 m0 m1) 38) ∧ w'.heap[b4]? = some (.cells (idC k) 48) ∧ MV w' m0 n0 p0 v0) (by kernel_rfl) ⟨rg2, r4, Ma⟩ ?_
  refine any_take 0 rfl (some 18) rfl (by kernel_rfl) (by kernel_rfl) (by kernel_rfl) rfl (.pointer (some ⟨g, 0, none⟩)) (fun _ _ _ h => h) (fun _ _ => rfl) ⟨rg2, r4, Ma⟩ ?_
  simp only [Act.put, List.setIfInBounds_toArray, List.set_cons_zero, List.set_cons_succ]
  refine any_take 1 rfl (some 19) rfl (by kernel_rfl) (by kernel_rfl) (by kernel_rfl) rfl (.pointer (some ⟨g, 0, none⟩)) (fun _ _ _ h => h) (fun _ _ => rfl) ⟨rg2, r4, Ma⟩ ?_
  simp only [Act.put, List.setIfInBounds_toArray, List.set_cons_zero, List.set_cons_succ]
  refine any_take 2 rfl (some 20) rfl (by kernel_rfl) (by kernel_rfl) (by kernel_rfl) rfl (.pointer (some ⟨g, 2, none⟩)) (fun _ _ _ h => h) (fun _ _ => by kernel_rfl) ⟨rg2, r4, Ma⟩ ?_
  simp only [Act.put, List.setIfInBounds_toArray, List.set_cons_zero, List.set_cons_succ]
  refine any_load_cell 3 rfl (some 21) rfl (by kernel_rfl) (by kernel_rfl) (by kernel_rfl) rfl (.map m0) (fun _ _ _ h => h) 24 (.tmp 20) rfl ⟨g, 2, none⟩ rfl (fun _ h => rfs_cell2 h.1) _ Yba.underlying24 rfl ⟨rg2, r4, Ma⟩ ?_
  simp only [Act.put, List.setIfInBounds_toArray, List.set_cons_zero, List.set_cons_succ]
  refine any_load_arr 4 rfl (some 22) rfl (by kernel_rfl) (by kernel_rfl) (by kernel_rfl) rfl (idC k) (fun _ _ _ h => h) 48 (.tmp 3) rfl b4 rfl 48 (0, 0) (fun _ h => h.2.1) _ Yba.underlying48 rfl (by rw [size48, idC_size]) ⟨rg2, r4, Ma⟩ ?_
  simp only [Act.put, List.setIfInBounds_toArray, List.set_cons_zero, List.set_cons_succ]
  refine any_take 5 rfl (some 23) rfl (by kernel_rfl) (by kernel_rfl) (by kernel_rfl) rfl (.tuple #[(.int .i64 0), .bool false]) (fun _ _ _ h => h) (fun w h => lookup_run (mv := .map m0) (key := .agg (idC k)) rfl rfl rfl (by rw [h.2.2.look hk, hp]; rfl)) ⟨rg2, r4, Ma⟩ ?_
  simp only [Act.put, List.setIfInBounds_toArray, List.set_cons_zero, List.set_cons_succ]
  refine any_take 6 rfl (some 17) rfl (by kernel_rfl) (by kernel_rfl) (by kernel_rfl) rfl (.tuple #[(.int .i64 0), .bool false]) (fun _ _ _ h => h) (fun _ _ => rfl) ⟨rg2, r4, Ma⟩ ?_
  simp only [Act.put, List.setIfInBounds_toArray, List.set_cons_zero, List.set_cons_succ]
  refine any_take 7 rfl (some 24) rfl (by kernel_rfl) (by kernel_rfl) (by kernel_rfl) rfl (.int .i64 0) (fun _ _ _ h => h) (fun _ _ => by rfl) ⟨rg2, r4, Ma⟩ ?_
  simp only [Act.put, List.setIfInBounds_toArray, List.set_cons_zero, List.set_cons_succ]
  refine any_take 8 rfl (some 25) rfl (by kernel_rfl) (by kernel_rfl) (by kernel_rfl) rfl (.bool false) (fun _ _ _ h => h) (fun _ _ => by rfl) ⟨rg2, r4, Ma⟩ ?_
  simp only [Act.put, List.setIfInBounds_toArray, List.set_cons_zero, List.set_cons_succ]
  refine any_take 9 rfl (some 6) rfl (by kernel_rfl) (by kernel_rfl) (by kernel_rfl) rfl (.int .i64 0) (fun _ _ _ h => h) (fun _ _ => rfl) ⟨rg2, r4, Ma⟩ ?_
  simp only [Act.put, List.setIfInBounds_toArray, List.set_cons_zero, List.set_cons_succ]
  refine any_take 10 rfl (some 7) rfl (by kernel_rfl) (by kernel_rfl) (by kernel_rfl) rfl (.bool false) (fun _ _ _ h => h) (fun _ _ => rfl) ⟨rg2, r4, Ma⟩ ?_
  simp only [Act.put, List.setIfInBounds_toArray, List.set_cons_zero, List.set_cons_succ]
  refine any_done (by kernel_rfl) ?_
  refine NoPanic.normal ?_
  go_wp2
  refine wp_region_noPanic ?_
  refine any_begin (fun w' => w'.heap[g]? = some (.cells (rfs 1 m0 m1) 38) ∧ w'.heap[b4]? = some (.cells (idC k) 48) ∧ MV w' m1 n1 p1 v1) (by kernel_rfl) ⟨rg2, r4, Mb⟩ ?_
  refine any_take 0 rfl (some 29) rfl (by kernel_rfl) (by kernel_rfl) (by kernel_rfl) rfl (.pointer (some ⟨g, 0, none⟩)) (fun _ _ _ h => h) (fun _ _ => rfl) ⟨rg2, r4, Mb⟩ ?_
  simp only [Act.put, List.setIfInBounds_toArray, List.set_cons_zero, List.set_cons_succ]
  refine any_take 1 rfl (some 30) rfl (by kernel_rfl) (by kernel_rfl) (by kernel_rfl) rfl (.pointer (some ⟨g, 0, none⟩)) (fun _ _ _ h => h) (fun _ _ => rfl) ⟨rg2, r4, Mb⟩ ?_
  simp only [Act.put, List.setIfInBounds_toArray, List.set_cons_zero, List.set_cons_succ]
  refine any_take 2 rfl (some 31) rfl (by kernel_rfl) (by kernel_rfl) (by kernel_rfl) rfl (.pointer (some ⟨g, 3, none⟩)) (fun _ _ _ h => h) (fun _ _ => by kernel_rfl) ⟨rg2, r4, Mb⟩ ?_
  simp only [Act.put, List.setIfInBounds_toArray, List.set_cons_zero, List.set_cons_succ]
  refine any_load_cell 3 rfl (some 32) rfl (by kernel_rfl) (by kernel_rfl) (by kernel_rfl) rfl (.map m1) (fun _ _ _ h => h) 24 (.tmp 31) rfl ⟨g, 3, none⟩ rfl (fun _ h => rfs_cell3 h.1) _ Yba.underlying24 rfl ⟨rg2, r4, Mb⟩ ?_
  simp only [Act.put, List.setIfInBounds_toArray, List.set_cons_zero, List.set_cons_succ]
  refine any_load_arr 4 rfl (some 33) rfl (by kernel_rfl) (by kernel_rfl) (by kernel_rfl) rfl (idC k) (fun _ _ _ h => h) 48 (.tmp 3) rfl b4 rfl 48 (0, 0) (fun _ h => h.2.1) _ Yba.underlying48 rfl (by rw [size48, idC_size]) ⟨rg2, r4, Mb⟩ ?_
  simp only [Act.put, List.setIfInBounds_toArray, List.set_cons_zero, List.set_cons_succ]
  refine any_take 5 rfl (some 34) rfl (by kernel_rfl) (by kernel_rfl) (by kernel_rfl) rfl (.tuple #[(.int .i64 0), .bool false]) (fun _ _ _ h => h) (fun w h => lookup_run (mv := .map m1) (key := .agg (idC k)) rfl rfl rfl (by rw [h.2.2.look hk, hq]; rfl)) ⟨rg2, r4, Mb⟩ ?_
  simp only [Act.put, List.setIfInBounds_toArray, List.set_cons_zero, List.set_cons_succ]
  refine any_take 6 rfl (some 28) rfl (by kernel_rfl) (by kernel_rfl) (by kernel_rfl) rfl (.tuple #[(.int .i64 0), .bool false]) (fun _ _ _ h => h) (fun _ _ => rfl) ⟨rg2, r4, Mb⟩ ?_
  simp only [Act.put, List.setIfInBounds_toArray, List.set_cons_zero, List.set_cons_succ]
  refine any_take 7 rfl (some 35) rfl (by kernel_rfl) (by kernel_rfl) (by kernel_rfl) rfl (.int .i64 0) (fun _ _ _ h => h) (fun _ _ => by rfl) ⟨rg2, r4, Mb⟩ ?_
  simp only [Act.put, List.setIfInBounds_toArray, List.set_cons_zero, List.set_cons_succ]
  refine any_take 8 rfl (some 36) rfl (by kernel_rfl) (by kernel_rfl) (by kernel_rfl) rfl (.bool false) (fun _ _ _ h => h) (fun _ _ => by rfl) ⟨rg2, r4, Mb⟩ ?_
  simp only [Act.put, List.setIfInBounds_toArray, List.set_cons_zero, List.set_cons_succ]
  refine any_take 9 rfl (some 8) rfl (by kernel_rfl) (by kernel_rfl) (by kernel_rfl) rfl (.int .i64 0) (fun _ _ _ h => h) (fun _ _ => rfl) ⟨rg2, r4, Mb⟩ ?_
  simp only [Act.put, List.setIfInBounds_toArray, List.set_cons_zero, List.set_cons_succ]
  refine any_take 10 rfl (some 9) rfl (by kernel_rfl) (by kernel_rfl) (by kernel_rfl) rfl (.bool false) (fun _ _ _ h => h) (fun _ _ => rfl) ⟨rg2, r4, Mb⟩ ?_
  simp only [Act.put, List.setIfInBounds_toArray, List.set_cons_zero, List.set_cons_succ]
  refine any_done (by kernel_rfl) ?_
  refine NoPanic.normal ?_
  go_wp2
  have rgD : w2.drew.drew.heap[g]? = some (.cells (rfs 1 m0 m1) 38) := rg2
  refine leaves_cons (f := 12) (args := #[.pointer (some ⟨g, 0, none⟩)]) (by simp) (by simp [go_sem]) ?_
  refine (unlock_deferred Yba.muLib ⟨g, 0, none⟩ .returning _ (rfs_lock rgD) (rfs_free rgD)).mono ?_
  rintro e u' w4 ⟨rfl, rfl, hw4⟩
  refine ⟨_, results_tmp2 rfl _ _ _, rfl, ?_⟩
  rw [hw4]
  have Fd : Fr [g] w2 (w2.drew.drew.setCell ⟨g, 0, none⟩ (.int .i32 0)) := ((Fr.refl [g] w2).trans0 (Fr.drew w2)).trans0 (Fr.drew w2.drew) |>.trans1 (Fr.setCell w2.drew.drew ⟨g, 0, none⟩ (.int .i32 0)) (.inl (by simp))
  exact ⟨((F1.mono (by simp)).trans1 F2 (.inl (by simp))).trans1 Fd (.inl (by simp)), heap_setCell_same _ g 0 _ _ _ rgD⟩

set_option maxHeartbeats 1000000 in
theorem size_bef (g : Nat) (m0 m1 : Option Nat) (n0 n1 k : Nat) (p0 p1 : Nat → Bool) (v0 v1 : Nat → Int) (w : World) (rg : w.heap[g]? = some (.cells (rfs 0 m0 m1) 38)) (M0 : MV w m0 n0 p0 v0) (M1 : MV w m1 n1 p1 v1)
    (hk : k < 256) (hz : Hid (m0 = none → v0 = fun _ => 0)) (hn : n0 < maxLen) (hp : p0 k = false) (hq : p1 k = true) (hs : (Lit.int .i64 (v1 k)).wf = true) :
    Calls Yba.prog 10 #[.pointer (some ⟨g, 0, none⟩), .agg (idC k)] w fun e w' => e = .returned (.tuple #[.int .i64 (v1 k), .bool true]) ∧ Kept w w' g 0 m0 m1 (n0 + 1) (upd p0 k true) (upd v0 k (v1 k)) := by
  go_enter_defers Yba.func10, Yba.ntmps10
  go_wp2_with (first
    | (refine wpList_box rfl 48 _ rfl (some 3) rfl _ (idC k) rfl rfl ?_; intro b4 w1 e1 F1 r4 s1; replace rg := F1.get rg (by simp))
    | (go_at_call 11; refine (lock_free Yba.muLib ⟨g, 0, none⟩ _ (rfs_lock rg) (rfs_free rg)).mono ?_; rintro e w2 ⟨rfl, hw2⟩; have rg2 : w2.heap[g]? = some (.cells (rfs 1 m0 m1) 38) := (by rw [hw2]; exact heap_setCell_same _ g 0 _ _ _ rg); have F2 : Fr [g] w1 w2 := (by rw [hw2]; exact Fr.setCell w1 ⟨g, 0, none⟩ _); have s2 : Hid (w2.heap.size = w1.heap.size) := (by rw [hw2]; exact World.size_setCell _ _ _); have n4 : b4 ≠ g := ne_rows r4 rg; replace r4 := F2.get r4 (by simp [n4]); clear hw2))
  have Ma : MV w2 m0 n0 p0 v0 := (M0.keep0 F1).keep F2 ((M0.keep0 F1).ne rg)
  have Mb : MV w2 m1 n1 p1 v1 := (M1.keep0 F1).keep F2 ((M1.keep0 F1).ne rg)
  refine wp_region_noPanic ?_
  refine any_begin (fun w' => w'.heap[g]? = some (.cells (rfs 1 m0 m1) 38) ∧ w'.heap[b4]? = some (.cells (idC k) 48) ∧ MV w' m0 n0 p0 v0) (by kernel_rfl) ⟨rg2, r4, Ma⟩ ?_
  refine any_take 0 rfl (some 18) rfl (by kernel_rfl) (by kernel_rfl) (by kernel_rfl) rfl (.pointer (some ⟨g, 0, none⟩)) (fun _ _ _ h => h) (fun _ _ => rfl) ⟨rg2, r4, Ma⟩ ?_
  simp only [Act.put, List.setIfInBounds_toArray, List.set_cons_zero, List.set_cons_succ]
  refine any_take 1 rfl (some 19) rfl (by kernel_rfl) (by kernel_rfl) (by kernel_rfl) rfl (.pointer (some ⟨g, 0, none⟩)) (fun _ _ _ h => h) (fun _ _ => rfl) ⟨rg2, r4, Ma⟩ ?_
  simp only [Act.put, List.setIfInBounds_toArray, List.set_cons_zero, List.set_cons_succ]
  refine any_take 2 rfl (some 20) rfl (by kernel_rfl) (by kernel_rfl) (by kernel_rfl) rfl (.pointer (some ⟨g, 2, none⟩)) (fun _ _ _ h => h) (fun _ _ => by kernel_rfl) ⟨rg2, r4, Ma⟩ ?_
  simp only [Act.put, List.setIfInBounds_toArray, List.set_cons_zero, List.set_cons_succ]
  refine any_load_cell 3 rfl (some 21) rfl (by kernel_rfl) (by kernel_rfl) (by kernel_rfl) rfl (.map m0) (fun _ _ _ h => h) 24 (.tmp 20) rfl ⟨g, 2, none⟩ rfl (fun _ h => rfs_cell2 h.1) _ Yba.underlying24 rfl ⟨rg2, r4, Ma⟩ ?_
  simp only [Act.put, List.setIfInBounds_toArray, List.set_cons_zero, List.set_cons_succ]
  refine any_load_arr 4 rfl (some 22) rfl (by kernel_rfl) (by kernel_rfl) (by kernel_rfl) rfl (idC k) (fun _ _ _ h => h) 48 (.tmp 3) rfl b4 rfl 48 (0, 0) (fun _ h => h.2.1) _ Yba.underlying48 rfl (by rw [size48, idC_size]) ⟨rg2, r4, Ma⟩ ?_
  simp only [Act.put, List.setIfInBounds_toArray, List.set_cons_zero, List.set_cons_succ]
  refine any_take 5 rfl (some 23) rfl (by kernel_rfl) (by kernel_rfl) (by kernel_rfl) rfl (.tuple #[(.int .i64 0), .bool false]) (fun _ _ _ h => h) (fun w h => lookup_run (mv := .map m0) (key := .agg (idC k)) rfl rfl rfl (by rw [h.2.2.look hk, hp]; rfl)) ⟨rg2, r4, Ma⟩ ?_
  simp only [Act.put, List.setIfInBounds_toArray, List.set_cons_zero, List.set_cons_succ]
  refine any_take 6 rfl (some 17) rfl (by kernel_rfl) (by kernel_rfl) (by kernel_rfl) rfl (.tuple #[(.int .i64 0), .bool false]) (fun _ _ _ h => h) (fun _ _ => rfl) ⟨rg2, r4, Ma⟩ ?_
  simp only [Act.put, List.setIfInBounds_toArray, List.set_cons_zero, List.set_cons_succ]
  refine any_take 7 rfl (some 24) rfl (by kernel_rfl) (by kernel_rfl) (by kernel_rfl) rfl (.int .i64 0) (fun _ _ _ h => h) (fun _ _ => by rfl) ⟨rg2, r4, Ma⟩ ?_
  simp only [Act.put, List.setIfInBounds_toArray, List.set_cons_zero, List.set_cons_succ]
  refine any_take 8 rfl (some 25) rfl (by kernel_rfl) (by kernel_rfl) (by kernel_rfl) rfl (.bool false) (fun _ _ _ h => h) (fun _ _ => by rfl) ⟨rg2, r4, Ma⟩ ?_
  simp only [Act.put, List.setIfInBounds_toArray, List.set_cons_zero, List.set_cons_succ]
  refine any_take 9 rfl (some 6) rfl (by kernel_rfl) (by kernel_rfl) (by kernel_rfl) rfl (.int .i64 0) (fun _ _ _ h => h) (fun _ _ => rfl) ⟨rg2, r4, Ma⟩ ?_
  simp only [Act.put, List.setIfInBounds_toArray, List.set_cons_zero, List.set_cons_succ]
  refine any_take 10 rfl (some 7) rfl (by kernel_rfl) (by kernel_rfl) (by kernel_rfl) rfl (.bool false) (fun _ _ _ h => h) (fun _ _ => rfl) ⟨rg2, r4, Ma⟩ ?_
  simp only [Act.put, List.setIfInBounds_toArray, List.set_cons_zero, List.set_cons_succ]
  refine any_done (by kernel_rfl) ?_
  refine NoPanic.normal ?_
  go_wp2
  refine wp_region_noPanic ?_
  refine any_begin (fun w' => w'.heap[g]? = some (.cells (rfs 1 m0 m1) 38) ∧ w'.heap[b4]? = some (.cells (idC k) 48) ∧ MV w' m1 n1 p1 v1) (by kernel_rfl) ⟨rg2, r4, Mb⟩ ?_
  refine any_take 0 rfl (some 29) rfl (by kernel_rfl) (by kernel_rfl) (by kernel_rfl) rfl (.pointer (some ⟨g, 0, none⟩)) (fun _ _ _ h => h) (fun _ _ => rfl) ⟨rg2, r4, Mb⟩ ?_
  simp only [Act.put, List.setIfInBounds_toArray, List.set_cons_zero, List.set_cons_succ]
  refine any_take 1 rfl (some 30) rfl (by kernel_rfl) (by kernel_rfl) (by kernel_rfl) rfl (.pointer (some ⟨g, 0, none⟩)) (fun _ _ _ h => h) (fun _ _ => rfl) ⟨rg2, r4, Mb⟩ ?_
  simp only [Act.put, List.setIfInBounds_toArray, List.set_cons_zero, List.set_cons_succ]
  refine any_take 2 rfl (some 31) rfl (by kernel_rfl) (by kernel_rfl) (by kernel_rfl) rfl (.pointer (some ⟨g, 3, none⟩)) (fun _ _ _ h => h) (fun _ _ => by kernel_rfl) ⟨rg2, r4, Mb⟩ ?_
  simp only [Act.put, List.setIfInBounds_toArray, List.set_cons_zero, List.set_cons_succ]
  refine any_load_cell 3 rfl (some 32) rfl (by kernel_rfl) (by kernel_rfl) (by kernel_rfl) rfl (.map m1) (fun _ _ _ h => h) 24 (.tmp 31) rfl ⟨g, 3, none⟩ rfl (fun _ h => rfs_cell3 h.1) _ Yba.underlying24 rfl ⟨rg2, r4, Mb⟩ ?_
  simp only [Act.put, List.setIfInBounds_toArray, List.set_cons_zero, List.set_cons_succ]
  refine any_load_arr 4 rfl (some 33) rfl (by kernel_rfl) (by kernel_rfl) (by kernel_rfl) rfl (idC k) (fun _ _ _ h => h) 48 (.tmp 3) rfl b4 rfl 48 (0, 0) (fun _ h => h.2.1) _ Yba.underlying48 rfl (by rw [size48, idC_size]) ⟨rg2, r4, Mb⟩ ?_
  simp only [Act.put, List.setIfInBounds_toArray, List.set_cons_zero, List.set_cons_succ]
  refine any_take 5 rfl (some 34) rfl (by kernel_rfl) (by kernel_rfl) (by kernel_rfl) rfl (.tuple #[(.int .i64 (v1 k)), .bool true]) (fun _ _ _ h => h) (fun w h => lookup_run (mv := .map m1) (key := .agg (idC k)) rfl rfl rfl (by rw [h.2.2.look hk, hq]; rfl)) ⟨rg2, r4, Mb⟩ ?_
  simp only [Act.put, List.setIfInBounds_toArray, List.set_cons_zero, List.set_cons_succ]
  refine any_take 6 rfl (some 28) rfl (by kernel_rfl) (by kernel_rfl) (by kernel_rfl) rfl (.tuple #[(.int .i64 (v1 k)), .bool true]) (fun _ _ _ h => h) (fun _ _ => rfl) ⟨rg2, r4, Mb⟩ ?_
  simp only [Act.put, List.setIfInBounds_toArray, List.set_cons_zero, List.set_cons_succ]
  refine any_take 7 rfl (some 35) rfl (by kernel_rfl) (by kernel_rfl) (by kernel_rfl) rfl (.int .i64 (v1 k)) (fun _ _ _ h => h) (fun _ _ => by rfl) ⟨rg2, r4, Mb⟩ ?_
  simp only [Act.put, List.setIfInBounds_toArray, List.set_cons_zero, List.set_cons_succ]
  refine any_take 8 rfl (some 36) rfl (by kernel_rfl) (by kernel_rfl) (by kernel_rfl) rfl (.bool true) (fun _ _ _ h => h) (fun _ _ => by rfl) ⟨rg2, r4, Mb⟩ ?_
  simp only [Act.put, List.setIfInBounds_toArray, List.set_cons_zero, List.set_cons_succ]
  refine any_take 9 rfl (some 8) rfl (by kernel_rfl) (by kernel_rfl) (by kernel_rfl) rfl (.int .i64 (v1 k)) (fun _ _ _ h => h) (fun _ _ => rfl) ⟨rg2, r4, Mb⟩ ?_
  simp only [Act.put, List.setIfInBounds_toArray, List.set_cons_zero, List.set_cons_succ]
  refine any_take 10 rfl (some 9) rfl (by kernel_rfl) (by kernel_rfl) (by kernel_rfl) rfl (.bool true) (fun _ _ _ h => h) (fun _ _ => rfl) ⟨rg2, r4, Mb⟩ ?_
  simp only [Act.put, List.setIfInBounds_toArray, List.set_cons_zero, List.set_cons_succ]
  refine any_done (by kernel_rfl) ?_
  refine NoPanic.normal ?_
  have F2' : Fr [g] w1 w2.drew.drew := (F2.trans0 (Fr.drew w2)).trans0 (Fr.drew w2.drew)
  have rg' : w2.drew.drew.heap[g]? = some (.cells (rfs 1 m0 m1) 38) := rg2
  have r4' : w2.drew.drew.heap[b4]? = some (.cells (idC k) 48) := r4
  have Ma' : MV w2.drew.drew m0 n0 p0 v0 := (Ma.keep0 (Fr.drew w2)).keep0 (Fr.drew w2.drew)
  go_wp2_with (first
    | (refine wpList_load_arr rfl 48 _ rfl (some 39) rfl b4 rfl 48 (idC k) _ r4' _ Yba.underlying48 rfl (by rw [size48, idC_size]) ?_)
    | (go_at_call 13; refine (keep_any g 1 m0 m1 n0 k (v1 k) p0 v0 _ rg' Ma' hz.out hk hs hn).mono ?_; rintro e w3 ⟨rfl, K3⟩))
  obtain ⟨F3, b, r3, M3, hb⟩ := id K3
  refine leaves_cons (f := 12) (args := #[.pointer (some ⟨g, 0, none⟩)]) (by simp) (by simp [go_sem]) ?_
  refine (unlock_deferred Yba.muLib ⟨g, 0, none⟩ .returning _ (rfs_lock r3) (rfs_free r3)).mono ?_
  rintro e u' w4 ⟨rfl, rfl, hw4⟩
  refine ⟨_, results_tmp2 rfl _ _ _, rfl, ?_⟩
  rw [hw4]
  exact K3.unlock F1 F2'
end Go.Proofs.Ybulkdurm
