import Derived.Test.YbulkdurmMap
import Derived.Test.YbulkdurmLocks
import Derived.Conc.MuLone
namespace Go.Proofs.Ybulkdurm
open Go.RowKit Base Go.MuLone
open Go.Maps (Keyed)

set_option maxHeartbeats 400000 in
theorem id_any (k : Int) (w : World) :
    Calls Yba.prog 9 #[.int .u8 k] w fun e w' => e = .returned (.agg (idC k)) ∧ Fr [] w w' := by
  go_enter Yba.func9, Yba.ntmps9
  go_wp2_with (first
    | (refine wpList_alloc rfl 48 rfl (some 2) rfl _ zero20 (zero48 _) rfl ?_; intro b1 w1 e1 F1 r1 s1)
    | (refine wpList_alloc rfl 48 rfl (some 3) rfl _ zero20 (zero48 _) rfl ?_; intro b2 w2 e2 F2 r2 s2; replace r1 := F2.get r1 (by simp); have n12 : b1 ≠ b2 := by (have := e1.out; have := e2.out; have := s1.out; omega))
    | (refine wpList_store_cell rfl 5 (.tmp 5) _ rfl b2 0 (.int .u8 k) rfl rfl rfl 48 zero20 r2 (by rw [zero20_size]; omega) size5 ?_; intro w3 F3 r3 s3; replace r1 := F3.get r1 (by simp [n12]))
    | (refine wpList_store_cell rfl 5 (.tmp 8) _ rfl b2 19 (.int .u8 (bits .xor .u8 k 90)) rfl rfl rfl 48 _ r3 (by simp [zero20_size]) size5 ?_; intro w4 F4 r4 s4; replace r1 := F4.get r1 (by simp [n12]))
    | (refine wpList_load_arr rfl 48 _ rfl (some 9) rfl b2 rfl 48 (idC k) _ r4 _ Yba.underlying48 rfl (by rw [size48, idC_size]) ?_)
    | (refine wpList_store_arr rfl 48 (.tmp 2) _ rfl b1 (idC k) rfl rfl 48 _ r1 (by rw [size48, idC_size]) (by rw [zero20_size, idC_size]) (idC_one k) ?_; intro w5 F5 r5 s5))
  refine bodyPost_ret (results_cell_row rfl _ _ b1 48 (idC k) _ _ rfl r5 Yba.underlying48 rfl (by rw [size48, idC_size])) rfl ⟨rfl, ?_⟩
  have := e1.out
  have := e2.out
  have := s1.out
  exact ((((F1.trans0 F2).trans1 F3 (.inr (by omega))).trans1 F4 (.inr (by omega))).trans1 F5 (.inr (by omega)))

/-- the struct: the lock's two cells, now, before -/
def rfs (s : Int) (m0 m1 : Option Nat) : Array Value := #[.int .i32 s, .int .u32 0, .map m0, .map m1]
theorem rfs_set0 (s s' : Int) (m0 m1 : Option Nat) : (rfs s m0 m1).setIfInBounds 0 (.int .i32 s') = rfs s' m0 m1 := rfl
theorem rfs_set2 (s : Int) (m0 m1 m : Option Nat) : (rfs s m0 m1).setIfInBounds 2 (.map m) = rfs s m m1 := rfl
theorem rfs_set3 (s : Int) (m0 m1 m : Option Nat) : (rfs s m0 m1).setIfInBounds 3 (.map m) = rfs s m0 m := rfl

theorem rfs_lock {w : World} {g : Nat} {s : Int} {m0 m1 : Option Nat} (r : w.heap[g]? = some (.cells (rfs s m0 m1) 38)) : w.cell? ⟨g, 0, none⟩ = some (.int .i32 s) := by rw [cell_of_row w g 0 _ _ _ r]; rfl
theorem rfs_free {w : World} {g : Nat} {s : Int} {m0 m1 : Option Nat} (r : w.heap[g]? = some (.cells (rfs s m0 m1) 38)) : w.frozen? ⟨g, 0, none⟩ = false := frozen_of_row w g 0 _ _ r

set_option maxHeartbeats 400000 in
theorem age_any (g : Nat) (m0 m1 : Option Nat) (w : World) (r0 : w.heap[g]? = some (.cells (rfs 0 m0 m1) 38)) :
    Calls Yba.prog 6 #[.pointer (some ⟨g, 0, none⟩)] w fun e w' => e = .returned (.tuple #[]) ∧ Fr [g] w w' ∧ w'.heap[g]? = some (.cells (rfs 0 none m0) 38) ∧ Hid (w'.heap.size = w.heap.size) := by
  go_enter_defers Yba.func6, Yba.ntmps6
  go_wp2_with (first
    | (go_at_call 11; refine (lock_free Yba.muLib ⟨g, 0, none⟩ _ (rfs_lock r0) (rfs_free r0)).mono ?_; rintro e w1 ⟨rfl, hw1⟩; have r1 : w1.heap[g]? = some (.cells (rfs 1 m0 m1) 38) := (by rw [hw1]; exact heap_setCell_same _ g 0 _ _ _ r0); have F1 : Fr [g] w w1 := (by rw [hw1]; exact Fr.setCell w ⟨g, 0, none⟩ _); have s1 : Hid (w1.heap.size = w.heap.size) := (by rw [hw1]; exact World.size_setCell _ _ _); clear hw1)
    | (refine wpList_load_cell rfl 24 _ rfl (some 14) rfl g 2 (.map m0) rfl 38 _ _ r1 rfl _ Yba.underlying24 rfl ?_)
    | (refine wpList_store_cell rfl 24 (.tmp 16) _ rfl g 3 (.map m0) rfl rfl rfl 38 _ r1 (by simp [rfs]) size24 ?_; intro w2 F2 r2 s2; rw [rfs_set3] at r2)
    | (refine wpList_store_cell rfl 24 (.tmp 18) _ rfl g 2 (.map none) rfl rfl rfl 38 _ r2 (by simp [rfs]) size24 ?_; intro w3 F3 r3 s3; rw [rfs_set2] at r3))
  refine leaves_cons (f := 12) (args := #[.pointer (some ⟨g, 0, none⟩)]) (by simp) (by simp [go_sem]) ?_
  refine (unlock_deferred Yba.muLib ⟨g, 0, none⟩ .returning _ (rfs_lock r3) (rfs_free r3)).mono ?_
  rintro e u' w4 ⟨rfl, rfl, hw4⟩
  refine ⟨_, results_none rfl _ _ _, rfl, ?_, ?_, ?_⟩
  · rw [hw4]
    exact ((F1.trans1 F2 (by simp)).trans1 F3 (by simp)).trans1 (Fr.setCell w3 ⟨g, 0, none⟩ _) (by simp)
  · rw [hw4]
    exact heap_setCell_same _ g 0 _ _ _ r3
  · rw [hw4]
    exact (World.size_setCell _ _ _).trans (s3.out.trans (s2.out.trans s1.out))
end Go.Proofs.Ybulkdurm
