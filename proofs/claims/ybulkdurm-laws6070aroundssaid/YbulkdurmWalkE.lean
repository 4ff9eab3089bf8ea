import Derived.Test.YbulkdurmWalkD
namespace Go.Proofs.Ybulkdurm
open Go.RowKit Base
open Go.Maps (Keyed)

theorem build_any (a0 a1 : Option Addr) (l0 c0 l1 c1 : Nat) (z : Bool) (w : World) (h0 : Row8 w a0 l0) (h1 : Row64 w a1 l1) (hl0 : l0 ≤ 1048576) :
    Calls Yba.prog 5 #[.slice a0 l0 c0, .slice a1 l1 c1, .bool z] w fun e w' => ∃ m p v, e = .returned (.tuple #[.map m, .agg (bA p), .agg (iA v)]) ∧ Fr [] w w' ∧ MV w' m l0 p v ∧ (m.isNone = z) := by
  cases z
  · refine (build_some a0 a1 l0 c0 l1 c1 w h0 h1 hl0).mono ?_
    rintro e w' ⟨b, p, v, rfl, hF, hb, hm⟩
    exact ⟨some b, p, v, rfl, hF, .inr ⟨b, rfl, hm⟩, rfl⟩
  · refine (build_nil a0 a1 l0 c0 l1 c1 w).mono ?_
    rintro e w' ⟨rfl, hF⟩
    exact ⟨none, _, _, rfl, hF, .inl ⟨rfl, fun _ _ => rfl⟩, rfl⟩

theorem Row8.keep {w w' : World} {a : Option Addr} {l : Nat} (h : Row8 w a l) (hF : Fr [] w w') : Row8 w' a l := by
  rcases h with h | ⟨b, o, ha, h⟩
  · exact .inl h
  · exact .inr ⟨b, o, ha, fun j hj => let ⟨k, h1, h2⟩ := h j hj; ⟨k, h1, hF.cell h2 (by simp)⟩⟩
theorem Row64.keep {w w' : World} {a : Option Addr} {l : Nat} (h : Row64 w a l) (hF : Fr [] w w') : Row64 w' a l := by
  rcases h with h | ⟨b, o, ha, h⟩
  · exact .inl h
  · exact .inr ⟨b, o, ha, fun j hj => let ⟨k, h1, h2⟩ := h j hj; ⟨k, h1, hF.cell h2 (by simp)⟩⟩
theorem MV.ne {w : World} {m : Option Nat} {n g : Nat} {p : Nat → Bool} {v : Nat → Int} {cs : Array Value} {t : TypeId} (h : MV w m n p v) (hg : w.heap[g]? = some (.cells cs t)) : ∀ b, m = some b → b ∉ [g] := by
  intro b hb
  rcases h with ⟨h1, _⟩ | ⟨b', hb', h'⟩
  · rw [h1] at hb; cases hb
  · rw [hb'] at hb; cases hb; simpa using h'.ne_cells hg
theorem MV.keep0 {w w' : World} {m : Option Nat} {n : Nat} {p : Nat → Bool} {v : Nat → Int} (h : MV w m n p v) (hF : Fr [] w w') : MV w' m n p v := h.keep hF (by simp)

set_option maxHeartbeats 1000000 in
set_option maxRecDepth 100000 in
theorem whole_far (a0 a1 a3 a4 : Option Addr) (l0 c0 l1 c1 l3 c3 l4 c4 : Nat) (a2 a5 : Bool) (w : World) (h0 : l0 ≤ 140737488355328) (h1 : l1 ≤ 140737488355328) (h3 : l3 ≤ 140737488355328) (h4 : l4 ≤ 140737488355328) (hfar : 1048576 < l0 + l1 + l3 + l4) :
    Calls Yba.prog 3 #[.slice a0 l0 c0, .slice a1 l1 c1, .bool a2, .slice a3 l3 c3, .slice a4 l4 c4, .bool a5] w fun e w' => e = .returned (.bool true) ∧ w' = w := by
  go_enter Yba.func3, Yba.ntmps3
  go_wp2
  go_ret
  exact ⟨rfl, rfl⟩

set_option maxHeartbeats 1000000 in
set_option maxRecDepth 100000 in
theorem whole_near (a0 a1 a3 a4 : Option Addr) (l0 c0 l1 c1 l3 c3 l4 c4 : Nat) (a2 a5 : Bool) (w : World) (h0 : Row8 w a0 l0) (h1 : Row64 w a1 l1) (h3 : Row8 w a3 l3) (h4 : Row64 w a4 l4) (hnear : l0 + l1 + l3 + l4 ≤ 1048576) :
    Calls Yba.prog 3 #[.slice a0 l0 c0, .slice a1 l1 c1, .bool a2, .slice a3 l3 c3, .slice a4 l4 c4, .bool a5] w fun e w' => e = .returned (.bool true) ∧ Fr [] w w' := by
  go_enter Yba.func3, Yba.ntmps3
  go_wp2_with fail
  refine (build_any a0 a1 l0 c0 l1 c1 a2 _ h0 h1 (by omega)).mono ?_
  rintro e w1 ⟨m0, p0, v0, rfl, F1, M0, z0⟩
  have Z0 : Hid (m0.isNone = a2) := z0
  clear z0
  go_wp2_with (first
    | (refine wpList_alloc rfl 25 rfl (some 14) rfl _ (bA fun _ => false) (zero25 _) rfl ?_; intro b14 w2 e2 F2 r14 s2)
    | (refine wpList_alloc rfl 26 rfl (some 15) rfl _ (iA fun _ => 0) (zero26 _) rfl ?_; intro b15 w3 e3 F3 r15 s3; replace r14 := F3.get r14 (by simp))
    | (refine wpList_store_arr rfl 25 (.tmp 14) _ rfl b14 (bA p0) rfl rfl 25 _ r14 (by rw [size25, bA_size]) (by rw [bA_size, bA_size]) (bA_one _) ?_; intro w4 F4 r14' s4)
    | (refine wpList_store_arr rfl 26 (.tmp 15) _ rfl b15 (iA v0) rfl rfl 26 _ (F4.get r15 (by (have := e2.out; have := e3.out; have := s2.out; simp; omega))) (by rw [size26, iA_size]) (by rw [iA_size, iA_size]) (iA_one _) ?_; intro w5 F5 r15' s5)
    | fail)
  have q2 := e2.out
  have q3 := e3.out
  have q4 := s2.out
  have q1 := F1.size
  have g14 : w.heap.size ≤ b14 := by omega
  have g15 : w.heap.size ≤ b15 := by omega
  have n45 : b14 ≠ b15 := by omega
  have F5' : Fr [] w w5 := (((F1.trans0 F2).trans0 F3).trans1 F4 (.inr g14)).trans1 F5 (.inr g15)
  have M5 : MV w5 m0 l0 p0 v0 := (((M0.keep0 F2).keep0 F3).keep F4 (((M0.keep0 F2).keep0 F3).ne r14)).keep F5 ((((M0.keep0 F2).keep0 F3).keep F4 (((M0.keep0 F2).keep0 F3).ne r14)).ne (F4.get r15 (by simp; omega)))
  have r5 := F5.get r14' (by simp [n45])
  clear q1 q2 q3 q4 e2 e3 s2 s3 s4 s5 F1 F2 F3 F4 F5 M0 r14 r15 r14'
  refine (build_any a3 a4 l3 c3 l4 c4 a5 _ (h3.keep F5') (h4.keep F5') (by omega)).mono ?_
  rintro e w6 ⟨m1, p1, v1, rfl, F6, M1, z1⟩
  clear z1
  have M6 := M5.keep0 F6
  have rP := F6.get r5 (by simp)
  have rV := F6.get r15' (by simp)
  have F6' := F5'.trans0 F6
  clear M5 r5 r15' F5' F6
  go_wp2_with (first
    | (refine wpList_alloc rfl 25 rfl (some 17) rfl _ (bA fun _ => false) (zero25 _) rfl ?_; intro b17 w7 e7 F7 r17 s7)
    | (refine wpList_alloc rfl 26 rfl (some 18) rfl _ (iA fun _ => 0) (zero26 _) rfl ?_; intro b18 w8 e8 F8 r18 s8; replace r17 := F8.get r17 (by simp))
    | (refine wpList_store_arr rfl 25 (.tmp 17) _ rfl b17 (bA p1) rfl rfl 25 _ r17 (by rw [size25, bA_size]) (by rw [bA_size, bA_size]) (bA_one _) ?_; intro w9 F9 r17' s9)
    | (refine wpList_store_arr rfl 26 (.tmp 18) _ rfl b18 (iA v1) rfl rfl 26 _ (F9.get r18 (by (have := e7.out; have := e8.out; have := s7.out; simp; omega))) (by rw [size26, iA_size]) (by rw [iA_size, iA_size]) (iA_one _) ?_; intro w10 F10 r18' s10)
    | (refine wpList_box rfl 38 _ rfl (some 51) rfl _ (rfs 0 m0 m1) rfl rfl ?_; intro g w11 e11 F11 rg s11)
    | fail)
  have q1 := F6'.size
  have q7 := e7.out
  have q8 := e8.out
  have q9 := s7.out
  have q11 := e11.out
  have q12 := s9.out
  have q13 := s8.out
  have q14 := s10.out
  have lP := lt_of_get rP
  have lV := lt_of_get rV
  have nP7 : b14 ≠ b17 := by omega
  have nP8 : b14 ≠ b18 := by omega
  have nV7 : b15 ≠ b17 := by omega
  have nV8 : b15 ≠ b18 := by omega
  have g17 : w.heap.size ≤ b17 := by omega
  have g18 : w.heap.size ≤ b18 := by omega
  have gg : w.heap.size ≤ g := by omega
  have nPg : b14 ≠ g := by omega
  have nVg : b15 ≠ g := by omega
  have F11' : Fr [] w w11 := ((((F6'.trans0 F7).trans0 F8).trans1 F9 (.inr g17)).trans1 F10 (.inr g18)).trans0 F11
  have M8 := (M6.keep0 F7).keep0 F8
  have M9 := M8.keep F9 (M8.ne r17)
  have M11 := (M9.keep F10 (M9.ne (F9.get r18 (by simp; omega)))).keep0 F11
  have rP' := F11.get (F10.get (F9.get (F8.get (F7.get rP (by simp)) (by simp)) (by simp [nP7])) (by simp [nP8])) (by simp)
  have rV' := F11.get (F10.get (F9.get (F8.get (F7.get rV (by simp)) (by simp)) (by simp [nV7])) (by simp [nV8])) (by simp)
  clear q1 q7 q8 q9 q11 q12 q13 q14 lP lV nP7 nP8 nV7 nV8 g17 g18 e7 e8 e11 s7 s8 s9 s10 s11 F7 F8 F9 F10 F11 M6 M8 M9 M1 rP rV r17 r18 r17' r18' F6'
  refine (age_any g m0 m1 _ rg).mono ?_
  rintro e w12 ⟨rfl, F12, rg', s12⟩
  have M12 := M11.keep F12 (M11.ne rg)
  have rP := F12.get rP' (by simp [nPg])
  have rV := F12.get rV' (by simp [nVg])
  have F12' : Fr [] w w12 := F11'.trans1 F12 (.inr gg)
  clear rg M11 rP' rV' nPg nVg F11' F12 s12
  have hne := fun w => run_neq_map_nil (P := Yba.prog) w 24 48 2 none Yba.underlying24
  have heq := fun w => run_eql_map_nil (P := Yba.prog) w 24 48 2 m0 Yba.underlying24
  cases a2
  · have hm : m0.isNone = false := Z0.out
    go_wp2_with (first
      | (refine wpList_load_cell rfl 24 _ rfl (some 57) rfl g 2 (.map none) rfl 38 _ _ rg' rfl _ Yba.underlying24 rfl ?_)
      | (refine wpList_load_cell rfl 24 _ rfl (some 68) rfl g 3 (.map m0) rfl 38 _ _ rg' rfl _ Yba.underlying24 rfl ?_)
      | (refine wpList_load_cell rfl 24 _ rfl (some 73) rfl g 3 (.map m0) rfl 38 _ _ rg' rfl _ Yba.underlying24 rfl ?_)
      | (go_at_call 7; refine (matches_any m0 l0 b14 b15 p0 v0 _ M12 rP rV).mono ?_; rintro e w13 ⟨rfl, F13⟩)
      | fail)
    go_ret
    exact ⟨rfl, F12'.trans0 F13⟩
  · have hm : m0.isNone = true := Z0.out
    go_wp2_with (first
      | (refine wpList_load_cell rfl 24 _ rfl (some 57) rfl g 2 (.map none) rfl 38 _ _ rg' rfl _ Yba.underlying24 rfl ?_)
      | (refine wpList_load_cell rfl 24 _ rfl (some 63) rfl g 3 (.map m0) rfl 38 _ _ rg' rfl _ Yba.underlying24 rfl ?_)
      | fail)
    go_ret
    exact ⟨rfl, F12'⟩
end Go.Proofs.Ybulkdurm
