import Derived.Test.YbulkdurmWalkC
namespace Go.Proofs.Ybulkdurm
open Go.RowKit Base
open Go.Maps (Keyed)

/-- the state of the build's loop -/
structure Bst (w wr : World) (b7 b8 b9 b10 bm n : Nat) (p : Nat → Bool) (v : Nat → Int) : Prop where
  fr : Fr [] w wr
  r7 : wr.heap[b7]? = some (.cells (bA fun _ => false) 25)
  r8 : wr.heap[b8]? = some (.cells (iA fun _ => 0) 26)
  r9 : wr.heap[b9]? = some (.cells (bA p) 25)
  r10 : wr.heap[b10]? = some (.cells (iA v) 26)
  m : MapIs wr bm n p v
  g7 : w.heap.size ≤ b7
  g8 : w.heap.size ≤ b8
  g9 : w.heap.size ≤ b9
  g10 : w.heap.size ≤ b10
  gm : w.heap.size ≤ bm
  n78 : b7 ≠ b8
  n79 : b7 ≠ b9
  n7a : b7 ≠ b10
  n89 : b8 ≠ b9
  n8a : b8 ≠ b10
  n9a : b9 ≠ b10

theorem Bst.keep {w wr w' : World} {b7 b8 b9 b10 bm n : Nat} {p : Nat → Bool} {v : Nat → Int} (h : Bst w wr b7 b8 b9 b10 bm n p v) (hF : Fr [] wr w') : Bst w w' b7 b8 b9 b10 bm n p v :=
  { h with fr := h.fr.trans0 hF, r7 := hF.get h.r7 (by simp), r8 := hF.get h.r8 (by simp), r9 := hF.get h.r9 (by simp), r10 := hF.get h.r10 (by simp), m := h.m.keep hF (by simp) }

/-- a round's three stores -/
theorem Bst.step {w w1 w2 w3 w4 : World} {b7 b8 b9 b10 bm n k : Nat} {p : Nat → Bool} {v : Nat → Int} {s : Int} (h : Bst w w1 b7 b8 b9 b10 bm n p v)
    (hm : MapIs w2 bm (n + 1) (upd p k true) (upd v k s)) (F2 : Fr [bm] w1 w2)
    (F3 : Fr [b9] w2 w3) (r9 : w3.heap[b9]? = some (.cells ((bA p).setIfInBounds k (.bool true)) 25))
    (F4 : Fr [b10] w3 w4) (r10 : w4.heap[b10]? = some (.cells ((iA v).setIfInBounds k (.int .i64 s)) 26)) : Bst w w4 b7 b8 b9 b10 bm (n + 1) (upd p k true) (upd v k s) := by
  have m7 := h.m.ne_cells h.r7
  have m8 := h.m.ne_cells h.r8
  have m9 := h.m.ne_cells h.r9
  have ma := h.m.ne_cells h.r10
  rw [bA_set] at r9
  rw [iA_set] at r10
  exact { h with
    fr := ((h.fr.trans1 F2 (.inr h.gm)).trans1 F3 (.inr h.g9)).trans1 F4 (.inr h.g10)
    r7 := F4.get (F3.get (F2.get h.r7 (by simp [m7.symm])) (by simp [h.n79])) (by simp [h.n7a])
    r8 := F4.get (F3.get (F2.get h.r8 (by simp [m8.symm])) (by simp [h.n89])) (by simp [h.n8a])
    r9 := F4.get r9 (by simp [h.n9a])
    r10 := r10
    m := (hm.keep F3 (by simp [m9])).keep F4 (by simp [ma]) }

set_option maxHeartbeats 1000000 in
set_option maxRecDepth 100000 in
theorem build_some (a0 a1 : Option Addr) (l0 c0 l1 c1 : Nat) (w : World) (h0 : Row8 w a0 l0) (h1 : Row64 w a1 l1) (hl0 : l0 ≤ 1048576) :
    Calls Yba.prog 5 #[.slice a0 l0 c0, .slice a1 l1 c1, .bool false] w fun e w' => ∃ b p v, e = .returned (.tuple #[.map (some b), .agg (bA p), .agg (iA v)]) ∧ Fr [] w w' ∧ w.heap.size ≤ b ∧ MapIs w' b l0 p v := by
  go_enter Yba.func5, Yba.ntmps5
  go_wp2_with (first
    | (refine wpList_alloc rfl 25 rfl (some 7) rfl _ (bA fun _ => false) (zero25 _) rfl ?_; intro b7 w1 e1 F1 r7 s1)
    | (refine wpList_alloc rfl 26 rfl (some 8) rfl _ (iA fun _ => 0) (zero26 _) rfl ?_; intro b8 w2 e2 F2 r8 s2; replace r7 := F2.get r7 (by simp))
    | (refine wpList_alloc rfl 25 rfl (some 9) rfl _ (bA fun _ => false) (zero25 _) rfl ?_; intro b9 w3 e3 F3 r9 s3; replace r7 := F3.get r7 (by simp); replace r8 := F3.get r8 (by simp))
    | (refine wpList_alloc rfl 26 rfl (some 10) rfl _ (iA fun _ => 0) (zero26 _) rfl ?_; intro b10 w4 e4 F4 r10 s4; replace r7 := F4.get r7 (by simp); replace r8 := F4.get r8 (by simp); replace r9 := F4.get r9 (by simp))
    | (refine wpList_makeMap rfl 24 rfl (some 18) rfl ?_; intro bm w5 e5 F5 rm s5))
  have B0 : Bst w w5 b7 b8 b9 b10 bm 0 (fun _ => false) (fun _ => 0) := by
    have q1 := e1.out
    have q2 := e2.out
    have q3 := e3.out
    have q4 := e4.out
    have q5 := s1.out
    have q6 := s2.out
    have q7 := s3.out
    have q8 := s4.out
    have q9 := e5.out
    exact ⟨(((F1.trans0 F2).trans0 F3).trans0 F4).trans0 F5, F5.get r7 (by simp), F5.get r8 (by simp), F5.get r9 (by simp), F5.get r10 (by simp), MapIs.made rm, by omega, by omega, by omega, by omega, by omega, by omega, by omega, by omega, by omega, by omega, by omega⟩
  clear e1 e2 e3 e4 e5 s1 s2 s3 s4 s5 F1 F2 F3 F4 F5 r7 r8 r9 r10 rm
  go_loopw [21] (fun i wr => ∃ (j : Nat) (p : Nat → Bool) (v : Nat → Int), j ≤ l0 ∧ i = .int .i64 j ∧ Bst w wr b7 b8 b9 b10 bm j p v) (fun i _ => l0 - (intOf i).toNat)
  case atStart => exact ⟨0, _, _, by omega, rfl, B0⟩
  case round =>
    obtain ⟨j, p, v, hj, rfl, B⟩ := hrel
    by_cases hlt : j < l0
    · obtain ⟨kb, ko, rfl, hk⟩ : ∃ b o, a0 = some ⟨b, o, none⟩ ∧ ∀ j, j < l0 → ∃ k : Nat, k < 256 ∧ w.cell? ⟨b, o + j, none⟩ = some (.int .u8 k) := h0.resolve_left (by omega)
      obtain ⟨k, hk256, hkc⟩ := hk j hlt
      have kc := B.fr.cell hkc (by simp)
      have hjm : j < maxLen := by unfold maxLen; omega
      clear hk hkc B0
      by_cases hs : j < l1
      · obtain ⟨sb, so, rfl, hsz⟩ : ∃ b o, a1 = some ⟨b, o, none⟩ ∧ ∀ j, j < l1 → ∃ s : Int, (Lit.int .i64 s).wf = true ∧ w.cell? ⟨b, o + j, none⟩ = some (.int .i64 s) := h1.resolve_left (by omega)
        obtain ⟨s, hswf, hsc⟩ := hsz j hs
        have sc := B.fr.cell hsc (by simp)
        clear hsz hsc
        go_wp2_with (first
          | (go_at_call 9; refine (id_any k _).mono ?_; rintro e w6 ⟨rfl, F6⟩; have B6 := B.keep F6; obtain ⟨w7, hrun, m7, F7, s7⟩ := B6.m.store hjm hk256 hswf)
          | (refine wpList_update rfl 24 _ _ _ rfl (.map (some bm)) (.agg (idC k)) (.int .i64 s) rfl rfl rfl w7 hrun ?_; have r79 := F7.get B6.r9 (by simp [(B6.m.ne_cells B6.r9).symm]); have r7a := F7.get B6.r10 (by simp [(B6.m.ne_cells B6.r10).symm]))
          | (refine wpList_store_cell rfl 4 (.tmp 39) _ rfl b9 k (.bool true) rfl rfl rfl 25 _ r79 (by rw [bA_size]; omega) size4 ?_; intro w8 F8 r89 s8; replace r7a := F8.get r7a (by simp [B6.n9a.symm]))
          | (refine wpList_store_cell rfl 2 (.tmp 42) _ rfl b10 k (.int .i64 s) rfl rfl rfl 26 _ r7a (by rw [iA_size]; omega) size2 ?_; intro w9 F9 r9a s9))
        go_roundw
        case rel => exact ⟨j + 1, _, _, by omega, by go_num, B6.step m7 F7 F8 r89 F9 r9a⟩
        case measure => simp [intOf]; omega
      · have hswf : (Lit.int .i64 0).wf = true := by decide
        go_wp2_with (first
          | (go_at_call 9; refine (id_any k _).mono ?_; rintro e w6 ⟨rfl, F6⟩; have B6 := B.keep F6; obtain ⟨w7, hrun, m7, F7, s7⟩ := B6.m.store hjm hk256 hswf)
          | (refine wpList_update rfl 24 _ _ _ rfl (.map (some bm)) (.agg (idC k)) (.int .i64 0) rfl rfl rfl w7 hrun ?_; have r79 := F7.get B6.r9 (by simp [(B6.m.ne_cells B6.r9).symm]); have r7a := F7.get B6.r10 (by simp [(B6.m.ne_cells B6.r10).symm]))
          | (refine wpList_store_cell rfl 4 (.tmp 39) _ rfl b9 k (.bool true) rfl rfl rfl 25 _ r79 (by rw [bA_size]; omega) size4 ?_; intro w8 F8 r89 s8; replace r7a := F8.get r7a (by simp [B6.n9a.symm]))
          | (refine wpList_store_cell rfl 2 (.tmp 42) _ rfl b10 k (.int .i64 0) rfl rfl rfl 26 _ r7a (by rw [iA_size]; omega) size2 ?_; intro w9 F9 r9a s9))
        go_roundw
        case rel => exact ⟨j + 1, _, _, by omega, by go_num, B6.step m7 F7 F8 r89 F9 r9a⟩
        case measure => simp [intOf]; omega
    · have hj : j = l0 := by omega
      subst hj
      go_wp2
      have r9 := B.r9
      have r10 := B.r10
      refine any_begin (fun w' => w'.heap[b9]? = some (.cells (bA p) 25) ∧ w'.heap[b10]? = some (.cells (iA v) 26)) (by kernel_rfl) ⟨r9, r10⟩ ?_
      refine any_take 0 rfl (some 44) rfl (by kernel_rfl) (by kernel_rfl) (by kernel_rfl) rfl (.map (some bm)) (fun _ _ _ h => h) (fun _ _ => rfl) ⟨r9, r10⟩ ?_
      simp only [Act.put, List.setIfInBounds_toArray, List.set_cons_zero, List.set_cons_succ]
      refine any_load_arr 1 rfl (some 45) rfl (by kernel_rfl) (by kernel_rfl) (by kernel_rfl) rfl (bA p) (fun _ _ _ h => h) 25 (.tmp 9) rfl b9 rfl 25 (0, 0) (fun _ h => h.1) _ Yba.underlying25 rfl (by rw [size25, bA_size]) ⟨r9, r10⟩ ?_
      simp only [Act.put, List.setIfInBounds_toArray, List.set_cons_zero, List.set_cons_succ]
      refine any_load_arr 2 rfl (some 46) rfl (by kernel_rfl) (by kernel_rfl) (by kernel_rfl) rfl (iA v) (fun _ _ _ h => h) 26 (.tmp 10) rfl b10 rfl 26 (0, 0) (fun _ h => h.2) _ Yba.underlying26 rfl (by rw [size26, iA_size]) ⟨r9, r10⟩ ?_
      simp only [Act.put, List.setIfInBounds_toArray, List.set_cons_zero, List.set_cons_succ]
      refine any_take 3 rfl (some 6) rfl (by kernel_rfl) (by kernel_rfl) (by kernel_rfl) rfl (.map (some bm)) (fun _ _ _ h => h) (fun _ _ => rfl) ⟨r9, r10⟩ ?_
      simp only [Act.put, List.setIfInBounds_toArray, List.set_cons_zero, List.set_cons_succ]
      refine any_store_arr 4 rfl (by kernel_rfl) rfl 25 (.tmp 7) (.tmp 45) rfl b7 (bA p) rfl rfl 25 _ B.r7 (by rw [size25, bA_size]) (by rw [bA_size, bA_size]) (bA_one _) ?_
      intro w5 F5 r7' s5
      refine ⟨⟨F5.get r9 (by simp [B.n79.symm]), F5.get r10 (by simp [B.n7a.symm])⟩, ?_⟩
      have r8 := F5.get (w := wr.drew) B.r8 (by simp [B.n78.symm])
      refine any_store_arr 5 rfl (by kernel_rfl) rfl 26 (.tmp 8) (.tmp 46) rfl b8 (iA v) rfl rfl 26 _ r8 (by rw [size26, iA_size]) (by rw [iA_size, iA_size]) (iA_one _) ?_
      intro w6 F6 r8' s6
      refine ⟨⟨F6.get (F5.get r9 (by simp [B.n79.symm])) (by simp [B.n89.symm]), F6.get (F5.get r10 (by simp [B.n7a.symm])) (by simp [B.n8a.symm])⟩, ?_⟩
      refine any_done (by kernel_rfl) ?_
      go_wp2
      replace r7' := F6.get r7' (by simp [B.n78])
      refine bodyPost_ret (results3 rfl rfl rfl (load25 r7') (load26 r8')) rfl ⟨bm, p, v, rfl, ?_, B.gm, ?_⟩
      · exact ((B.fr.trans0 (Fr.drew wr)).trans1 F5 (.inr B.g7)).trans1 F6 (.inr B.g8)
      · exact ((B.m.keep (Fr.drew wr) (by simp)).keep F5 (by simp [B.m.ne_cells B.r7])).keep F6 (by simp [B.m.ne_cells B.r8])
end Go.Proofs.Ybulkdurm
