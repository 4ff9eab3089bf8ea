import Derived.Test.YbulkdurmWalkH
namespace Go.Proofs.Ybulkdurm
open Go.RowKit Base
open Go.Maps (Keyed)

/-- what 'age' does, then the model's four assignments -/
theorem Rst.aged {w wr w1 w2 w3 w4 w5 : World} {g b4 b5 b6 b7 : Nat} {m0 m1 : Option Nat} {n : Nat} {p0 p1 : Nat → Bool} {v0 v1 : Nat → Int} (h : Rst w wr g b4 b5 b6 b7 m0 m1 n p0 p1 v0 v1)
    (F1 : Fr [g] wr w1) (rg : w1.heap[g]? = some (.cells (rfs 0 none m0) 38))
    (F2 : Fr [b5] w1 w2) (r5 : w2.heap[b5]? = some (.cells (bA p0) 25))
    (F3 : Fr [b7] w2 w3) (r7 : w3.heap[b7]? = some (.cells (iA v0) 26))
    (F4 : Fr [b4] w3 w4) (r4 : w4.heap[b4]? = some (.cells (bA fun _ => false) 25))
    (F5 : Fr [b6] w4 w5) (r6 : w5.heap[b6]? = some (.cells (iA fun _ => 0) 26)) :
    Rst w w5 g b4 b5 b6 b7 none m0 n (fun _ => false) p0 (fun _ => 0) v0 := by
  have r41 := F1.get h.r4 (by simp [ne_type h.r4 h.rg (by decide)])
  have r51 := F1.get h.r5 (by simp [ne_type h.r5 h.rg (by decide)])
  have r61 := F1.get h.r6 (by simp [ne_type h.r6 h.rg (by decide)])
  have r71 := F1.get h.r7 (by simp [ne_type h.r7 h.rg (by decide)])
  have M1 := h.M0.keep F1 (h.M0.ne h.rg)
  have M2 := M1.keep F2 (M1.ne r51)
  have rg2 := F2.get rg (by simp [ne_type rg r51 (by decide)])
  have r42 := F2.get r41 (by simp [h.n45])
  have r62 := F2.get r61 (by simp [ne_type r61 r51 (by decide)])
  have r72 := F2.get r71 (by simp [ne_type r71 r51 (by decide)])
  have M3 := M2.keep F3 (M2.ne r72)
  have rg3 := F3.get rg2 (by simp [ne_type rg2 r72 (by decide)])
  have r43 := F3.get r42 (by simp [ne_type r42 r72 (by decide)])
  have r53 := F3.get r5 (by simp [ne_type r5 r72 (by decide)])
  have r63 := F3.get r62 (by simp [h.n67])
  have M4 := M3.keep F4 (M3.ne r43)
  have rg4 := F4.get rg3 (by simp [ne_type rg3 r43 (by decide)])
  have r54 := F4.get r53 (by simp [h.n45.symm])
  have r64 := F4.get r63 (by simp [ne_type r63 r43 (by decide)])
  have r74 := F4.get r7 (by simp [ne_type r7 r43 (by decide)])
  have M5 := M4.keep F5 (M4.ne r64)
  exact {
    fr := ((((h.fr.trans1 F1 (.inr h.gg)).trans1 F2 (.inr h.g5)).trans1 F3 (.inr h.g7)).trans1 F4 (.inr h.g4)).trans1 F5 (.inr h.g6)
    rg := F5.get rg4 (by simp [ne_type rg4 r64 (by decide)])
    r4 := F5.get r4 (by simp [ne_type r4 r64 (by decide)])
    r5 := F5.get r54 (by simp [ne_type r54 r64 (by decide)])
    r6 := r6
    r7 := F5.get r74 (by simp [h.n67.symm])
    M0 := .inl ⟨rfl, fun _ _ => rfl⟩
    M1 := M5
    z0 := fun _ => rfl
    apart := fun b e _ => by cases e
    gg := h.gg, g4 := h.g4, g5 := h.g5, g6 := h.g6, g7 := h.g7
    gm := fun b e => by cases e
    gm1 := h.gm, n45 := h.n45, n67 := h.n67 }

theorem zero38 (w : World) : (Instr.build 38 #[]).run Yba.prog w = .ok (.agg (rfs 0 none none)) w := by kernel_rfl
theorem build25 (w : World) : (Instr.build 25 #[]).run Yba.prog w = .ok (.agg (bA fun _ => false)) w := by kernel_rfl
theorem build26 (w : World) : (Instr.build 26 #[]).run Yba.prog w = .ok (.agg (iA fun _ => 0)) w := by kernel_rfl
def stp (op k : Nat) (s : Int) : Array Value := #[.int .u8 op, .int .u8 k, .int .i64 s]
theorem zero45 (w : World) : (zeroValue 45).run Yba.prog w = .ok (.agg (stp 0 0 0)) w := by kernel_rfl
theorem stp_cell2 {w : World} {b op k : Nat} {s : Int} (r : w.heap[b]? = some (.cells (stp op k s) 45)) : w.cell? ⟨b, 2, none⟩ = some (.int .i64 s) := by rw [cell_of_row w b 2 _ _ _ r]; rfl
theorem stp_one (op k : Nat) (s : Int) : (stp op k s).all (·.oneCell') = true := by simp [stp, Value.oneCell']
theorem size45 : (Yba.prog.info? 45).map (·.size) = some 3 := by kernel_rfl

theorem wpList_build0 {P : Program} {ops : Array Oper} {Q : Exit → Act → World → Prop} {a : Act} {w : World} {rest : List Oper} {o : Oper} (hg : o.guard = none) (t : TypeId) (ho : o.op = .build t #[]) (d : Option Tmp) (hd : o.dst = d) (v : Value)
    (hrun : (Instr.build t #[]).run P w = .ok v w) (hK : wpList P ops Q rest (a.put d v) w) : wpList P ops Q (o :: rest) a w := by
  subst hd
  refine wpList_val hg (v := v) (w1 := w) ?_ hK
  simp [execOp, ho, hrun]

set_option maxHeartbeats 4000000 in
set_option maxRecDepth 100000 in
theorem rounds_near (a0 : Option Addr) (l0 c0 : Nat) (w : World) (h0 : Steps w a0 l0) (hl : l0 ≤ 65536) :
    Calls Yba.prog 4 #[.slice a0 l0 c0] w fun e w' => e = .returned (.bool true) ∧ Fr [] w w' := by
  go_enter Yba.func4, Yba.ntmps4
  go_wp2_with (first
    | (refine wpList_build0 rfl 38 rfl (some 18) rfl _ (zero38 _) ?_)
    | (refine wpList_box rfl 38 _ rfl (some 19) rfl _ (rfs 0 none none) rfl rfl ?_; intro g w1 e1 F1 rg s1)
    | (refine wpList_alloc rfl 25 rfl (some 4) rfl _ (bA fun _ => false) (zero25 _) rfl ?_; intro b4 w2 e2 F2 r4 s2; replace rg := F2.get rg (by simp))
    | (refine wpList_alloc rfl 25 rfl (some 5) rfl _ (bA fun _ => false) (zero25 _) rfl ?_; intro b5 w3 e3 F3 r5 s3; replace rg := F3.get rg (by simp); replace r4 := F3.get r4 (by simp))
    | (refine wpList_alloc rfl 26 rfl (some 6) rfl _ (iA fun _ => 0) (zero26 _) rfl ?_; intro b6 w4 e4 F4 r6 s4; replace rg := F4.get rg (by simp); replace r4 := F4.get r4 (by simp); replace r5 := F4.get r5 (by simp))
    | (refine wpList_alloc rfl 26 rfl (some 7) rfl _ (iA fun _ => 0) (zero26 _) rfl ?_; intro b7 w5 e5 F5 r7 s5; replace rg := F5.get rg (by simp); replace r4 := F5.get r4 (by simp); replace r5 := F5.get r5 (by simp); replace r6 := F5.get r6 (by simp)))
  have R0 : Rst w w5 g b4 b5 b6 b7 none none 0 (fun _ => false) (fun _ => false) (fun _ => 0) (fun _ => 0) := by
    have q1 := e1.out
    have q2 := e2.out
    have q3 := e3.out
    have q4 := e4.out
    have q5 := e5.out
    have t1 := s1.out
    have t2 := s2.out
    have t3 := s3.out
    have t4 := s4.out
    exact ⟨(((F1.trans0 F2).trans0 F3).trans0 F4).trans0 F5, rg, r4, r5, r6, r7, .inl ⟨rfl, fun _ _ => rfl⟩, .inl ⟨rfl, fun _ _ => rfl⟩, fun _ => rfl, fun b e => (by cases e), by omega, by omega, by omega, by omega, by omega, fun b e => (by cases e), fun b e => (by cases e), by omega, by omega⟩
  clear e1 e2 e3 e4 e5 s1 s2 s3 s4 s5 F1 F2 F3 F4 F5 rg r4 r5 r6 r7
  go_loopw [8, 9, 22] (fun z0 z1 i wr => ∃ (j : Nat) (m0 m1 : Option Nat) (p0 p1 : Nat → Bool) (v0 v1 : Nat → Int), j ≤ l0 ∧ i = .int .i64 j ∧ z0 = .bool m0.isNone ∧ z1 = .bool m1.isNone ∧ Rst w wr g b4 b5 b6 b7 m0 m1 j p0 p1 v0 v1) (fun _ _ i _ => l0 - (intOf i).toNat)
  case atStart => exact ⟨0, none, none, _, _, _, _, by omega, rfl, rfl, rfl, R0⟩
  case round =>
    obtain ⟨j, m0, m1, p0, p1, v0, v1, hj, rfl, rfl, rfl, R⟩ := hrel
    clear R0
    by_cases hlt : j < l0
    · obtain ⟨sb, so, rfl, hst⟩ : ∃ b o, a0 = some ⟨b, o, none⟩ ∧ ∀ j, j < l0 → ∃ (op k : Nat) (s : Int), op < 256 ∧ k < 256 ∧ (Lit.int .i64 s).wf = true ∧ w.cell? ⟨b, o + j * 3, none⟩ = some (.int .u8 op) ∧ w.cell? ⟨b, o + j * 3 + 1, none⟩ = some (.int .u8 k) ∧ w.cell? ⟨b, o + j * 3 + 2, none⟩ = some (.int .i64 s) := h0.resolve_left (by omega)
      obtain ⟨op, k, s, hop, hk, hs, c0', c1', c2'⟩ := hst j hlt
      have c0 := R.fr.cell c0' (by simp)
      have c1 := R.fr.cell c1' (by simp)
      have c2 := R.fr.cell c2' (by simp)
      clear hst c0' c1' c2'
      have hjm : j < maxLen := by unfold maxLen; omega
      have hop3 : (op : Int) % 3 = 0 ∨ (op : Int) % 3 = 1 ∨ (op : Int) % 3 = 2 := by omega
      rcases hop3 with h3 | h3 | h3
      · go_wp2_with (first
          | (refine wpList_alloc rfl 45 rfl (some 11) rfl _ (stp 0 0 0) (zero45 _) rfl ?_; intro b11 w6 e6 F6 r11 s6)
          | (refine wpList_store_arr rfl 45 (.tmp 11) _ rfl b11 (stp op k s) rfl rfl 45 _ r11 size45 rfl (stp_one op k s) ?_; intro w7 F7 r11' s7; have gx : w.heap.size ≤ b11 := (by (have := e6.out; have := R.fr.size; omega)); have R7 := (R.keep F6).beside r11 gx F7)
          | (refine wpList_load_cell rfl 5 _ rfl (some 27) rfl b11 1 (.int .u8 k) rfl 45 _ _ r11' rfl _ Yba.underlying5 rfl ?_)
          | (refine wpList_load_cell rfl 5 _ rfl (some 29) rfl b11 0 (.int .u8 op) rfl 45 _ _ r11' rfl _ Yba.underlying5 rfl ?_))
        refine any_begin (fun w' => w'.heap[b11]? = some (.cells (stp op k s) 45)) (by kernel_rfl) r11' ?_
        refine any_take 0 rfl (some 41) rfl (by kernel_rfl) (by kernel_rfl) (by kernel_rfl) rfl (.pointer (some ⟨g, 0, none⟩)) (fun _ _ _ h => h) (fun _ _ => rfl) r11' ?_
        simp only [Act.put, List.setIfInBounds_toArray, List.set_cons_zero, List.set_cons_succ]
        refine any_take 1 rfl (some 42) rfl (by kernel_rfl) (by kernel_rfl) (by kernel_rfl) rfl (.int .u8 k) (fun _ _ _ h => h) (fun _ _ => rfl) r11' ?_
        simp only [Act.put, List.setIfInBounds_toArray, List.set_cons_zero, List.set_cons_succ]
        refine any_take 3 rfl (some 44) rfl (by kernel_rfl) (by kernel_rfl) (by kernel_rfl) rfl (.pointer (some ⟨b11, 2, none⟩)) (fun _ _ _ h => h) (fun _ _ => by kernel_rfl) r11' ?_
        simp only [Act.put, List.setIfInBounds_toArray, List.set_cons_zero, List.set_cons_succ]
        refine any_load_cell 4 rfl (some 45) rfl (by kernel_rfl) (by kernel_rfl) (by kernel_rfl) rfl (.int .i64 s) (fun _ _ _ h => h) 2 (.tmp 44) rfl ⟨b11, 2, none⟩ rfl (fun _ h => stp_cell2 h) _ Yba.underlying2 rfl r11' ?_
        simp only [Act.put, List.setIfInBounds_toArray, List.set_cons_zero, List.set_cons_succ]
        refine any_call 2 rfl (by kernel_rfl) rfl (some 43) rfl 9 _ _ rfl _ Yba.func9 (by kernel_rfl) (by kernel_rfl) [.int .u8 k] rfl ((id_any k _).mono ?_)
        rintro e w8 ⟨rfl, F8⟩
        have R8 := (R7.keep (Fr.drew w7)).keep F8
        have r118 := F8.get (w := w7.drew) r11' (by simp)
        refine ⟨_, rfl, r118, ?_⟩
        simp only [Act.put, List.setIfInBounds_toArray, List.set_cons_zero, List.set_cons_succ]
        refine any_call 5 rfl (by kernel_rfl) rfl (some 46) rfl 8 _ _ rfl _ Yba.func8 (by kernel_rfl) (by kernel_rfl) [.pointer (some ⟨g, 0, none⟩), .agg (idC k), .int .i64 s] rfl ((add_any g m0 m1 j k s p0 v0 _ R8.rg R8.M0 R8.z0 hk hs hjm).mono ?_)
        rintro e w9 ⟨rfl, K9⟩
        have r119 := K9.1.get r118 (R8.off r118 (by decide))
        refine ⟨_, rfl, r119, ?_⟩
        simp only [Act.put, List.setIfInBounds_toArray, List.set_cons_zero, List.set_cons_succ]
        refine any_done (by kernel_rfl) ?_
        have r49 := K9.1.get R8.r4 (R8.off R8.r4 (by decide))
        have r69 := K9.1.get R8.r6 (R8.off R8.r6 (by decide))
        clear R R7 c0 c1 c2 F6 F7 F8 r11 r11' r118 e6 s6 s7
        go_wp2_with (first
          | (refine wpList_store_cell rfl 4 (.tmp 48) _ rfl b4 k (.bool true) rfl rfl rfl 25 _ r49 (by rw [bA_size]; omega) size4 ?_; intro w10 F10 r410 s10; have r6a := F10.get r69 (by simp [ne_type r69 r49 (by decide)]); have r11a := F10.get r119 (by simp [ne_type r119 r49 (by decide)]))
          | (refine wpList_load_cell rfl 2 _ rfl (some 51) rfl b11 2 (.int .i64 s) rfl 45 _ _ r11a rfl _ Yba.underlying2 rfl ?_)
          | (refine wpList_store_cell rfl 2 (.tmp 52) _ rfl b6 k (.int .i64 s) rfl rfl rfl 26 _ r6a (by rw [iA_size]; omega) size2 ?_; intro w11 F11 r611 s11))
        obtain ⟨m0', z', R'⟩ := R8.step K9 F10 r410 F11 r611
        go_roundw
        case rel => exact ⟨j + 1, m0', m1, _, _, _, _, by omega, by go_num, by rw [z'], rfl, R'⟩
        case measure => simp [intOf]; omega
      · cases hp : p0 k
        · cases hq : p1 k
          · go_wp2_with (first
          | (refine wpList_alloc rfl 45 rfl (some 11) rfl _ (stp 0 0 0) (zero45 _) rfl ?_; intro b11 w6 e6 F6 r11 s6)
          | (refine wpList_store_arr rfl 45 (.tmp 11) _ rfl b11 (stp op k s) rfl rfl 45 _ r11 size45 rfl (stp_one op k s) ?_; intro w7 F7 r11' s7; have gx : w.heap.size ≤ b11 := (by (have := e6.out; have := R.fr.size; omega)); have R7 := (R.keep F6).beside r11 gx F7)
          | (refine wpList_load_cell rfl 5 _ rfl (some 27) rfl b11 1 (.int .u8 k) rfl 45 _ _ r11' rfl _ Yba.underlying5 rfl ?_)
          | (refine wpList_load_cell rfl 5 _ rfl (some 29) rfl b11 0 (.int .u8 op) rfl 45 _ _ r11' rfl _ Yba.underlying5 rfl ?_)
          | (go_at_call 9; refine (id_any k _).mono ?_; rintro e w8 ⟨rfl, F8⟩; have R8 := R7.keep F8)
          | (go_at_call 10; refine (size_not g m0 m1 j j k p0 p1 v0 v1 _ R8.rg R8.M0 R8.M1 hk hp hq).mono ?_; rintro e w9 ⟨rfl, F9, rg9⟩; have R9 := R8.same F9 rg9)
          | (refine wpList_load_cell rfl 4 _ rfl (some 64) rfl b4 k (.bool false) rfl 25 _ _ R9.r4 (by rw [bA_get p0 hk, hp]) _ Yba.underlying4 rfl ?_)
          | (refine wpList_load_cell rfl 4 _ rfl (some 76) rfl b5 k (.bool false) rfl 25 _ _ R9.r5 (by rw [bA_get p1 hk, hq]) _ Yba.underlying4 rfl ?_))
            go_roundw
            case rel => exact ⟨j + 1, m0, m1, _, _, _, _, by omega, by go_num, rfl, rfl, R9.mono (by omega)⟩
            case measure => simp [intOf]; omega
          · go_wp2_with (first
          | (refine wpList_alloc rfl 45 rfl (some 11) rfl _ (stp 0 0 0) (zero45 _) rfl ?_; intro b11 w6 e6 F6 r11 s6)
          | (refine wpList_store_arr rfl 45 (.tmp 11) _ rfl b11 (stp op k s) rfl rfl 45 _ r11 size45 rfl (stp_one op k s) ?_; intro w7 F7 r11' s7; have gx : w.heap.size ≤ b11 := (by (have := e6.out; have := R.fr.size; omega)); have R7 := (R.keep F6).beside r11 gx F7)
          | (refine wpList_load_cell rfl 5 _ rfl (some 27) rfl b11 1 (.int .u8 k) rfl 45 _ _ r11' rfl _ Yba.underlying5 rfl ?_)
          | (refine wpList_load_cell rfl 5 _ rfl (some 29) rfl b11 0 (.int .u8 op) rfl 45 _ _ r11' rfl _ Yba.underlying5 rfl ?_)
          | (go_at_call 9; refine (id_any k _).mono ?_; rintro e w8 ⟨rfl, F8⟩; have R8 := R7.keep F8)
          | (go_at_call 10; refine (size_bef g m0 m1 j j k p0 p1 v0 v1 _ R8.rg R8.M0 R8.M1 hk R8.z0 hjm hp hq (R8.M1.wf hk hq)).mono ?_; rintro e w9 ⟨rfl, K9⟩; have r49 := K9.1.get R8.r4 (R8.off R8.r4 (by decide)); have r59 := K9.1.get R8.r5 (R8.off R8.r5 (by decide)); have r69 := K9.1.get R8.r6 (R8.off R8.r6 (by decide)); have r79 := K9.1.get R8.r7 (R8.off R8.r7 (by decide)); have c79 : w9.cell? ⟨b7, k, none⟩ = some (.int .i64 (v1 k)) := ((cell_of_row w9 b7 k _ _ _ r79).trans (iA_get v1 hk)))
          | (refine wpList_load_cell rfl 4 _ rfl (some 64) rfl b4 k (.bool false) rfl 25 _ _ r49 (by rw [bA_get p0 hk, hp]) _ Yba.underlying4 rfl ?_)
          | (refine wpList_load_cell rfl 4 _ rfl (some 76) rfl b5 k (.bool true) rfl 25 _ _ r59 (by rw [bA_get p1 hk, hq]) _ Yba.underlying4 rfl ?_)
          | (refine wpList_store_cell rfl 4 (.tmp 87) _ rfl b4 k (.bool true) rfl rfl rfl 25 _ r49 (by rw [bA_size]; omega) size4 ?_; intro w10 F10 r410 s10; have r6a := F10.get r69 (by simp [ne_type r69 r49 (by decide)]); have r7a := F10.get r79 (by simp [ne_type r79 r49 (by decide)]))
          | (refine wpList_load_cell rfl 2 _ rfl (some 91) rfl b7 k (.int .i64 (v1 k)) rfl 26 _ _ r7a (iA_get v1 hk) _ Yba.underlying2 rfl ?_)
          | (refine wpList_store_cell rfl 2 (.tmp 92) _ rfl b6 k (.int .i64 (v1 k)) rfl rfl rfl 26 _ r6a (by rw [iA_size]; omega) size2 ?_; intro w11 F11 r611 s11))
            obtain ⟨m0', z', R'⟩ := R8.step K9 F10 r410 F11 r611
            go_roundw
            case rel => exact ⟨j + 1, m0', m1, _, _, _, _, by omega, by go_num, by rw [z'], rfl, R'⟩
            case measure => simp [intOf]; omega
        · go_wp2_with (first
          | (refine wpList_alloc rfl 45 rfl (some 11) rfl _ (stp 0 0 0) (zero45 _) rfl ?_; intro b11 w6 e6 F6 r11 s6)
          | (refine wpList_store_arr rfl 45 (.tmp 11) _ rfl b11 (stp op k s) rfl rfl 45 _ r11 size45 rfl (stp_one op k s) ?_; intro w7 F7 r11' s7; have gx : w.heap.size ≤ b11 := (by (have := e6.out; have := R.fr.size; omega)); have R7 := (R.keep F6).beside r11 gx F7)
          | (refine wpList_load_cell rfl 5 _ rfl (some 27) rfl b11 1 (.int .u8 k) rfl 45 _ _ r11' rfl _ Yba.underlying5 rfl ?_)
          | (refine wpList_load_cell rfl 5 _ rfl (some 29) rfl b11 0 (.int .u8 op) rfl 45 _ _ r11' rfl _ Yba.underlying5 rfl ?_)
          | (go_at_call 9; refine (id_any k _).mono ?_; rintro e w8 ⟨rfl, F8⟩; have R8 := R7.keep F8)
          | (go_at_call 10; refine (size_now g m0 m1 j j k p0 p1 v0 v1 _ R8.rg R8.M0 R8.M1 hk hp).mono ?_; rintro e w9 ⟨rfl, F9, rg9⟩; have R9 := R8.same F9 rg9; have c69 : w9.cell? ⟨b6, k, none⟩ = some (.int .i64 (v0 k)) := ((cell_of_row w9 b6 k _ _ _ R9.r6).trans (iA_get v0 hk)))
          | (refine wpList_load_cell rfl 4 _ rfl (some 64) rfl b4 k (.bool true) rfl 25 _ _ R9.r4 (by rw [bA_get p0 hk, hp]) _ Yba.underlying4 rfl ?_))
          go_roundw
          case rel => exact ⟨j + 1, m0, m1, _, _, _, _, by omega, by go_num, rfl, rfl, R9.mono (by omega)⟩
          case measure => simp [intOf]; omega
      · go_wp2_with (first
          | (refine wpList_alloc rfl 45 rfl (some 11) rfl _ (stp 0 0 0) (zero45 _) rfl ?_; intro b11 w6 e6 F6 r11 s6)
          | (refine wpList_store_arr rfl 45 (.tmp 11) _ rfl b11 (stp op k s) rfl rfl 45 _ r11 size45 rfl (stp_one op k s) ?_; intro w7 F7 r11' s7; have gx : w.heap.size ≤ b11 := (by (have := e6.out; have := R.fr.size; omega)); have R7 := (R.keep F6).beside r11 gx F7)
          | (refine wpList_load_cell rfl 5 _ rfl (some 27) rfl b11 1 (.int .u8 k) rfl 45 _ _ r11' rfl _ Yba.underlying5 rfl ?_)
          | (refine wpList_load_cell rfl 5 _ rfl (some 29) rfl b11 0 (.int .u8 op) rfl 45 _ _ r11' rfl _ Yba.underlying5 rfl ?_)
          | (go_at_call 6; refine (age_any g m0 m1 _ R7.rg).mono ?_; rintro e w8 ⟨rfl, F8, rg8, s8⟩; have r48 := F8.get R7.r4 (by simp [ne_type R7.r4 R7.rg (by decide)]); have r58 := F8.get R7.r5 (by simp [ne_type R7.r5 R7.rg (by decide)]); have r68 := F8.get R7.r6 (by simp [ne_type R7.r6 R7.rg (by decide)]); have r78 := F8.get R7.r7 (by simp [ne_type R7.r7 R7.rg (by decide)]))
          | (refine wpList_load_arr rfl 25 _ rfl (some 34) rfl b4 rfl 25 (bA p0) _ r48 _ Yba.underlying25 rfl (by rw [size25, bA_size]) ?_)
          | (refine wpList_store_arr rfl 25 (.tmp 5) _ rfl b5 (bA p0) rfl rfl 25 _ r58 (by rw [size25, bA_size]) (by rw [bA_size, bA_size]) (bA_one _) ?_; intro w9 F9 r59 s9; have r69 := F9.get r68 (by simp [ne_type r68 r58 (by decide)]); have r79 := F9.get r78 (by simp [ne_type r78 r58 (by decide)]); have r49 := F9.get r48 (by simp [R7.n45]))
          | (refine wpList_load_arr rfl 26 _ rfl (some 35) rfl b6 rfl 26 (iA v0) _ r69 _ Yba.underlying26 rfl (by rw [size26, iA_size]) ?_)
          | (refine wpList_store_arr rfl 26 (.tmp 7) _ rfl b7 (iA v0) rfl rfl 26 _ r79 (by rw [size26, iA_size]) (by rw [iA_size, iA_size]) (iA_one _) ?_; intro w10 F10 r710 s10; have r6a := F10.get r69 (by simp [R7.n67]); have r4a := F10.get r49 (by simp [ne_type r49 r79 (by decide)]))
          | (refine wpList_build0 rfl 25 rfl (some 37) rfl _ (build25 _) ?_)
          | (refine wpList_store_arr rfl 25 (.tmp 4) _ rfl b4 (bA fun _ => false) rfl rfl 25 _ r4a (by rw [size25, bA_size]) (by rw [bA_size, bA_size]) (bA_one _) ?_; intro w11 F11 r411 s11; have r6b := F11.get r6a (by simp [ne_type r6a r4a (by decide)]))
          | (refine wpList_build0 rfl 26 rfl (some 38) rfl _ (build26 _) ?_)
          | (refine wpList_store_arr rfl 26 (.tmp 6) _ rfl b6 (iA fun _ => 0) rfl rfl 26 _ r6b (by rw [size26, iA_size]) (by rw [iA_size, iA_size]) (iA_one _) ?_; intro w12 F12 r612 s12))
        have R' := R7.aged F8 rg8 F9 r59 F10 r710 F11 r411 F12 r612
        go_roundw
        case rel => exact ⟨j + 1, none, m0, _, _, _, _, by omega, by go_num, rfl, rfl, R'.mono (by omega)⟩
        case measure => simp [intOf]; omega
    · have heq0 := fun w => run_eql_map_nil (P := Yba.prog) w 24 48 2 m0 Yba.underlying24
      have heq1 := fun w => run_eql_map_nil (P := Yba.prog) w 24 48 2 m1 Yba.underlying24
      have c3 := rfs_cell3 R.rg
      have c2 := rfs_cell2 R.rg
      go_wp2_with fail
      refine (matches_any m0 j b4 b6 p0 v0 _ R.M0 R.r4 R.r6).mono ?_
      rintro e w6 ⟨rfl, F6⟩
      have R6 := R.keep F6
      have c3' := rfs_cell3 R6.rg
      go_wp2_with fail
      refine (matches_any m1 j b5 b7 p1 v1 _ R6.M1 R6.r5 R6.r7).mono ?_
      rintro e w7 ⟨rfl, F7⟩
      go_wp2_with fail
      go_ret
      exact ⟨rfl, R6.fr.trans0 F7⟩
end Go.Proofs.Ybulkdurm
