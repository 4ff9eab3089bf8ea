import Derived.Test.YbulkdusaMainC
namespace Go.Proofs.Ybulkdusa
open Go.RowKit Base

set_option maxHeartbeats 40000000 in
set_option maxRecDepth 100000 in
theorem main_near (a0 : Option Addr) (l0 c0 : Nat) (h0 h : Int) (w : World) (hst : Steps w a0 l0) (hl : l0 ≤ 4096) :
    Calls Yba.prog 3 #[.int .u64 h0, .slice a0 l0 c0, .int .u64 h] w fun e w' => e = .returned (.bool true) ∧ Fr [] w w' := by
  go_enter Yba.func3, Yba.ntmps3
  go_wp2_with (first
    | (refine wpList_makeMap rfl 25 rfl (some 35) rfl ?_; intro bd w1 e1 F1 r1 s1)
    | (refine wpList_makeMap rfl 26 rfl (some 36) rfl ?_; intro ba w2 e2 F2 r2 s2)
    | (refine wpList_do rfl (some 38) rfl _ _ (exec_build (parts := [(14, .tmp 35), (15, .tmp 36), (16, .tmp 37)]) (vs := [(14, .map (some bd)), (15, .map (some ba)), (16, .int .u64 h0)]) rfl rfl (build52 bd ba h0 _)) ?_)
    | (refine wpList_box rfl 52 _ rfl (some 39) rfl _ (stRow 0 0 bd ba h0) rfl rfl ?_; intro g w3 e3 F3 r3 s3))
  have H0 : B1 w w3 g bd ba 0 h0 := b1_start e1.out s1.out F1 r1 e2.out s2.out F2 r2 e3.out F3 r3
  clear e1 s1 F1 r1 e2 s2 F2 r2 e3 s3 F3 r3
  go_loopw [8] (fun i wr => ∃ j : Nat, j ≤ l0 ∧ i = .int .i64 j ∧ B1 w wr g bd ba j h0) (fun i _ => l0 - (intOf i).toNat)
  case atStart => exact ⟨0, by omega, rfl, H0⟩
  case round =>
    obtain ⟨j, hj, rfl, f, T, B, ag, S, F0, ho⟩ := hrel
    clear H0
    by_cases hlt : j < l0
    · obtain ⟨sb, so, rfl, hstp⟩ := hst.resolve_left (by omega)
      obtain ⟨k, t, d, v, hk, hv0, hv1, c0', c1', c2', c3'⟩ := hstp j hlt
      have q0 := F0.cell c0' (by simp)
      have q1 := F0.cell c1' (by simp)
      have q2 := F0.cell c2' (by simp)
      have q3 := F0.cell c3' (by simp)
      clear hstp hst c0' c1' c2' c3'
      have hjm : j < maxLen := by unfold maxLen; omega
      have hN : j + 1 ≤ 1000000 := by omega
      have hk4 : k % 4 < 4 := by omega
      cases d
      · as_aux_lemma =>
          go_wp2_with (first
            | (refine wpList_alloc rfl 54 rfl (some 9) rfl _ (stp 0 0 false 0) (zero54 _) rfl ?_; intro b9 w4 e4 F4 r9 s4)
            | (refine wpList_store_arr rfl 54 (.tmp 9) _ rfl b9 (stp k t false v) rfl rfl 54 _ r9 size54 rfl (stp_one k t false v) ?_; intro w5 F5 r95 s5)
            | (refine wpList_load_cell rfl 4 _ rfl (some 51) rfl b9 2 (.bool false) rfl 54 _ (0, 0) r95 rfl _ Yba.underlying4 rfl ?_)
            | (refine wpList_load_cell rfl 5 _ rfl (some 54) rfl b9 3 (.int .u8 v) rfl 54 _ (0, 0) r95 rfl _ Yba.underlying5 rfl ?_)
            | (refine wpList_buildSlice rfl (some 55) rfl 55 1 [(0, .tmp 54)] rfl [(0, .int .u8 v)] rfl _ 5 (buildS55 v) ?_; intro bv w6 e6 F6 rv s6; replace r95 := F6.get r95 (by simp)))
          have F45 : Fr [] wr w5 := F4.trans F5 (fun x hx => by simp at hx; subst hx; exact .inr (Nat.le_of_eq e4.out.symm))
          have FA := (F45.trans0 F6).trans0 (Fr.drew w6)
          have hok : OKv w6.drew (.slice (some ⟨bv, 0, none⟩) 1 1) := .inr ⟨bv, v, rfl, rv, hv0, hv1⟩
          have SA := S.keep0 FA
          refine any_begin (fun w' => w'.heap[b9]? = some (.cells (stp k t false v) 54)) (by kernel_rfl) r95 ?_
          refine any_take 0 rfl (some 56) rfl (by kernel_rfl) (by kernel_rfl) (by kernel_rfl) rfl (.pointer (some ⟨g, 0, none⟩)) (fun _ _ _ h => h) (fun _ _ => rfl) r95 ?_
          simp only [Act.put, List.setIfInBounds_toArray, List.set_cons_zero, List.set_cons_succ]
          refine any_take 1 rfl (some 57) rfl (by kernel_rfl) (by kernel_rfl) (by kernel_rfl) rfl (.pointer (some ⟨b9, 1, none⟩)) (fun _ _ _ h => h) (fun _ _ => by kernel_rfl) r95 ?_
          simp only [Act.put, List.setIfInBounds_toArray, List.set_cons_zero, List.set_cons_succ]
          refine any_take 2 rfl (some 58) rfl (by kernel_rfl) (by kernel_rfl) (by kernel_rfl) rfl (.int .u64 t) (fun _ _ _ h => h) (fun w h => exec_load_cell (ad := ⟨b9, 1, none⟩) rfl rfl (by rw [cell_of_row w b9 1 _ 54 _ h]; rfl) Yba.underlying22 rfl) r95 ?_
          simp only [Act.put, List.setIfInBounds_toArray, List.set_cons_zero, List.set_cons_succ]
          refine any_take 3 rfl (some 59) rfl (by kernel_rfl) (by kernel_rfl) (by kernel_rfl) rfl (.pointer (some ⟨b9, 0, none⟩)) (fun _ _ _ h => h) (fun _ _ => by kernel_rfl) r95 ?_
          simp only [Act.put, List.setIfInBounds_toArray, List.set_cons_zero, List.set_cons_succ]
          refine any_take 4 rfl (some 60) rfl (by kernel_rfl) (by kernel_rfl) (by kernel_rfl) rfl (.int .u8 k) (fun _ _ _ h => h) (fun w h => exec_load_cell (ad := ⟨b9, 0, none⟩) rfl rfl (by rw [cell_of_row w b9 0 _ 54 _ h]; rfl) Yba.underlying5 rfl) r95 ?_
          simp only [Act.put, List.setIfInBounds_toArray, List.set_cons_zero, List.set_cons_succ]
          refine any_take 6 rfl (some 62) rfl (by kernel_rfl) (by kernel_rfl) (by kernel_rfl) rfl (.slice (some ⟨bv, 0, none⟩) 1 1) (fun _ _ _ h => h) (fun _ _ => rfl) r95 ?_
          simp only [Act.put, List.setIfInBounds_toArray, List.set_cons_zero, List.set_cons_succ]
          refine any_take 7 rfl (some 63) rfl (by kernel_rfl) (by kernel_rfl) (by kernel_rfl) rfl (.pointer (some ⟨b9, 2, none⟩)) (fun _ _ _ h => h) (fun _ _ => by kernel_rfl) r95 ?_
          simp only [Act.put, List.setIfInBounds_toArray, List.set_cons_zero, List.set_cons_succ]
          refine any_take 8 rfl (some 64) rfl (by kernel_rfl) (by kernel_rfl) (by kernel_rfl) rfl (.bool false) (fun _ _ _ h => h) (fun w h => exec_load_cell (ad := ⟨b9, 2, none⟩) rfl rfl (by rw [cell_of_row w b9 2 _ 54 _ h]; rfl) Yba.underlying4 rfl) r95 ?_
          simp only [Act.put, List.setIfInBounds_toArray, List.set_cons_zero, List.set_cons_succ]
          refine any_call 5 rfl (by kernel_rfl) rfl (some 61) rfl 5 _ _ rfl _ Yba.func5 (by kernel_rfl) (by kernel_rfl) [.int .u8 k] rfl ((key_any k hk _).mono ?_)
          rintro e w7 ⟨rfl, rfl⟩
          refine ⟨_, rfl, r95, ?_⟩
          simp only [Act.put, List.setIfInBounds_toArray, List.set_cons_zero, List.set_cons_succ]
          refine any_take 9 rfl (some 65) rfl (by kernel_rfl) (by kernel_rfl) (by kernel_rfl) rfl (.agg #[.string (keyS (k % 4)), (.slice (some ⟨bv, 0, none⟩) 1 1), .bool false]) (fun _ _ _ h => h) (fun w _ => exec_build (parts := [(0, .tmp 61), (1, .tmp 62), (2, .tmp 64)]) (vs := [(0, .string (keyS (k % 4))), (1, (.slice (some ⟨bv, 0, none⟩) 1 1)), (2, .bool false)]) rfl rfl (build59 hok (k % 4) false w)) r95 ?_
          simp only [Act.put, List.setIfInBounds_toArray, List.set_cons_zero, List.set_cons_succ]
          refine any_buildSlice 10 rfl (by kernel_rfl) rfl (some 66) rfl 71 1 [(0, .tmp 65)] rfl [(0, .agg #[.string (keyS (k % 4)), (.slice (some ⟨bv, 0, none⟩) 1 1), .bool false])] rfl _ 59 (buildS71 hok (k % 4) false) ?_
          intro bw w8 e8 F8 r8 s8
          have r98 := F8.get r95 (by simp)
          refine ⟨r98, ?_⟩
          simp only [Act.put, List.setIfInBounds_toArray, List.set_cons_zero, List.set_cons_succ]
          have S8 := SA.keep0 F8
          refine any_call 11 rfl (by kernel_rfl) rfl (some 67) rfl 4 _ _ rfl _ Yba.func4 (by kernel_rfl) (by kernel_rfl) [.pointer (some ⟨g, 0, none⟩), .int .u64 t, .slice (some ⟨bw, 0, none⟩) 1 1] rfl ((apply_any t bw (k % 4) (.slice (some ⟨bv, 0, none⟩) 1 1) false S8 hk4 hjm hN r8 (hok.keep F8 (by simp))).mono ?_)
          rintro e w9 ⟨rfl, F9, hS9⟩
          have r99 := F9.get r98 (fun hm => S8.no5 b9 hm _ _ (by decide) (by decide) r98)
          have H9 : B1 w w9 g bd ba (j + 1) h0 := B1.next (F0.trans0 (FA.trans0 F8)) ho F9 hS9
          refine ⟨_, rfl, r99, ?_⟩
          simp only [Act.put, List.setIfInBounds_toArray, List.set_cons_zero, List.set_cons_succ]
          refine any_done (by kernel_rfl) ?_
          clear S S8 SA hok FA F45 F4 F5 F8 F9 hS9
          go_wp2
          go_roundw
          case rel => exact ⟨j + 1, by omega, by go_num, H9⟩
          case measure => simp [intOf]; omega
      · as_aux_lemma =>
          go_wp2_with (first
            | (refine wpList_alloc rfl 54 rfl (some 9) rfl _ (stp 0 0 false 0) (zero54 _) rfl ?_; intro b9 w4 e4 F4 r9 s4)
            | (refine wpList_store_arr rfl 54 (.tmp 9) _ rfl b9 (stp k t true v) rfl rfl 54 _ r9 size54 rfl (stp_one k t true v) ?_; intro w5 F5 r95 s5)
            | (refine wpList_load_cell rfl 4 _ rfl (some 51) rfl b9 2 (.bool true) rfl 54 _ (0, 0) r95 rfl _ Yba.underlying4 rfl ?_))
          have F45 : Fr [] wr w5 := F4.trans F5 (fun x hx => by simp at hx; subst hx; exact .inr (Nat.le_of_eq e4.out.symm))
          have FA := F45.trans0 (Fr.drew w5)
          have hok : OKv w5.drew (.slice none 0 0) := .inl rfl
          have SA := S.keep0 FA
          refine any_begin (fun w' => w'.heap[b9]? = some (.cells (stp k t true v) 54)) (by kernel_rfl) r95 ?_
          refine any_take 0 rfl (some 56) rfl (by kernel_rfl) (by kernel_rfl) (by kernel_rfl) rfl (.pointer (some ⟨g, 0, none⟩)) (fun _ _ _ h => h) (fun _ _ => rfl) r95 ?_
          simp only [Act.put, List.setIfInBounds_toArray, List.set_cons_zero, List.set_cons_succ]
          refine any_take 1 rfl (some 57) rfl (by kernel_rfl) (by kernel_rfl) (by kernel_rfl) rfl (.pointer (some ⟨b9, 1, none⟩)) (fun _ _ _ h => h) (fun _ _ => by kernel_rfl) r95 ?_
          simp only [Act.put, List.setIfInBounds_toArray, List.set_cons_zero, List.set_cons_succ]
          refine any_take 2 rfl (some 58) rfl (by kernel_rfl) (by kernel_rfl) (by kernel_rfl) rfl (.int .u64 t) (fun _ _ _ h => h) (fun w h => exec_load_cell (ad := ⟨b9, 1, none⟩) rfl rfl (by rw [cell_of_row w b9 1 _ 54 _ h]; rfl) Yba.underlying22 rfl) r95 ?_
          simp only [Act.put, List.setIfInBounds_toArray, List.set_cons_zero, List.set_cons_succ]
          refine any_take 3 rfl (some 59) rfl (by kernel_rfl) (by kernel_rfl) (by kernel_rfl) rfl (.pointer (some ⟨b9, 0, none⟩)) (fun _ _ _ h => h) (fun _ _ => by kernel_rfl) r95 ?_
          simp only [Act.put, List.setIfInBounds_toArray, List.set_cons_zero, List.set_cons_succ]
          refine any_take 4 rfl (some 60) rfl (by kernel_rfl) (by kernel_rfl) (by kernel_rfl) rfl (.int .u8 k) (fun _ _ _ h => h) (fun w h => exec_load_cell (ad := ⟨b9, 0, none⟩) rfl rfl (by rw [cell_of_row w b9 0 _ 54 _ h]; rfl) Yba.underlying5 rfl) r95 ?_
          simp only [Act.put, List.setIfInBounds_toArray, List.set_cons_zero, List.set_cons_succ]
          refine any_take 6 rfl (some 62) rfl (by kernel_rfl) (by kernel_rfl) (by kernel_rfl) rfl (.slice none 0 0) (fun _ _ _ h => h) (fun _ _ => rfl) r95 ?_
          simp only [Act.put, List.setIfInBounds_toArray, List.set_cons_zero, List.set_cons_succ]
          refine any_take 7 rfl (some 63) rfl (by kernel_rfl) (by kernel_rfl) (by kernel_rfl) rfl (.pointer (some ⟨b9, 2, none⟩)) (fun _ _ _ h => h) (fun _ _ => by kernel_rfl) r95 ?_
          simp only [Act.put, List.setIfInBounds_toArray, List.set_cons_zero, List.set_cons_succ]
          refine any_take 8 rfl (some 64) rfl (by kernel_rfl) (by kernel_rfl) (by kernel_rfl) rfl (.bool true) (fun _ _ _ h => h) (fun w h => exec_load_cell (ad := ⟨b9, 2, none⟩) rfl rfl (by rw [cell_of_row w b9 2 _ 54 _ h]; rfl) Yba.underlying4 rfl) r95 ?_
          simp only [Act.put, List.setIfInBounds_toArray, List.set_cons_zero, List.set_cons_succ]
          refine any_call 5 rfl (by kernel_rfl) rfl (some 61) rfl 5 _ _ rfl _ Yba.func5 (by kernel_rfl) (by kernel_rfl) [.int .u8 k] rfl ((key_any k hk _).mono ?_)
          rintro e w7 ⟨rfl, rfl⟩
          refine ⟨_, rfl, r95, ?_⟩
          simp only [Act.put, List.setIfInBounds_toArray, List.set_cons_zero, List.set_cons_succ]
          refine any_take 9 rfl (some 65) rfl (by kernel_rfl) (by kernel_rfl) (by kernel_rfl) rfl (.agg #[.string (keyS (k % 4)), (.slice none 0 0), .bool true]) (fun _ _ _ h => h) (fun w _ => exec_build (parts := [(0, .tmp 61), (1, .tmp 62), (2, .tmp 64)]) (vs := [(0, .string (keyS (k % 4))), (1, (.slice none 0 0)), (2, .bool true)]) rfl rfl (build59 hok (k % 4) true w)) r95 ?_
          simp only [Act.put, List.setIfInBounds_toArray, List.set_cons_zero, List.set_cons_succ]
          refine any_buildSlice 10 rfl (by kernel_rfl) rfl (some 66) rfl 71 1 [(0, .tmp 65)] rfl [(0, .agg #[.string (keyS (k % 4)), (.slice none 0 0), .bool true])] rfl _ 59 (buildS71 hok (k % 4) true) ?_
          intro bw w8 e8 F8 r8 s8
          have r98 := F8.get r95 (by simp)
          refine ⟨r98, ?_⟩
          simp only [Act.put, List.setIfInBounds_toArray, List.set_cons_zero, List.set_cons_succ]
          have S8 := SA.keep0 F8
          refine any_call 11 rfl (by kernel_rfl) rfl (some 67) rfl 4 _ _ rfl _ Yba.func4 (by kernel_rfl) (by kernel_rfl) [.pointer (some ⟨g, 0, none⟩), .int .u64 t, .slice (some ⟨bw, 0, none⟩) 1 1] rfl ((apply_any t bw (k % 4) (.slice none 0 0) true S8 hk4 hjm hN r8 (hok.keep F8 (by simp))).mono ?_)
          rintro e w9 ⟨rfl, F9, hS9⟩
          have r99 := F9.get r98 (fun hm => S8.no5 b9 hm _ _ (by decide) (by decide) r98)
          have H9 : B1 w w9 g bd ba (j + 1) h0 := B1.next (F0.trans0 (FA.trans0 F8)) ho F9 hS9
          refine ⟨_, rfl, r99, ?_⟩
          simp only [Act.put, List.setIfInBounds_toArray, List.set_cons_zero, List.set_cons_succ]
          refine any_done (by kernel_rfl) ?_
          clear S S8 SA hok FA F45 F4 F5 F8 F9 hS9
          go_wp2
          go_roundw
          case rel => exact ⟨j + 1, by omega, by go_num, H9⟩
          case measure => simp [intOf]; omega
    · have hN : j ≤ 1000000 := by omega
      have hjm : j + 4 < maxLen := by unfold maxLen; omega
      clear hst
      go_wp2_with (first
        | (refine wpList_alloc rfl 61 rfl (some 11) rfl _ (vA fun _ => .slice none 0 0) (zero61 _) rfl ?_; intro b1 w4 e4 F4 r1 s4)
        | (refine wpList_alloc rfl 62 rfl (some 12) rfl _ (pA fun _ => false) (zero62 _) rfl ?_; intro b2 w5 e5 F5 r2 s5; replace r1 := F5.get r1 (by simp))
        | (refine wpList_alloc rfl 62 rfl (some 13) rfl _ (pA fun _ => false) (zero62 _) rfl ?_; intro b3 w6 e6 F6 r3 s6; replace r1 := F6.get r1 (by simp); replace r2 := F6.get r2 (by simp)))
      have R0 : L2 w w6 g bd ba j j h0 f T B ag b1 b2 b3 0 (fun _ => .slice none 0 0) (fun _ => false) (fun _ => false) := by
        have q4 := e4.out
        have q5 := e5.out
        have q6 := e6.out
        have t4 := s4.out
        have t5 := s5.out
        have z0 := F0.size
        exact ⟨((S.keep0 F4).keep0 F5).keep0 F6, ((F0.trans0 F4).trans0 F5).trans0 F6, ho, r1, r2, r3, by omega, by omega, by omega, by omega, fun c hc => absurd hc (by omega), fun c hc => absurd hc (by omega), fun c hc => absurd hc (by omega)⟩
      clear e4 e5 e6 s4 s5 s6 F4 F5 F6 r1 r2 r3 S F0 ho
      obtain ⟨wo, rfl⟩ : ∃ wo : World, wo = wr := ⟨_, rfl⟩
      go_loopw [14] (fun i wr => ∃ (c : Nat) (F : Nat → Value) (p q : Nat → Bool), c ≤ 4 ∧ i = .int .i64 c ∧ L2 w wr g bd ba j j h0 f T B ag b1 b2 b3 c F p q) (fun i _ => 4 - (intOf i).toNat)
      case atStart => exact ⟨0, _, _, _, by omega, rfl, R0⟩
      case round =>
        obtain ⟨c, F, p, q, hc4, rfl, R⟩ := hrel
        clear R0
        by_cases hc : c < 4
        · have hcv := conv35 hc
          have hlk := (R.st.md.look (T := 25) (E := 60) Yba.underlying25 (zero60 wr) (zd := _) rfl hc).1
          rw [R.st.isSome hc] at hlk
          have rg := R.st.rg
          have r2 := R.r2
          generalize hpe : (!(T c).isEmpty) = pe at hlk
          replace hpe : Hid ((!(T c).isEmpty) = pe) := hpe
          have hci : (c : Int) < 4 := by omega
          go_wp2_with (first
            | (go_at_call 5; refine (key4 hc _).mono ?_; rintro e w7 ⟨rfl, rfl⟩)
            | (refine wpList_load_cell rfl 25 _ rfl (some 79) rfl g 21 (.map (some bd)) rfl 52 _ (0, 0) rg rfl _ Yba.underlying25 rfl ?_)
            | (refine wpList_do rfl (some 81) rfl _ _ (exec_lookup rfl rfl rfl hlk) ?_)
            | (refine wpList_store_cell rfl 4 (.tmp 86) _ rfl b2 c (.bool pe) rfl rfl rfl 62 _ r2 (by simp [pA]; omega) size4 ?_; intro w8 F8 r28 s8; rw [pA_set _ hc] at r28; have S8 := R.st.keep1 F8 r2 (by decide) (by decide) (by decide))
            | (go_at_call 6; refine (clone_any S8 hc hN).mono ?_; rintro e w9 ⟨v', rfl, hcl, F9⟩; have S9 := S8.keep0 F9; have r19 := F9.get (F8.get R.r1 (by simp; exact ne_type R.r1 r2 (by decide))) (by simp); have hv1 := hcl.one)
            | (refine wpList_store_cell rfl 60 (.tmp 90) _ rfl b1 c v' rfl rfl hv1 61 _ r19 (by simp [vA]; omega) size60 ?_; intro w10 F10 r110 s10; rw [vA_set _ hc] at r110; have S10 := S9.keep1 F10 r19 (by decide) (by decide) (by decide); have rg10 := S10.rg; have hlk2 := (S10.ma.look (T := 26) (E := 4) Yba.underlying26 (zero4 w10) (zd := _) rfl hc).2; rw [(St.agVal ag c).1] at hlk2; have r310 := F10.get (F9.get (F8.get R.r3 (by simp [R.n23.symm])) (by simp)) (by simp; exact ne_type R.r3 R.r1 (by decide)))
            | (refine wpList_load_cell rfl 26 _ rfl (some 95) rfl g 22 (.map (some ba)) rfl 52 _ (0, 0) rg10 rfl _ Yba.underlying26 rfl ?_)
            | (refine wpList_do rfl (some 97) rfl _ _ (exec_lookup rfl rfl rfl hlk2) ?_)
            | (refine wpList_store_cell rfl 4 (.tmp 98) _ rfl b3 c (.bool (ag c)) rfl rfl rfl 62 _ r310 (by simp [pA]; omega) size4 ?_; intro w11 F11 r311 s11; rw [pA_set _ hc] at r311; rw [← hpe.out] at r28; have R' := R.step F8 r28 F9 hcl F10 r110 F11 r311))
          go_roundw
          case rel => first | exact ⟨c + 1, _, _, _, by omega, by go_num, R'⟩ | ((repeat apply Exists.intro); exact ⟨⟨c + 1, _, _, _, by omega, by go_num, R'⟩, rfl⟩)
          case measure => simp [intOf]; omega
        · by_cases hh : h ≤ h0
          · go_wp2_with (first
              | (go_at_call 7; refine (raise_no h R.st hh).mono ?_; rintro e w7 ⟨rfl, F7, S7⟩; have R7 := R.raised (by omega) F7 S7; have rg7 := S7.rg)
              | (refine wpList_load_cell rfl 27 _ rfl (some 115) rfl g 23 (.int .u64 h0) rfl 52 _ (0, 0) rg7 rfl _ Yba.underlying27 rfl ?_))
            clear R S7 F7 rg7
            have e18 : decide (h0 < h) = false := by simp; omega
            try simp only [e18]
            clear e18
            obtain ⟨wq, rfl⟩ : ∃ wq : World, wq = wr := ⟨_, rfl⟩
            go_loopw [19, 20, 21] (fun s19 s20 s21 wr => ∃ c : Nat, c ≤ 4 ∧ s21 = .int .i64 c ∧ s19 = .int .i64 (cP (fun x => !(T x).isEmpty) c) ∧ s20 = .int .i64 (cP ag c) ∧ L3 w wr g bd ba j j h0 f T B ag b1 b2 b3 F p q (own g bd ba T B) T ag) (fun _ _ s21 _ => 4 - (intOf s21).toNat)
            case atStart => exact ⟨0, by omega, rfl, rfl, rfl, R7⟩
            case round =>
              obtain ⟨c, hc4, rfl, rfl, rfl, R⟩ := hrel
              clear R7
              by_cases hc : c < 4
              · as_aux_lemma =>
                  have hcv := conv35 hc
                  have hci : (c : Int) < 4 := by omega
                  have g1 : (vA F)[c]? = some (F c) := vA_get F hc
                  have g2 : (pA p)[c]? = some (.bool (p c)) := pA_get p hc
                  have g3 : (pA q)[c]? = some (.bool (q c)) := pA_get q hc
                  have hcl := R.clo c hc
                  have hpe := R.hp c hc
                  have hav := R.hq c hc
                  have c3 : wr.cell? ⟨b3, c, none⟩ = some (.bool (q c)) := by rw [cell_of_row wr b3 c _ 62 _ R.r3]; exact g3
                  generalize F c = fv at g1 hcl
                  generalize p c = pe at g2 hpe
                  generalize q c = av at g3 hav c3
                  replace hpe : Hid (pe = !(T c).isEmpty) := hpe
                  replace hav : Hid (av = ag c) := hav
                  have r1 := R.r1
                  have r2 := R.r2
                  have r3 := R.r3
                  go_upto_if 139 with (go_big_may; first
                    | (go_at_call 5; refine (key4 hc _).mono ?_; rintro e w8 ⟨rfl, rfl⟩)
                    | (refine wpList_load_cell rfl 60 _ rfl (some 127) rfl b1 c fv rfl 61 _ (0, 0) r1 g1 _ Yba.underlying60 rfl ?_)
                    | (refine wpList_load_cell rfl 4 _ rfl (some 130) rfl b2 c (.bool pe) rfl 62 _ (0, 0) r2 g2 _ Yba.underlying4 rfl ?_)
                    | (refine wpList_load_cell rfl 4 _ rfl (some 133) rfl b3 c (.bool av) rfl 62 _ (0, 0) r3 g3 _ Yba.underlying4 rfl ?_))
                  go_cut [23, 24, 25] from 118 to 222 (fun s23 s24 s25 wr => s24 = .bool (!(T c).isEmpty) ∧ s25 = .bool (ag c) ∧ Want wr s23 (T c) ∧ L3 w wr g bd ba j j h0 f T B ag b1 b2 b3 F p q (own g bd ba T B) T ag)
                  case first =>
                    as_aux_lemma =>
                      go_wp2
                      go_meet
                      case rel => exact ⟨by rw [hpe.out], by rw [hav.out], hcl.want, R⟩
                  case rest =>
                    as_aux_lemma =>
                      obtain ⟨rfl, rfl, hW, R⟩ := hcut
                      clear r1 r2 r3 g1 g2 g3 c3 hcl hpe hav
                      have hlk1 := (R.st.md.look (T := 25) (E := 60) Yba.underlying25 (zero60 wc) (zd := _) rfl hc).1
                      rw [R.st.isSome hc] at hlk1
                      have rg := R.st.rg
                      by_cases hne : T c = []
                      · have hag : ag c = false := by
                          cases h' : ag c with
                          | false => rfl
                          | true => exact absurd hne (R.st.aged c hc h')
                        have rg9 := rg
                        have hlk2 := (R.st.ma.look (T := 26) (E := 4) Yba.underlying26 (zero4 wc) (zd := _) rfl hc).1
                        rw [(St.agVal ag c).1, (St.agVal ag c).2, hag] at hlk2
                        have hem := emp_true hne
                        rw [hem] at hlk1
                        rw [hem, hag]
                        go_wp2_with (first
                          | (refine wpList_load_cell rfl 25 _ rfl (some 186) rfl g 21 (.map (some bd)) rfl 52 _ (0, 0) rg rfl _ Yba.underlying25 rfl ?_)
                          | (refine wpList_do rfl (some 188) rfl _ _ (exec_lookup rfl rfl rfl hlk1) ?_)
                          | (refine wpList_load_cell rfl 26 _ rfl (some 205) rfl g 22 (.map (some ba)) rfl 52 _ (0, 0) rg9 rfl _ Yba.underlying26 rfl ?_)
                          | (refine wpList_do rfl (some 207) rfl _ _ (exec_lookup rfl rfl rfl hlk2) ?_))
                        go_roundw
                        case rel => first | exact ⟨c + 1, by omega, by go_num, by rw [cP_false (p := (fun x => !(T x).isEmpty)) hem], by rw [cP_false hag], R⟩ | ((repeat apply Exists.intro); exact ⟨⟨c + 1, by omega, by go_num, by rw [cP_false (p := (fun x => !(T x).isEmpty)) hem], by rw [cP_false hag], R⟩, rfl⟩)
                        case measure => simp [intOf]; omega
                      · obtain ⟨b, o, cap, rfl, hV⟩ := hW hne
                        obtain ⟨o2, cap2, cs2, hf2, -, -, e4, e5⟩ := (R.st.key c hc).one hne
                        rw [hf2] at hlk1
                        simp only [Option.getD_some] at hlk1
                        have hem := emp_false hne
                        rw [hem] at hlk1
                        rw [hem]
                        have hok := (R.st.key c hc).ok
                        have hll : (T c).length ≤ 1000000 := Nat.le_trans (R.st.key c hc).len hN
                        have hw19 : wrap64 (((cP (fun x => !(T x).isEmpty) c : Nat) : Int) + 1) = ((cP (fun x => !(T x).isEmpty) (c + 1) : Nat) : Int) := by
                          have h1 := cP_le (fun x => !(T x).isEmpty) c
                          rw [cP_true (p := (fun x => !(T x).isEmpty)) hem]
                          unfold wrap64
                          omega
                        clear hW hf2
                        cases hag : ag c with
                        | false =>
                          go_wp2_with (first
                            | (refine wpList_load_cell rfl 25 _ rfl (some 186) rfl g 21 (.map (some bd)) rfl 52 _ (0, 0) rg rfl _ Yba.underlying25 rfl ?_)
                            | (refine wpList_do rfl (some 188) rfl _ _ (exec_lookup rfl rfl rfl hlk1) ?_)
                            | (go_at_call 8; refine (eq_some (B c) o2 cap2 b o cap (T c) wc ⟨rfl, cs2, e4, e5⟩ hV hok hll).mono ?_; rintro e w9 ⟨rfl, F9⟩; have R9 := R.keep0 F9; have rg9 := R9.st.rg; have hlk2 := (R9.st.ma.look (T := 26) (E := 4) Yba.underlying26 (zero4 w9) (zd := _) rfl hc).1; rw [(St.agVal ag c).1, (St.agVal ag c).2, hag] at hlk2)
                            | (refine wpList_load_cell rfl 26 _ rfl (some 205) rfl g 22 (.map (some ba)) rfl 52 _ (0, 0) rg9 rfl _ Yba.underlying26 rfl ?_)
                            | (refine wpList_do rfl (some 207) rfl _ _ (exec_lookup rfl rfl rfl hlk2) ?_))
                          go_roundw
                          case rel => first | exact ⟨c + 1, by omega, by go_num, by first | rfl | rw [hw19], by rw [cP_false hag], R9⟩ | ((repeat apply Exists.intro); exact ⟨⟨c + 1, by omega, by go_num, by first | rfl | rw [hw19], by rw [cP_false hag], R9⟩, rfl⟩)
                          case measure => simp [intOf]; omega
                        | true =>
                          have hw20 : wrap64 (((cP ag c : Nat) : Int) + 1) = ((cP ag (c + 1) : Nat) : Int) := by
                            have h1 := cP_le ag c
                            rw [cP_true hag]
                            unfold wrap64
                            omega
                          go_wp2_with (first
                            | (refine wpList_load_cell rfl 25 _ rfl (some 186) rfl g 21 (.map (some bd)) rfl 52 _ (0, 0) rg rfl _ Yba.underlying25 rfl ?_)
                            | (refine wpList_do rfl (some 188) rfl _ _ (exec_lookup rfl rfl rfl hlk1) ?_)
                            | (go_at_call 8; refine (eq_some (B c) o2 cap2 b o cap (T c) wc ⟨rfl, cs2, e4, e5⟩ hV hok hll).mono ?_; rintro e w9 ⟨rfl, F9⟩; have R9 := R.keep0 F9; have rg9 := R9.st.rg; have hlk2 := (R9.st.ma.look (T := 26) (E := 4) Yba.underlying26 (zero4 w9) (zd := _) rfl hc).1; rw [(St.agVal ag c).1, (St.agVal ag c).2, hag] at hlk2)
                            | (refine wpList_load_cell rfl 26 _ rfl (some 205) rfl g 22 (.map (some ba)) rfl 52 _ (0, 0) rg9 rfl _ Yba.underlying26 rfl ?_)
                            | (refine wpList_do rfl (some 207) rfl _ _ (exec_lookup rfl rfl rfl hlk2) ?_))
                          go_roundw
                          case rel => first | exact ⟨c + 1, by omega, by go_num, by first | rfl | rw [hw19], by first | rfl | rw [hw20], R9⟩ | ((repeat apply Exists.intro); exact ⟨⟨c + 1, by omega, by go_num, by first | rfl | rw [hw19], by first | rfl | rw [hw20], R9⟩, rfl⟩)
                          case measure => simp [intOf]; omega
              · as_aux_lemma =>
                  obtain rfl : c = 4 := by omega
                  have rg := R.st.rg
                  have c22 : wr.cell? ⟨g, 22, none⟩ = some (.map (some ba)) := by rw [cell_of_row wr g 22 _ 52 _ rg]; rfl
                  have hl1 := R.st.md.len (T := 25) (E := 60) Yba.underlying25 3
                  have hl2 := R.st.ma.len (T := 26) (E := 4) Yba.underlying26 3
                  rw [cnt_f R.st] at hl1
                  rw [cnt_ag] at hl2
                  go_wp2_with (first
                    | (refine wpList_load_cell rfl 25 _ rfl (some 226) rfl g 21 (.map (some bd)) rfl 52 _ (0, 0) rg rfl _ Yba.underlying25 rfl ?_))
                  go_ret
                  exact ⟨rfl, R.fr⟩
          · have hgt : h0 < h := by omega
            go_wp2_with (first
              | (go_at_call 7; refine (raise_yes h R.st hh hjm hN).mono ?_; rintro e w7 ⟨rfl, F7, f', T', ag', S7, hT⟩; have R7 := R.raised (by omega) F7 S7; have rg7 := S7.rg)
              | (refine wpList_load_cell rfl 27 _ rfl (some 109) rfl g 23 (.int .u64 h) rfl 52 _ (0, 0) rg7 rfl _ Yba.underlying27 rfl ?_))
            clear R S7 F7 rg7
            have e18 : decide (h0 < h) = true := by simp; omega
            try simp only [e18]
            clear e18
            obtain ⟨wq, rfl⟩ : ∃ wq : World, wq = wr := ⟨_, rfl⟩
            go_loopw [19, 20, 21] (fun s19 s20 s21 wr => ∃ c : Nat, c ≤ 4 ∧ s21 = .int .i64 c ∧ s19 = .int .i64 (cP (fun x => !(T' x).isEmpty) c) ∧ s20 = .int .i64 (cP ag' c) ∧ L3 w wr g bd ba (j + 4) j h f' T' B ag' b1 b2 b3 F p q (own g bd ba T B) T ag) (fun _ _ s21 _ => 4 - (intOf s21).toNat)
            case atStart => exact ⟨0, by omega, rfl, rfl, rfl, R7⟩
            case round =>
              obtain ⟨c, hc4, rfl, rfl, rfl, R⟩ := hrel
              clear R7
              by_cases hc : c < 4
              · as_aux_lemma =>
                  have hcv := conv35 hc
                  have hci : (c : Int) < 4 := by omega
                  have g1 : (vA F)[c]? = some (F c) := vA_get F hc
                  have g2 : (pA p)[c]? = some (.bool (p c)) := pA_get p hc
                  have g3 : (pA q)[c]? = some (.bool (q c)) := pA_get q hc
                  have hcl := R.clo c hc
                  have hpe := R.hp c hc
                  have hav := R.hq c hc
                  have c3 : wr.cell? ⟨b3, c, none⟩ = some (.bool (q c)) := by rw [cell_of_row wr b3 c _ 62 _ R.r3]; exact g3
                  generalize F c = fv at g1 hcl
                  generalize p c = pe at g2 hpe
                  generalize q c = av at g3 hav c3
                  replace hpe : Hid (pe = !(T c).isEmpty) := hpe
                  replace hav : Hid (av = ag c) := hav
                  have r1 := R.r1
                  have r2 := R.r2
                  have r3 := R.r3
                  go_upto_if 139 with (go_big_may; first
                    | (go_at_call 5; refine (key4 hc _).mono ?_; rintro e w8 ⟨rfl, rfl⟩)
                    | (refine wpList_load_cell rfl 60 _ rfl (some 127) rfl b1 c fv rfl 61 _ (0, 0) r1 g1 _ Yba.underlying60 rfl ?_)
                    | (refine wpList_load_cell rfl 4 _ rfl (some 130) rfl b2 c (.bool pe) rfl 62 _ (0, 0) r2 g2 _ Yba.underlying4 rfl ?_)
                    | (refine wpList_load_cell rfl 4 _ rfl (some 133) rfl b3 c (.bool av) rfl 62 _ (0, 0) r3 g3 _ Yba.underlying4 rfl ?_))
                  go_cut [23, 24, 25] from 118 to 222 (fun s23 s24 s25 wr => s24 = .bool (!(T' c).isEmpty) ∧ s25 = .bool (ag' c) ∧ Want wr s23 (T' c) ∧ L3 w wr g bd ba (j + 4) j h f' T' B ag' b1 b2 b3 F p q (own g bd ba T B) T ag)
                  case first =>
                    as_aux_lemma =>
                      rename_i J KK hJ hK
                      have hMK : MetK J KK := hK
                      clear hK
                      go_light
                      have hK : ∀ a w, Met J a w → KK a w := hMK
                      clear hMK
                      obtain ⟨hT1, hT2⟩ := hT c hc
                      clear hT
                      cases av with
                      | false =>
                        have hagc : ag c = false := hav.out.symm
                        have e1 : T' c = T c := by rw [hT1]; simp [rT, hagc]
                        have e2 : ag' c = false := by rw [hT2]; simp [rA, hagc]
                        go_wp2
                        go_meet
                        case rel => exact ⟨by rw [hpe.out, e1], by rw [e2], by rw [e1]; exact hcl.want, R⟩
                      | true =>
                        have hagc : ag c = true := hav.out.symm
                        have hne := R.aged c hc hagc
                        have e1 : T' c = (T c).drop (kN h (T c)) := by rw [hT1]; simp [rT, hagc]
                        have e2 : ag' c = agB ((T c).drop (kN h (T c))) := by rw [hT2]; simp [rA, rT, hagc]
                        rcases hcl with ⟨h00, _⟩ | ⟨_, b, o, cap, cs, rfl, hcap, _, rb, hat⟩
                        · exact absurd h00 hne
                        have hsrt := R.srt c hc
                        have hlj := R.len c hc
                        have hpos : 0 < (T c).length := List.length_pos_iff.2 hne
                        clear hT1 hT2 hpe hav hagc hne r1 r2 r3 g1 g2 g3 c3
                        generalize hmL : (T c).length = mL at hlj hpos hcap ⊢
                        replace hmL : Hid ((T c).length = mL) := hmL
                        replace e1 : Hid (T' c = (T c).drop (kN h (T c))) := e1
                        replace e2 : Hid (ag' c = agB ((T c).drop (kN h (T c)))) := e2
                        go_wp2
                        go_loopw [26, 27] (fun s26 s27 wr => ∃ (i : Nat) (x : Int), i ≤ mL ∧ s27 = .int .i64 i ∧ s26 = .int .i64 x ∧ x = ((min i (cle h (T c)) : Nat) : Int) - 1 ∧ wr = w8) (fun _ s27 _ => mL - (intOf s27).toNat)
                        case atStart => exact ⟨0, -1, by omega, rfl, rfl, by simp, rfl⟩
                        case round =>
                          obtain ⟨i, x, hi, rfl, rfl, hx, rfl⟩ := hrel
                          replace hx : Hid (x = ((min i (cle h (T c)) : Nat) : Int) - 1) := hx
                          by_cases hlt : i < mL
                          · have hil : i < (T c).length := by rw [hmL.out]; exact hlt
                            have c150 := (VRow.cells (n := (T c).length) ⟨rfl, cs, rb, hat⟩ hil).1
                            have hiff := cle_iff (h := h) hsrt hil
                            generalize ((T c)[i]).at_ = pp at c150 hiff
                            replace hiff : Hid (pp ≤ h ↔ i < cle h (T c)) := hiff
                            by_cases hle : pp ≤ h
                            · go_wp2
                              go_roundw
                              case rel => exact ⟨i + 1, i, by omega, by go_num, rfl, by have := hiff.out.1 hle; omega, (by first | rfl | trivial)⟩
                              case measure => simp [intOf]; omega
                            · go_wp2
                              go_roundw
                              case rel => exact ⟨i + 1, x, by omega, by go_num, rfl, by have h1 := hx.out; have h2 : ¬ i < cle h (T c) := fun h' => hle (hiff.out.2 h'); omega, (by first | rfl | trivial)⟩
                              case measure => simp [intOf]; omega
                          · have hle := cle_le h (T c)
                            have hxx : x = ((cle h (T c) : Nat) : Int) - 1 := by have h1 := hx.out; have h2 := hmL.out; omega
                            clear hx hsrt
                            replace hlj : Hid (mL ≤ j) := hlj
                            generalize hk : cle h (T c) = kk at hle hxx
                            replace hk : Hid (cle h (T c) = kk) := hk
                            cases kk with
                            | zero =>
                              obtain rfl : x = -1 := by simpa using hxx
                              have hkN : Hid (kN h (T c) = 0) := kN_zero hk.out
                              have hlm : Hid ((List.drop 0 (T c)).length = mL) := hmL
                              have hwt : Want _ (.slice (some ⟨b, o, none⟩) mL cap) (List.drop 0 (T c)) := want_cut rb hat (by rw [hmL.out]; exact hcap) hlm.out (Nat.add_zero cap) (fun _ => rfl) (Nat.zero_le _)
                              clear hxx
                              rcases Nat.lt_or_ge 1 mL with h1 | h1
                              · have h1i : (1 : Int) < (mL : Int) := by omega
                                have ha : Hid (agB (List.drop 0 (T c)) = true) := agB_many (by rw [hlm.out]; exact h1)
                                have hem : Hid ((!(List.drop 0 (T c)).isEmpty) = true) := emp_len (L := (List.drop 0 (T c))) (by rw [hlm.out]; omega)
                                go_wp2
                                go_meet
                                case rel => exact ⟨by rw [e1.out, hkN.out, hem.out], by rw [e2.out, hkN.out, ha.out], by rw [e1.out, hkN.out]; exact hwt, R⟩
                              · obtain rfl : mL = 1 := by omega
                                have h01 : 0 < (List.drop 0 (T c)).length := by rw [hlm.out]; decide
                                have ha := agB_one hlm.out h01
                                have hem : Hid ((!(List.drop 0 (T c)).isEmpty) = true) := emp_len h01
                                cases hdd : ((List.drop 0 (T c))[0]).del with
                                | false =>
                                  rw [hdd] at ha
                                  have c180 := want_cell hwt h01 (d := false) (fun _ => hdd)
                                  clear hdd h01
                                  replace ha : Hid (agB (List.drop 0 (T c)) = false) := ha
                                  go_wp2
                                  go_meet
                                  case rel => exact ⟨by rw [e1.out, hkN.out, hem.out], by rw [e2.out, hkN.out, ha.out], by rw [e1.out, hkN.out]; exact hwt, R⟩
                                | true =>
                                  rw [hdd] at ha
                                  have c180 := want_cell hwt h01 (d := true) (fun _ => hdd)
                                  clear hdd h01
                                  replace ha : Hid (agB (List.drop 0 (T c)) = true) := ha
                                  go_wp2
                                  go_meet
                                  case rel => exact ⟨by rw [e1.out, hkN.out, hem.out], by rw [e2.out, hkN.out, ha.out], by rw [e1.out, hkN.out]; exact hwt, R⟩
                            | succ k =>
                              obtain rfl : x = (k : Int) := by omega
                              have hkl : k < (T c).length := by omega
                              have hkm : k < mL := by rw [← hmL.out]; exact hkl
                              have c161 := (VRow.cells (n := (T c).length) ⟨rfl, cs, rb, hat⟩ hkl).2.2
                              cases hdk : ((T c)[k]).del with
                              | false =>
                                rw [hdk] at c161
                                have hkN : Hid (kN h (T c) = k) := kN_false hk.out hkl hdk
                                rcases Nat.eq_zero_or_pos k with hk0 | hk0
                                · subst hk0
                                  have hlm : Hid ((List.drop 0 (T c)).length = mL) := hmL
                                  have hwt : Want _ (.slice (some ⟨b, o, none⟩) mL cap) (List.drop 0 (T c)) := want_cut rb hat (by rw [hmL.out]; exact hcap) hlm.out (Nat.add_zero cap) (fun _ => rfl) (Nat.zero_le _)
                                  clear hxx
                                  rcases Nat.lt_or_ge 1 mL with h1 | h1
                                  · have h1i : (1 : Int) < (mL : Int) := by omega
                                    have ha : Hid (agB (List.drop 0 (T c)) = true) := agB_many (by rw [hlm.out]; exact h1)
                                    have hem : Hid ((!(List.drop 0 (T c)).isEmpty) = true) := emp_len (L := (List.drop 0 (T c))) (by rw [hlm.out]; omega)
                                    go_wp2
                                    go_meet
                                    case rel => exact ⟨by rw [e1.out, hkN.out, hem.out], by rw [e2.out, hkN.out, ha.out], by rw [e1.out, hkN.out]; exact hwt, R⟩
                                  · obtain rfl : mL = 1 := by omega
                                    have h01 : 0 < (List.drop 0 (T c)).length := by rw [hlm.out]; decide
                                    have ha := agB_one hlm.out h01
                                    have hem : Hid ((!(List.drop 0 (T c)).isEmpty) = true) := emp_len h01
                                    have hd0 : ∀ h, ((List.drop 0 (T c))[0]'h).del = false := (fun _ => hdk)
                                    rw [hd0] at ha
                                    have c180 := want_cell hwt h01 hd0
                                    clear hd0 h01
                                    replace ha : Hid (agB (List.drop 0 (T c)) = false) := ha
                                    go_wp2
                                    go_meet
                                    case rel => exact ⟨by rw [e1.out, hkN.out, hem.out], by rw [e2.out, hkN.out, ha.out], by rw [e1.out, hkN.out]; exact hwt, R⟩
                                · obtain ⟨m, hmd⟩ : ∃ m, Hid (m + k = mL) := ⟨mL - k, show mL - k + k = mL by omega⟩
                                  obtain ⟨c', hcd⟩ : ∃ c', Hid (c' + k = cap) := ⟨cap - k, show cap - k + k = cap by omega⟩
                                  obtain ⟨o', ho', rs⟩ := slice60_from' (b := b) (o := o) (n := mL) (cap := cap) (i := k) (m := m) (c' := c') hmd hcd hcap
                                  have hlm : Hid ((List.drop k (T c)).length = m) := by have h1 := hmd.out; have h2 := hmL.out; show (List.drop k (T c)).length = m; rw [List.length_drop]; omega
                                  have hwt : Want _ (.slice (some ⟨b, o', none⟩) m c') (List.drop k (T c)) := want_cut rb hat (by rw [hmL.out]; exact hcap) hlm.out hcd.out ho' (Nat.le_of_lt hkl)
                                  have hdcap : k ≤ cap := by omega
                                  have hdm : k ≤ mL := by omega
                                  clear ho'
                                  clear hxx
                                  rcases Nat.lt_or_ge 1 m with h1 | h1
                                  · have h1i : (1 : Int) < (m : Int) := by omega
                                    have ha : Hid (agB (List.drop k (T c)) = true) := agB_many (by rw [hlm.out]; exact h1)
                                    have hem : Hid ((!(List.drop k (T c)).isEmpty) = true) := emp_len (L := (List.drop k (T c))) (by rw [hlm.out]; omega)
                                    go_wp2
                                    go_meet
                                    case rel => exact ⟨by rw [e1.out, hkN.out, hem.out], by rw [e2.out, hkN.out, ha.out], by rw [e1.out, hkN.out]; exact hwt, R⟩
                                  · obtain rfl : m = 1 := by have := hmd.out; omega
                                    have h01 : 0 < (List.drop k (T c)).length := by rw [hlm.out]; decide
                                    have ha := agB_one hlm.out h01
                                    have hem : Hid ((!(List.drop k (T c)).isEmpty) = true) := emp_len h01
                                    have hd0 : ∀ h, ((List.drop k (T c))[0]'h).del = false := drop0_del (fun _ => hdk)
                                    rw [hd0] at ha
                                    have c180 := want_cell hwt h01 hd0
                                    clear hd0 h01
                                    replace ha : Hid (agB (List.drop k (T c)) = false) := ha
                                    go_wp2
                                    go_meet
                                    case rel => exact ⟨by rw [e1.out, hkN.out, hem.out], by rw [e2.out, hkN.out, ha.out], by rw [e1.out, hkN.out]; exact hwt, R⟩
                              | true =>
                                rw [hdk] at c161
                                have hkN0 : kN h (T c) = k + 1 := kN_true hk.out hkl hdk
                                obtain ⟨d, hd1⟩ : ∃ d, Hid (d = k + 1) := ⟨k + 1, rfl⟩
                                have hkN : Hid (kN h (T c) = d) := by show kN h (T c) = d; rw [hd1.out]; exact hkN0
                                have hd0' : 0 < d := by rw [hd1.out]; omega
                                have hdL : d ≤ mL := by rw [hd1.out]; omega
                                have hwr : Hid (wrap64 ((k : Int) + 1) = (d : Int)) := wrap_succ hd1.out (Nat.lt_of_lt_of_le hkm (Nat.le_trans hlj.out (Nat.le_trans hN (by decide))))
                                clear hkN0
                                obtain ⟨m, hmd⟩ : ∃ m, Hid (m + d = mL) := ⟨mL - d, show mL - d + d = mL by omega⟩
                                obtain ⟨c', hcd⟩ : ∃ c', Hid (c' + d = cap) := ⟨cap - d, show cap - d + d = cap by omega⟩
                                obtain ⟨o', ho', rs⟩ := slice60_from' (b := b) (o := o) (n := mL) (cap := cap) (i := d) (m := m) (c' := c') hmd hcd hcap
                                have hlm : Hid ((List.drop d (T c)).length = m) := by have h1 := hmd.out; have h2 := hmL.out; show (List.drop d (T c)).length = m; rw [List.length_drop]; omega
                                have hwt : Want _ (.slice (some ⟨b, o', none⟩) m c') (List.drop d (T c)) := want_cut rb hat (by rw [hmL.out]; exact hcap) hlm.out hcd.out ho' (by rw [hmL.out]; exact hdL)
                                have hdcap : d ≤ cap := by omega
                                have hdm : d ≤ mL := by omega
                                clear ho'
                                clear hxx
                                rcases Nat.lt_or_ge 1 m with h1 | h1
                                · have h1i : (1 : Int) < (m : Int) := by omega
                                  have ha : Hid (agB (List.drop d (T c)) = true) := agB_many (by rw [hlm.out]; exact h1)
                                  have hem : Hid ((!(List.drop d (T c)).isEmpty) = true) := emp_len (L := (List.drop d (T c))) (by rw [hlm.out]; omega)
                                  have hwr2 := hwr.out
                                  go_wp2
                                  go_meet
                                  case rel => exact ⟨by rw [e1.out, hkN.out, hem.out], by rw [e2.out, hkN.out, ha.out], by rw [e1.out, hkN.out]; exact hwt, R⟩
                                · rcases Nat.eq_zero_or_pos m with hz0 | hz0
                                  · subst hz0
                                    have hr0 : Hid ((List.drop d (T c)) = []) := List.length_eq_zero_iff.1 hlm.out
                                    have hwr2 := hwr.out
                                    go_wp2
                                    go_meet
                                    case rel => exact ⟨by rw [e1.out, hkN.out, hr0.out]; rfl, by rw [e2.out, hkN.out, hr0.out]; rfl, by rw [e1.out, hkN.out]; exact hwt, R⟩
                                  · obtain rfl : m = 1 := by have := hmd.out; omega
                                    have h01 : 0 < (List.drop d (T c)).length := by rw [hlm.out]; decide
                                    have ha := agB_one hlm.out h01
                                    have hem : Hid ((!(List.drop d (T c)).isEmpty) = true) := emp_len h01
                                    cases hdd : ((List.drop d (T c))[0]).del with
                                    | false =>
                                      rw [hdd] at ha
                                      have c180 := want_cell hwt h01 (d := false) (fun _ => hdd)
                                      clear hdd h01
                                      replace ha : Hid (agB (List.drop d (T c)) = false) := ha
                                      have hwr2 := hwr.out
                                      go_wp2
                                      go_meet
                                      case rel => exact ⟨by rw [e1.out, hkN.out, hem.out], by rw [e2.out, hkN.out, ha.out], by rw [e1.out, hkN.out]; exact hwt, R⟩
                                    | true =>
                                      rw [hdd] at ha
                                      have c180 := want_cell hwt h01 (d := true) (fun _ => hdd)
                                      clear hdd h01
                                      replace ha : Hid (agB (List.drop d (T c)) = true) := ha
                                      have hwr2 := hwr.out
                                      go_wp2
                                      go_meet
                                      case rel => exact ⟨by rw [e1.out, hkN.out, hem.out], by rw [e2.out, hkN.out, ha.out], by rw [e1.out, hkN.out]; exact hwt, R⟩
                  case rest =>
                    as_aux_lemma =>
                      clear hT
                      obtain ⟨rfl, rfl, hW, R⟩ := hcut
                      clear r1 r2 r3 g1 g2 g3 c3 hcl hpe hav
                      have hlk1 := (R.st.md.look (T := 25) (E := 60) Yba.underlying25 (zero60 wc) (zd := _) rfl hc).1
                      rw [R.st.isSome hc] at hlk1
                      have rg := R.st.rg
                      by_cases hne : T' c = []
                      · have hag : ag' c = false := by
                          cases h' : ag' c with
                          | false => rfl
                          | true => exact absurd hne (R.st.aged c hc h')
                        have rg9 := rg
                        have hlk2 := (R.st.ma.look (T := 26) (E := 4) Yba.underlying26 (zero4 wc) (zd := _) rfl hc).1
                        rw [(St.agVal ag' c).1, (St.agVal ag' c).2, hag] at hlk2
                        have hem := emp_true hne
                        rw [hem] at hlk1
                        rw [hem, hag]
                        go_wp2_with (first
                          | (refine wpList_load_cell rfl 25 _ rfl (some 186) rfl g 21 (.map (some bd)) rfl 52 _ (0, 0) rg rfl _ Yba.underlying25 rfl ?_)
                          | (refine wpList_do rfl (some 188) rfl _ _ (exec_lookup rfl rfl rfl hlk1) ?_)
                          | (refine wpList_load_cell rfl 26 _ rfl (some 205) rfl g 22 (.map (some ba)) rfl 52 _ (0, 0) rg9 rfl _ Yba.underlying26 rfl ?_)
                          | (refine wpList_do rfl (some 207) rfl _ _ (exec_lookup rfl rfl rfl hlk2) ?_))
                        go_roundw
                        case rel => first | exact ⟨c + 1, by omega, by go_num, by rw [cP_false (p := (fun x => !(T' x).isEmpty)) hem], by rw [cP_false hag], R⟩ | ((repeat apply Exists.intro); exact ⟨⟨c + 1, by omega, by go_num, by rw [cP_false (p := (fun x => !(T' x).isEmpty)) hem], by rw [cP_false hag], R⟩, rfl⟩)
                        case measure => simp [intOf]; omega
                      · obtain ⟨b, o, cap, rfl, hV⟩ := hW hne
                        obtain ⟨o2, cap2, cs2, hf2, -, -, e4, e5⟩ := (R.st.key c hc).one hne
                        rw [hf2] at hlk1
                        simp only [Option.getD_some] at hlk1
                        have hem := emp_false hne
                        rw [hem] at hlk1
                        rw [hem]
                        have hok := (R.st.key c hc).ok
                        have hll : (T' c).length ≤ 1000000 := Nat.le_trans (R.st.key c hc).len hN
                        have hw19 : wrap64 (((cP (fun x => !(T' x).isEmpty) c : Nat) : Int) + 1) = ((cP (fun x => !(T' x).isEmpty) (c + 1) : Nat) : Int) := by
                          have h1 := cP_le (fun x => !(T' x).isEmpty) c
                          rw [cP_true (p := (fun x => !(T' x).isEmpty)) hem]
                          unfold wrap64
                          omega
                        clear hW hf2
                        cases hag : ag' c with
                        | false =>
                          go_wp2_with (first
                            | (refine wpList_load_cell rfl 25 _ rfl (some 186) rfl g 21 (.map (some bd)) rfl 52 _ (0, 0) rg rfl _ Yba.underlying25 rfl ?_)
                            | (refine wpList_do rfl (some 188) rfl _ _ (exec_lookup rfl rfl rfl hlk1) ?_)
                            | (go_at_call 8; refine (eq_some (B c) o2 cap2 b o cap (T' c) wc ⟨rfl, cs2, e4, e5⟩ hV hok hll).mono ?_; rintro e w9 ⟨rfl, F9⟩; have R9 := R.keep0 F9; have rg9 := R9.st.rg; have hlk2 := (R9.st.ma.look (T := 26) (E := 4) Yba.underlying26 (zero4 w9) (zd := _) rfl hc).1; rw [(St.agVal ag' c).1, (St.agVal ag' c).2, hag] at hlk2)
                            | (refine wpList_load_cell rfl 26 _ rfl (some 205) rfl g 22 (.map (some ba)) rfl 52 _ (0, 0) rg9 rfl _ Yba.underlying26 rfl ?_)
                            | (refine wpList_do rfl (some 207) rfl _ _ (exec_lookup rfl rfl rfl hlk2) ?_))
                          go_roundw
                          case rel => first | exact ⟨c + 1, by omega, by go_num, by first | rfl | rw [hw19], by rw [cP_false hag], R9⟩ | ((repeat apply Exists.intro); exact ⟨⟨c + 1, by omega, by go_num, by first | rfl | rw [hw19], by rw [cP_false hag], R9⟩, rfl⟩)
                          case measure => simp [intOf]; omega
                        | true =>
                          have hw20 : wrap64 (((cP ag' c : Nat) : Int) + 1) = ((cP ag' (c + 1) : Nat) : Int) := by
                            have h1 := cP_le ag' c
                            rw [cP_true hag]
                            unfold wrap64
                            omega
                          go_wp2_with (first
                            | (refine wpList_load_cell rfl 25 _ rfl (some 186) rfl g 21 (.map (some bd)) rfl 52 _ (0, 0) rg rfl _ Yba.underlying25 rfl ?_)
                            | (refine wpList_do rfl (some 188) rfl _ _ (exec_lookup rfl rfl rfl hlk1) ?_)
                            | (go_at_call 8; refine (eq_some (B c) o2 cap2 b o cap (T' c) wc ⟨rfl, cs2, e4, e5⟩ hV hok hll).mono ?_; rintro e w9 ⟨rfl, F9⟩; have R9 := R.keep0 F9; have rg9 := R9.st.rg; have hlk2 := (R9.st.ma.look (T := 26) (E := 4) Yba.underlying26 (zero4 w9) (zd := _) rfl hc).1; rw [(St.agVal ag' c).1, (St.agVal ag' c).2, hag] at hlk2)
                            | (refine wpList_load_cell rfl 26 _ rfl (some 205) rfl g 22 (.map (some ba)) rfl 52 _ (0, 0) rg9 rfl _ Yba.underlying26 rfl ?_)
                            | (refine wpList_do rfl (some 207) rfl _ _ (exec_lookup rfl rfl rfl hlk2) ?_))
                          go_roundw
                          case rel => first | exact ⟨c + 1, by omega, by go_num, by first | rfl | rw [hw19], by first | rfl | rw [hw20], R9⟩ | ((repeat apply Exists.intro); exact ⟨⟨c + 1, by omega, by go_num, by first | rfl | rw [hw19], by first | rfl | rw [hw20], R9⟩, rfl⟩)
                          case measure => simp [intOf]; omega
              · as_aux_lemma =>
                  clear hT
                  obtain rfl : c = 4 := by omega
                  have rg := R.st.rg
                  have c22 : wr.cell? ⟨g, 22, none⟩ = some (.map (some ba)) := by rw [cell_of_row wr g 22 _ 52 _ rg]; rfl
                  have hl1 := R.st.md.len (T := 25) (E := 60) Yba.underlying25 3
                  have hl2 := R.st.ma.len (T := 26) (E := 4) Yba.underlying26 3
                  rw [cnt_f R.st] at hl1
                  rw [cnt_ag] at hl2
                  go_wp2_with (first
                    | (refine wpList_load_cell rfl 25 _ rfl (some 226) rfl g 21 (.map (some bd)) rfl 52 _ (0, 0) rg rfl _ Yba.underlying25 rfl ?_))
                  go_ret
                  exact ⟨rfl, R.fr⟩
end Go.Proofs.Ybulkdusa
