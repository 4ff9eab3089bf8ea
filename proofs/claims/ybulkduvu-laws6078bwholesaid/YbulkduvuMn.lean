import Derived.Test.YbulkduvuMnA
namespace Go.Proofs.Ybulkduvu
open Go.RowKit Base

/-- what the drawn statement reads -/
structure Sd (w : World) (cb b op k : Nat) (g : Nat → Nat) (s : Int) : Prop where
  rc : w.heap[cb]? = some (.cells (cA g) 37)
  rs : w.heap[b]? = some (.cells (stp op k s) 73)

theorem All.close {w wr : World} {ob mp mb cb n m : Nat} {g : Nat → Nat} {ow ox : List Nat} {cl : Nat → Int} {L : Int → List Nat} {V W : Int → Value} {ks : List Int} {K Ls : Value} (R : Rl wr w.heap.size ob mp g ow n cl L V) (M : Md wr w.heap.size mb m cl ks L K Ls W ox) (hk : ∀ k ∈ ks, I64 k) (rc : wr.heap[cb]? = some (.cells (cA g) 37)) (F : Fr [] w wr) {q : Nat} (h1 : n ≤ q) (h2 : m ≤ q) : All w wr ob mp mb cb g q :=
  ⟨cl, ks, L, V, W, K, Ls, ow, ox, R.mono h1, M.mono h2, hk, rc, F⟩

set_option maxHeartbeats 8000000 in
set_option maxRecDepth 100000 in
theorem main_near (a0 : Option Addr) (l0 c0 : Nat) (conn : Nat) (client : Int) (w : World) (hst : Steps w a0 l0) (hl : l0 ≤ 1024) (hcn : conn < 256) (hcl : I64 client) :
    Calls Yba.prog 4 #[.slice a0 l0 c0, .int .u8 conn, .int .i64 client] w fun e w' => e = .returned (.bool true) ∧ Fr [] w w' := by
  replace hcl : Hid (I64 client) := hcl
  replace hst : Hid (Steps w a0 l0) := hst
  go_enter Yba.func4, Yba.ntmps4
  go_wp2_with (first
    | (refine wpList_alloc rfl 37 rfl (some 7) rfl _ (pA fun _ => .pointer none) (zero37 _) rfl ?_; intro cb w1 e1 F1 rc1 z1)
    | (refine wpList_do rfl (some 18) rfl _ _ (exec_build (parts := []) (vs := []) rfl rfl (build43 _)) ?_)
    | (refine wpList_box rfl 43 _ rfl (some 19) rfl _ (mRow (fun _ => 0) (.slice none 0 0) (.slice none 0 0)) rfl rfl ?_; intro mb w2 e2 F2 rm2 z2; have rc2 := F2.get rc1 (by simp)))
  have hI : Ini w w2 cb mb (fun _ => 0) 0 := ⟨by simpa using rc2, by simpa using rm2, by simp, by simp, by simp, F1.trans0 F2, by rw [e1.out]; exact Nat.le_refl _, by rw [e2.out]; exact F1.size⟩
  clear e1 F1 rc1 z1 e2 F2 rm2 z2 rc2
  go_loopw [9] (fun s9 wr => ∃ (i : Nat) (g : Nat → Nat), i ≤ 5 ∧ s9 = .int .i64 i ∧ Ini w wr cb mb g i) (fun s9 _ => 5 - (intOf s9).toNat)
  case atStart => exact ⟨0, _, by omega, rfl, hI⟩
  case round =>
    clear hI
    obtain ⟨i, g, hi5, rfl, hI⟩ := hrel
    by_cases hi : i < 5
    · have rc := hI.rc
      have rm := hI.rm
      go_wp2_with (first
        | (refine wpList_do rfl (some 25) rfl _ _ (exec_build (parts := [(4, .const (.int .i64 (-1)))]) (vs := [(4, .int .i64 (-1))]) rfl rfl (build60 _)) ?_)
        | (refine wpList_box rfl 60 _ rfl (some 26) rfl _ (cRow (-1)) rfl rfl ?_; intro gn w3 e3 F3 rg3 z3; have rc3 := F3.get rc (by simp); have rm3 := F3.get rm (by simp))
        | (refine wpList_store_cell rfl 36 (.tmp 27) (.tmp 26) rfl cb i (.pointer (some ⟨gn, 0, none⟩)) rfl rfl rfl 37 _ rc3 (by simp [pA]; omega) size36 ?_; intro w4 F4 rc4 z4; have rm4 := F4.get rm3 (by simpa using ne_type rm3 rc3 (by decide)))
        | (refine wpList_store_cell rfl 3 (.tmp 32) (.const (.int .i64 (-1))) rfl mb i (.int .i64 (-1)) rfl rfl rfl 43 _ rm4 (by simp [mRow]; omega) size3 ?_; intro w5 F5 rm5 z5))
      have hI' := hI.next hi e3.out F3 rg3 F4 rc4 F5 rm5
      go_roundw
      case rel => exact ⟨i + 1, _, by omega, by go_num, hI'⟩
      case measure => simp [intOf]; omega
    · obtain rfl : i = 5 := by omega
      go_wp2_with (first
        | (refine wpList_makeMap rfl 62 rfl (some 33) rfl ?_; intro mp w3 e3 F3 r3 z3)
        | (refine wpList_do rfl (some 34) rfl _ _ (exec_build (parts := [(1, .tmp 33)]) (vs := [(1, .map (some mp))]) rfl rfl (build71 mp _)) ?_)
        | (refine wpList_box rfl 71 _ rfl (some 35) rfl _ (oRow mp) rfl rfl ?_; intro ob w4 e4 F4 ro4 z4))
      have hA : All w w4 ob mp mb cb g 0 := All.start hI e3.out F3 r3 F4 ro4
      clear hI e3 F3 r3 z3 e4 F4 ro4 z4 hi hi5
      obtain ⟨wo, rfl⟩ : ∃ wo : World, wo = wr := ⟨_, rfl⟩
      go_loopw [38] (fun s38 wr => ∃ j : Nat, j ≤ l0 ∧ s38 = .int .i64 j ∧ All w wr ob mp mb cb g (3 * j)) (fun s38 _ => l0 - (intOf s38).toNat)
      case atStart => exact ⟨0, by omega, rfl, hA⟩
      case round =>
        clear hA
        obtain ⟨j, hj, rfl, hA⟩ := hrel
        obtain ⟨cl, ks, L, V, W, K, Ls, ow, ox, R, M, hks, rc, F0⟩ := hA
        replace hks : Hid (∀ k ∈ ks, I64 k) := hks
        have hML : 3 * j + 3 < maxLen := by unfold maxLen; omega
        replace hML : Hid (3 * j + 3 < maxLen) := hML
        by_cases hlt : j < l0
        · obtain ⟨sb, so, rfl, hstp⟩ := hst.out.resolve_left (by omega)
          obtain ⟨op, cn, k, hop, hcn', hk, q0, q1, q2⟩ := hstp j hlt
          replace q0 := F0.cell q0 (by simp)
          replace q1 := F0.cell q1 (by simp)
          replace q2 := F0.cell q2 (by simp)
          clear hstp
          replace hk : Hid (I64 k) := hk
          obtain ⟨c, hc, hcm⟩ : ∃ c : Nat, c < 5 ∧ (cn : Int) % 5 = c := ⟨cn % 5, by omega, by omega⟩
          by_cases ho : op % 2 = 0
          · have hoi : (op : Int) % 2 = 0 := by omega
            as_aux_lemma =>
              go_wp2_with (first
                | (refine wpList_alloc rfl 73 rfl (some 12) rfl _ (stp 0 0 0) (zero73 _) rfl ?_; intro b9 w4 e4 F4 r9 z4)
                | (refine wpList_store_arr rfl 73 (.tmp 12) _ rfl b9 (stp op cn k) rfl rfl 73 _ r9 size73 rfl (stp_one op cn k) ?_; intro w5 F5 r95 z5; have F45 : Fr [] wr w5 := F4.trans F5 (fun x hx => (by simp at hx; subst hx; exact .inr (Nat.le_of_eq e4.out.symm))); have R5 := R.keep0 F45; have M5 := M.keep0 F45; have rc5 := F45.get rc (by simp); have s0 := st0 r95; have s1 := st1 r95; have s2 := st2 r95; have ccb : w5.cell? ⟨cb, c, none⟩ = some (.pointer (some ⟨g c, 0, none⟩)) := cA_at rc5 hc))
              have hS : Sd w5.drew cb b9 op cn g k := ⟨rc5, r95⟩
              have R6 := R5.keep0 (Fr.drew w5)
              have M6 := M5.keep0 (Fr.drew w5)
              refine any_begin (fun w' => Sd w' cb b9 op cn g k) (by kernel_rfl) hS ?_
              refine any_take 0 rfl (some 50) rfl (by kernel_rfl) (by kernel_rfl) (by kernel_rfl) rfl (.pointer (some ⟨ob, 0, none⟩)) (fun _ _ _ h => h) (fun _ _ => rfl) hS ?_
              simp only [Act.put, List.setIfInBounds_toArray, List.set_cons_zero, List.set_cons_succ]
              refine any_take 1 rfl (some 51) rfl (by kernel_rfl) (by kernel_rfl) (by kernel_rfl) rfl (.int .i64 c) (fun _ _ _ h => h) (fun _ _ => rfl) hS ?_
              simp only [Act.put, List.setIfInBounds_toArray, List.set_cons_zero, List.set_cons_succ]
              refine any_take 2 rfl (some 52) rfl (by kernel_rfl) (by kernel_rfl) (by kernel_rfl) rfl (.pointer (some ⟨cb, c, none⟩)) (fun _ _ _ h => h) (fun w _ => exec_index (xv := .pointer (some ⟨cb, 0, none⟩)) (iv := .int .i64 c) rfl rfl rfl (idx37 hc w)) hS ?_
              simp only [Act.put, List.setIfInBounds_toArray, List.set_cons_zero, List.set_cons_succ]
              refine any_load_cell 3 rfl (some 53) rfl (by kernel_rfl) (by kernel_rfl) (by kernel_rfl) rfl (.pointer (some ⟨g c, 0, none⟩)) (fun _ _ _ h => h) 36 (.tmp 52) rfl ⟨cb, c, none⟩ rfl (fun w h => cA_at h.rc hc) _ Yba.underlying36 rfl hS ?_
              simp only [Act.put, List.setIfInBounds_toArray, List.set_cons_zero, List.set_cons_succ]
              refine any_take 4 rfl (some 54) rfl (by kernel_rfl) (by kernel_rfl) (by kernel_rfl) rfl (.pointer (some ⟨b9, 2, none⟩)) (fun _ _ _ h => h) (fun _ _ => by first | rfl | kernel_rfl) hS ?_
              simp only [Act.put, List.setIfInBounds_toArray, List.set_cons_zero, List.set_cons_succ]
              refine any_load_cell 5 rfl (some 55) rfl (by kernel_rfl) (by kernel_rfl) (by kernel_rfl) rfl (.int .i64 k) (fun _ _ _ h => h) 3 (.tmp 54) rfl ⟨b9, 2, none⟩ rfl (fun w h => st2 h.rs) _ Yba.underlying3 rfl hS ?_
              simp only [Act.put, List.setIfInBounds_toArray, List.set_cons_zero, List.set_cons_succ]
              refine any_call 6 rfl (by kernel_rfl) rfl (some 56) rfl 9 _ _ rfl _ Yba.func9 (by kernel_rfl) (by kernel_rfl) [.pointer (some ⟨ob, 0, none⟩), .pointer (some ⟨g c, 0, none⟩), .int .i64 k] rfl ((attach_any R6 (Nat.le_trans F0.size (Nat.le_trans F45.size (Nat.le_refl _))) (by have := hML.out; omega) (by omega) hc hk.out).mono ?_)
              rintro e w7 ⟨rfl, F7, ow7, V7, R7⟩
              have M7 := M6.keepR R6 F7
              have hS7 : Sd w7 cb b9 op cn g k := ⟨F7.get hS.rc (rs_no R6 hS.rc (by decide) (by decide)), F7.get hS.rs (rs_no R6 hS.rs (by decide) (by decide))⟩
              have F07 : Fr [] w w7 := ((F0.trans0 F45).trans0 (Fr.drew w5)).trans F7 (fun x hx => .inr (rs_base R6 x hx))
              refine ⟨_, rfl, hS7, ?_⟩
              simp only [Act.put, List.setIfInBounds_toArray, List.set_cons_zero, List.set_cons_succ]
              refine any_done (by kernel_rfl) ?_
              have s27 := st2 hS7.rs
              clear hS s0 s1 s2 ccb R6 M6 R5 M5 F45 F4 F5 F7 r9 r95 q0 q1 q2
              go_wp2_with (first
                | (go_at_call 10; refine (mattach_any M7 F07.size (by omega) hc (k := k)).mono ?_; rintro e w8 ⟨rfl, F8, ks8, K8, Ls8, W8, ox8, hks8, M8⟩; have R8 := R7.keepM M7 F8; have rc8 := F8.get hS7.rc (mo_no M7 hS7.rc (by decide) (by decide) (by decide)); have F08 := F07.trans F8 (fun x hx => .inr (mo_base M7 x hx)); have hw8 : ∀ x ∈ ks8, I64 x := (fun x hx => (hks8 x hx).elim (hks.out x) (fun e => e ▸ hk.out)))
                | (go_at_call 13; refine (check_any R8 M8 rc8 (by omega) hw8).mono ?_; rintro e wz ⟨rfl, FZ⟩))
              go_roundw
              case rel =>
                have hI : ∃ j' : Nat, j' ≤ l0 ∧ Value.int .i64 ((j : Int) + 1) = .int .i64 j' ∧ All w wz ob mp mb cb g (3 * j') := ⟨j + 1, by omega, by go_num, All.close (R8.keep0 FZ) (M8.keep0 FZ) hw8 (FZ.get rc8 (by simp)) (F08.trans0 FZ) (by omega) (by omega)⟩
                first | exact hI | ((repeat apply Exists.intro); exact ⟨hI, rfl⟩)
              case measure => simp [intOf]; omega
          · have hoi : (op : Int) % 2 = 1 := by omega
            as_aux_lemma =>
              go_wp2_with (first
                | (refine wpList_alloc rfl 73 rfl (some 12) rfl _ (stp 0 0 0) (zero73 _) rfl ?_; intro b9 w4 e4 F4 r9 z4)
                | (refine wpList_store_arr rfl 73 (.tmp 12) _ rfl b9 (stp op cn k) rfl rfl 73 _ r9 size73 rfl (stp_one op cn k) ?_; intro w5 F5 r95 z5; have F45 : Fr [] wr w5 := F4.trans F5 (fun x hx => (by simp at hx; subst hx; exact .inr (Nat.le_of_eq e4.out.symm))); have R5 := R.keep0 F45; have M5 := M.keep0 F45; have rc5 := F45.get rc (by simp); have s0 := st0 r95; have s1 := st1 r95; have s2 := st2 r95; have ccb : w5.cell? ⟨cb, c, none⟩ = some (.pointer (some ⟨g c, 0, none⟩)) := cA_at rc5 hc)
                | (go_at_call 11; refine (forget_any R5 (Nat.le_trans F0.size F45.size) (by have := hML.out; omega) (by omega) hc).mono ?_; rintro e w7 ⟨rfl, F7, V7, R7⟩; have M7 := M5.keepR R5 F7; have rc7 := F7.get rc5 (rs_no R5 rc5 (by decide) (by decide)); have F07 : Fr [] w w7 := (F0.trans0 F45).trans F7 (fun x hx => .inr (rs_base R5 x hx)))
                | (go_at_call 12; refine (mforget_any M7 F07.size (by omega) hc).mono ?_; rintro e w8 ⟨rfl, F8, W8, ox8, hox8, M8⟩; have R8 := R7.keepM M7 F8; have rc8 := F8.get rc7 (mo_no M7 rc7 (by decide) (by decide) (by decide)); have F08 := F07.trans F8 (fun x hx => .inr (mo_base M7 x hx)))
                | (go_at_call 13; refine (check_any R8 M8 rc8 (by omega) hks.out).mono ?_; rintro e wz ⟨rfl, FZ⟩))
              go_roundw
              case rel =>
                have hI : ∃ j' : Nat, j' ≤ l0 ∧ Value.int .i64 ((j : Int) + 1) = .int .i64 j' ∧ All w wz ob mp mb cb g (3 * j') := ⟨j + 1, by omega, by go_num, All.close (R8.keep0 FZ) (M8.keep0 FZ) hks.out (FZ.get rc8 (by simp)) (F08.trans0 FZ) (by omega) (by omega)⟩
                first | exact hI | ((repeat apply Exists.intro); exact ⟨hI, rfl⟩)
              case measure => simp [intOf]; omega
        · obtain rfl : j = l0 := by omega
          obtain ⟨c, hc, hcm⟩ : ∃ c : Nat, c < 5 ∧ (conn : Int) % 5 = c := ⟨conn % 5, by omega, by omega⟩
          as_aux_lemma =>
            have ccb : wr.cell? ⟨cb, c, none⟩ = some (.pointer (some ⟨g c, 0, none⟩)) := cA_at rc hc
            go_wp2_with (first
              | (go_at_call 9; refine (attach_any R F0.size (by have := hML.out; omega) (by omega) hc hcl.out).mono ?_; rintro e w7 ⟨rfl, F7, ow7, V7, R7⟩; have M7 := M.keepR R F7; have rc7 := F7.get rc (rs_no R rc (by decide) (by decide)); have F07 : Fr [] w w7 := F0.trans F7 (fun x hx => .inr (rs_base R x hx)))
              | (go_at_call 10; refine (mattach_any M7 F07.size (by omega) hc (k := client)).mono ?_; rintro e w8 ⟨rfl, F8, ks8, K8, Ls8, W8, ox8, hks8, M8⟩; have R8 := R7.keepM M7 F8; have rc8 := F8.get rc7 (mo_no M7 rc7 (by decide) (by decide) (by decide)); have F08 := F07.trans F8 (fun x hx => .inr (mo_base M7 x hx)); have hw8 : ∀ x ∈ ks8, I64 x := (fun x hx => (hks8 x hx).elim (hks.out x) (fun e => e ▸ hcl.out)))
              | (go_at_call 13; refine (check_any R8 M8 rc8 (by omega) hw8).mono ?_; rintro e wz ⟨rfl, FZ⟩))
            go_ret
            exact ⟨rfl, F08.trans0 FZ⟩
end Go.Proofs.Ybulkduvu
