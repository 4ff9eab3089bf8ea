import Derived.Test.YbulkdusoFmtHeadA
namespace Go.Proofs.YbulkdusoFmt
open Go.RowKit Base

set_option maxHeartbeats 8000000 in
set_option maxRecDepth 100000 in
theorem head_n (s b o cap p n t : Nat) (l : List Int) (ts0 : Array Value) (w : World) (hn : Hid (l.length = n)) (hl : n ≤ 1048576) (hp : p < n) (ho : Oct l) (E : Env w s b o cap n p t l) (r0 : w.heap[t]? = some (.cells ts0 41)) (hts : ts0.size = 10) (hx' : ∀ x, l[p]? = some x → ¬ x % 32 = 31) :
    Calls Ybaf.prog 12 #[.pointer (some ⟨s, 0, none⟩), .pointer (some ⟨t, 0, none⟩)] w fun e w' => Fr [t] w w' ∧ ∃ ts, w'.heap[t]? = some (.cells ts 41) ∧ ts.size = 10 ∧ headRes (hk l p) p (hd l p) e ts := by
  obtain ⟨x, hlx⟩ := at_lt hn.out hp
  obtain ⟨hx0, hx1⟩ := ho p x hlx
  have hx := hx' x hlx
  clear hx'
  replace ho : Hid (Oct l) := ho
  go_enter Ybaf.func12, Ybaf.ntmps12
  go_wp2
  have hS : Env w.drew s b o cap n p t l := E.keep0 (Fr.drew w)
  refine any_begin (fun w' => Env w' s b o cap n p t l) (by kernel_rfl) hS ?_
  refine any_take 0 rfl (some 13) rfl (by kernel_rfl) (by kernel_rfl) (by kernel_rfl) rfl (.pointer (some ⟨t, 0, none⟩)) (fun _ _ _ h => h) (fun _ _ => rfl) hS ?_
  simp only [Act.put, List.setIfInBounds_toArray, List.set_cons_zero, List.set_cons_succ]
  refine any_take 1 rfl (some 14) rfl (by kernel_rfl) (by kernel_rfl) (by kernel_rfl) rfl (.pointer (some ⟨s, 0, none⟩)) (fun _ _ _ h => h) (fun _ _ => rfl) hS ?_
  simp only [Act.put, List.setIfInBounds_toArray, List.set_cons_zero, List.set_cons_succ]
  refine any_take 2 rfl (some 15) rfl (by kernel_rfl) (by kernel_rfl) (by kernel_rfl) rfl (.pointer (some ⟨s, 0, none⟩)) (fun _ _ _ h => h) (fun _ _ => by first | rfl | kernel_rfl) hS ?_
  simp only [Act.put, List.setIfInBounds_toArray, List.set_cons_zero, List.set_cons_succ]
  refine any_take 3 rfl (some 16) rfl (by kernel_rfl) (by kernel_rfl) (by kernel_rfl) rfl (.pointer (some ⟨s, 3, none⟩)) (fun _ _ _ h => h) (fun _ _ => by first | rfl | kernel_rfl) hS ?_
  simp only [Act.put, List.setIfInBounds_toArray, List.set_cons_zero, List.set_cons_succ]
  refine any_load_cell 4 rfl (some 17) rfl (by kernel_rfl) (by kernel_rfl) (by kernel_rfl) rfl (.int .i64 p) (fun _ _ _ h => h) 2 (.tmp 16) rfl ⟨s, 3, none⟩ rfl (fun w h => scn3 h.hs) _ Ybaf.underlying2 rfl hS ?_
  simp only [Act.put, List.setIfInBounds_toArray, List.set_cons_zero, List.set_cons_succ]
  refine any_take 5 rfl (some 18) rfl (by kernel_rfl) (by kernel_rfl) (by kernel_rfl) rfl (.pointer (some ⟨s, 0, none⟩)) (fun _ _ _ h => h) (fun _ _ => rfl) hS ?_
  simp only [Act.put, List.setIfInBounds_toArray, List.set_cons_zero, List.set_cons_succ]
  refine any_take 6 rfl (some 19) rfl (by kernel_rfl) (by kernel_rfl) (by kernel_rfl) rfl (.pointer (some ⟨s, 0, none⟩)) (fun _ _ _ h => h) (fun _ _ => by first | rfl | kernel_rfl) hS ?_
  simp only [Act.put, List.setIfInBounds_toArray, List.set_cons_zero, List.set_cons_succ]
  refine any_take 7 rfl (some 20) rfl (by kernel_rfl) (by kernel_rfl) (by kernel_rfl) rfl (.pointer (some ⟨s, 1, none⟩)) (fun _ _ _ h => h) (fun _ _ => by first | rfl | kernel_rfl) hS ?_
  simp only [Act.put, List.setIfInBounds_toArray, List.set_cons_zero, List.set_cons_succ]
  refine any_load_cell 8 rfl (some 21) rfl (by kernel_rfl) (by kernel_rfl) (by kernel_rfl) rfl (.bool false) (fun _ _ _ h => h) 4 (.tmp 20) rfl ⟨s, 1, none⟩ rfl (fun w h => scn1 h.hs) _ Ybaf.underlying4 rfl hS ?_
  simp only [Act.put, List.setIfInBounds_toArray, List.set_cons_zero, List.set_cons_succ]
  refine any_take 9 rfl (some 22) rfl (by kernel_rfl) (by kernel_rfl) (by kernel_rfl) rfl (.agg (tlv (.int .u8 0) (.int .u64 0) (.bool false) p 0 0 0)) (fun _ _ _ h => h) (fun w _ => exec_build (parts := [(2, .tmp 17), (8, .tmp 21)]) (vs := [(2, .int .i64 p), (8, .bool false)]) rfl rfl (build41 p w)) hS ?_
  simp only [Act.put, List.setIfInBounds_toArray, List.set_cons_zero, List.set_cons_succ]
  refine any_take 10 rfl (some 23) rfl (by kernel_rfl) (by kernel_rfl) (by kernel_rfl) rfl (.pointer (some ⟨t, 0, none⟩)) (fun _ _ _ h => h) (fun _ _ => by first | rfl | kernel_rfl) hS ?_
  simp only [Act.put, List.setIfInBounds_toArray, List.set_cons_zero, List.set_cons_succ]
  refine any_store_arr 11 rfl (by kernel_rfl) rfl 41 (.tmp 23) (.tmp 22) rfl t (tlv (.int .u8 0) (.int .u64 0) (.bool false) p 0 0 0) rfl rfl 41 ts0 r0 size41 hts (by simp [tlv, Value.oneCell']) ?_
  intro w1 F1 r1 z1
  have E1 := hS.keep F1
  refine ⟨E1, ?_⟩
  simp only [Act.put]
  refine any_done (by kernel_rfl) ?_
  replace F1 : Fr [t] w w1 := (Fr.drew w).mono (by simp) |>.trans F1 (by simp)
  clear hS r0 hts z1
  have c3 := scn3 E1.hs
  have c2 := scn2 E1.hs
  have cp := E1.hb p x hlx
  have a6 := wraps_u64 (x % 32) (by omega) (by omega)
  have hT : Hid (tg l p = some (p + 1)) := by show tg l p = _; unfold tg; rw [hlx]; simp only [if_neg hx]
  clear hlx
  have hD := hd_some hT.out
  have hqp := tg_pos hT.out
  rw [hn.out] at hqp
  obtain ⟨hqp1, hqp2⟩ := hqp
  replace hqp1 : Hid _ := hqp1
  by_cases hlt : (p + 1) < n
  · obtain ⟨c, hlc⟩ := at_lt hn.out hlt
    obtain ⟨hc0, hc1⟩ := ho.out (p + 1) c hlc
    by_cases h7 : c < 128
    · have hE : Hid (hd l p = some (c, (p + 1) + 1)) := by show hd l p = _; rw [hD.1]; unfold le; rw [hlc]; simp only [if_pos h7]
      have hDh : Hid (hd l p = le l (p + 1) ∧ (hk l p ↔ l[(p + 1)]? = some 128)) := hD
      clear hD
      go_wp2_with (first
        | (refine wpList_store_cell rfl 36 (.tmp 42) (.tmp 39) rfl t 0 _ rfl rfl rfl 41 _ r1 (show 0 < 10 by decide) size36 ?_; intro w2 F2 r2' z2; obtain ⟨kc, r2⟩ : ∃ c, w2.heap[t]? = some (.cells (tlv c (.int .u64 0) (.bool false) p 0 0 0) 41) := ⟨_, r2'⟩; clear r2' z2)
        | (refine wpList_store_cell rfl 4 (.tmp 48) (.tmp 46) rfl t 2 _ rfl rfl rfl 41 _ r2 (show 2 < 10 by decide) size4 ?_; intro w3 F3 r3' z3; obtain ⟨kk, r3⟩ : ∃ k, w3.heap[t]? = some (.cells (tlv kc (.int .u64 0) k p 0 0 0) 41) := ⟨_, r3'⟩; clear r3' z3)
        | (refine wpList_store_cell rfl 37 (.tmp 55) (.tmp 52) rfl t 1 (.int .u64 (x % 32)) rfl rfl rfl 41 _ r3 (show 1 < 10 by decide) size37 ?_; intro w4 F4 r4' z4; have r4 : w4.heap[t]? = some (.cells (tlv kc (.int .u64 (x % 32)) kk p 0 0 0) 41) := r4'; have E4 := ((E1.keep F2).keep F3).keep F4; have G4 : Fr [t] w w4 := ((F1.trans F2 (by simp)).trans F3 (by simp)).trans F4 (by simp); have t1 := tlv1 r4; have t3 := tlv3 r4; clear r4' z4)
        | (refine wpList_store_cell rfl 3 (.tmp 99) (.tmp 97) rfl t 5 (.int .i64 ((p : Int) + 1 - p)) rfl rfl rfl 41 _ r4 (show 5 < 10 by decide) size3 ?_; intro w7 F7 r7' z7; obtain ⟨km, kil, hil, r7⟩ : ∃ m il, il = (p : Int) + 1 - p ∧ w7.heap[t]? = some (.cells (tlv kc m kk p il 0 0) 41) := ⟨_, _, rfl, r7'⟩; have E7 := E4.keep F7; have G7 := G4.trans F7 (by simp); have c27 := scn2 E7.hs; have cq := E7.hb (p + 1) c hlc; replace hil : Hid (kil = (p : Int) + 1 - p) := hil; clear r7' z7))
      have hil1 : 0 ≤ kil ∧ kil ≤ 1048576 := by have := hil.out; have := hqp1.out; omega
      have hS : Env w7.drew s b o cap n p t l ∧ w7.drew.cell? ⟨t, 5, none⟩ = some (.int .i64 kil) := ⟨E7.keep0 (Fr.drew w7), tlv5 r7⟩
      refine any_begin (fun w' => Env w' s b o cap n p t l ∧ w'.cell? ⟨t, 5, none⟩ = some (.int .i64 kil)) (by kernel_rfl) hS ?_
      refine any_take 0 rfl (some 117) rfl (by kernel_rfl) (by kernel_rfl) (by kernel_rfl) rfl (.pointer (some ⟨t, 0, none⟩)) (fun _ _ _ h => h) (fun _ _ => rfl) hS ?_
      simp only [Act.put, List.setIfInBounds_toArray, List.set_cons_zero, List.set_cons_succ]
      refine any_take 1 rfl (some 118) rfl (by kernel_rfl) (by kernel_rfl) (by kernel_rfl) rfl (.pointer (some ⟨t, 0, none⟩)) (fun _ _ _ h => h) (fun _ _ => rfl) hS ?_
      simp only [Act.put, List.setIfInBounds_toArray, List.set_cons_zero, List.set_cons_succ]
      refine any_take 2 rfl (some 119) rfl (by kernel_rfl) (by kernel_rfl) (by kernel_rfl) rfl (.pointer (some ⟨s, 0, none⟩)) (fun _ _ _ h => h) (fun _ _ => rfl) hS ?_
      simp only [Act.put, List.setIfInBounds_toArray, List.set_cons_zero, List.set_cons_succ]
      refine any_take 3 rfl (some 120) rfl (by kernel_rfl) (by kernel_rfl) (by kernel_rfl) rfl (.pointer (some ⟨s, 0, none⟩)) (fun _ _ _ h => h) (fun _ _ => by first | rfl | kernel_rfl) hS ?_
      simp only [Act.put, List.setIfInBounds_toArray, List.set_cons_zero, List.set_cons_succ]
      refine any_take 4 rfl (some 121) rfl (by kernel_rfl) (by kernel_rfl) (by kernel_rfl) rfl (.pointer (some ⟨s, 2, none⟩)) (fun _ _ _ h => h) (fun _ _ => by first | rfl | kernel_rfl) hS ?_
      simp only [Act.put, List.setIfInBounds_toArray, List.set_cons_zero, List.set_cons_succ]
      refine any_load_cell 5 rfl (some 122) rfl (by kernel_rfl) (by kernel_rfl) (by kernel_rfl) rfl (.slice (some ⟨b, o, none⟩) n cap) (fun _ _ _ h => h) 22 (.tmp 121) rfl ⟨s, 2, none⟩ rfl (fun w h => scn2 h.1.hs) _ Ybaf.underlying22 rfl hS ?_
      simp only [Act.put, List.setIfInBounds_toArray, List.set_cons_zero, List.set_cons_succ]
      refine any_take 6 rfl (some 123) rfl (by kernel_rfl) (by kernel_rfl) (by kernel_rfl) rfl (.int .i64 ((p : Int) + 1)) (fun _ _ _ h => h) (fun _ _ => rfl) hS ?_
      simp only [Act.put, List.setIfInBounds_toArray, List.set_cons_zero, List.set_cons_succ]
      refine any_take 7 rfl (some 124) rfl (by kernel_rfl) (by kernel_rfl) (by kernel_rfl) rfl (.pointer (some ⟨b, o + ((p + 1)), none⟩)) (fun _ _ _ h => h) (fun w _ => exec_index (xv := .slice (some ⟨b, o, none⟩) n cap) (iv := .int .i64 (((p + 1) : Nat) : Int)) rfl rfl rfl (idx22 hlt w)) hS ?_
      simp only [Act.put, List.setIfInBounds_toArray, List.set_cons_zero, List.set_cons_succ]
      refine any_load_cell 8 rfl (some 125) rfl (by kernel_rfl) (by kernel_rfl) (by kernel_rfl) rfl (.int .u8 c) (fun _ _ _ h => h) 5 (.tmp 124) rfl ⟨b, o + ((p + 1)), none⟩ rfl (fun w h => h.1.hb _ c hlc) _ Ybaf.underlying5 rfl hS ?_
      simp only [Act.put, List.setIfInBounds_toArray, List.set_cons_zero, List.set_cons_succ]
      refine any_take 9 rfl (some 126) rfl (by kernel_rfl) (by kernel_rfl) (by kernel_rfl) rfl (.int .i64 c) (fun _ _ _ h => h) (fun w _ => exec_conv hc0 hc1 rfl rfl) hS ?_
      simp only [Act.put, List.setIfInBounds_toArray, List.set_cons_zero, List.set_cons_succ]
      refine any_take 10 rfl (some 127) rfl (by kernel_rfl) (by kernel_rfl) (by kernel_rfl) rfl (.pointer (some ⟨t, 0, none⟩)) (fun _ _ _ h => h) (fun _ _ => rfl) hS ?_
      simp only [Act.put, List.setIfInBounds_toArray, List.set_cons_zero, List.set_cons_succ]
      refine any_take 11 rfl (some 128) rfl (by kernel_rfl) (by kernel_rfl) (by kernel_rfl) rfl (.pointer (some ⟨t, 0, none⟩)) (fun _ _ _ h => h) (fun _ _ => by first | rfl | kernel_rfl) hS ?_
      simp only [Act.put, List.setIfInBounds_toArray, List.set_cons_zero, List.set_cons_succ]
      refine any_take 12 rfl (some 129) rfl (by kernel_rfl) (by kernel_rfl) (by kernel_rfl) rfl (.pointer (some ⟨t, 5, none⟩)) (fun _ _ _ h => h) (fun _ _ => by first | rfl | kernel_rfl) hS ?_
      simp only [Act.put, List.setIfInBounds_toArray, List.set_cons_zero, List.set_cons_succ]
      refine any_load_cell 13 rfl (some 130) rfl (by kernel_rfl) (by kernel_rfl) (by kernel_rfl) rfl (.int .i64 kil) (fun _ _ _ h => h) 3 (.tmp 129) rfl ⟨t, 5, none⟩ rfl (fun w h => h.2) _ Ybaf.underlying3 rfl hS ?_
      simp only [Act.put, List.setIfInBounds_toArray, List.set_cons_zero, List.set_cons_succ]
      refine any_take 14 rfl (some 131) rfl (by kernel_rfl) (by kernel_rfl) (by kernel_rfl) rfl (.int .i64 (kil + 1)) (fun _ _ _ h => h) (fun w _ => exec_add1 hil1.1 hil1.2 rfl rfl) hS ?_
      simp only [Act.put, List.setIfInBounds_toArray, List.set_cons_zero, List.set_cons_succ]
      refine any_take 15 rfl (some 132) rfl (by kernel_rfl) (by kernel_rfl) (by kernel_rfl) rfl (.pointer (some ⟨t, 0, none⟩)) (fun _ _ _ h => h) (fun _ _ => by first | rfl | kernel_rfl) hS ?_
      simp only [Act.put, List.setIfInBounds_toArray, List.set_cons_zero, List.set_cons_succ]
      refine any_take 16 rfl (some 133) rfl (by kernel_rfl) (by kernel_rfl) (by kernel_rfl) rfl (.pointer (some ⟨t, 7, none⟩)) (fun _ _ _ h => h) (fun _ _ => by first | rfl | kernel_rfl) hS ?_
      simp only [Act.put, List.setIfInBounds_toArray, List.set_cons_zero, List.set_cons_succ]
      refine any_store_cell 17 rfl (by kernel_rfl) rfl 2 (.tmp 133) (.tmp 126) rfl t 7 (.int .i64 c) rfl rfl rfl 41 _ r7 (show 7 < 10 by decide) size2 ?_
      intro w8 F8 r8' z8
      have r8 : w8.heap[t]? = some (.cells (tlv kc km kk p kil 0 c) 41) := r8'
      have hS8 : Env w8 s b o cap n p t l ∧ w8.cell? ⟨t, 5, none⟩ = some (.int .i64 kil) := ⟨hS.1.keep F8, tlv5 r8⟩
      refine ⟨hS8, ?_⟩
      simp only [Act.put]
      refine any_take 18 rfl (some 134) rfl (by kernel_rfl) (by kernel_rfl) (by kernel_rfl) rfl (.pointer (some ⟨t, 0, none⟩)) (fun _ _ _ h => h) (fun _ _ => by first | rfl | kernel_rfl) hS8 ?_
      simp only [Act.put, List.setIfInBounds_toArray]
      refine any_take 19 rfl (some 135) rfl (by kernel_rfl) (by kernel_rfl) (by kernel_rfl) rfl (.pointer (some ⟨t, 6, none⟩)) (fun _ _ _ h => h) (fun _ _ => by first | rfl | kernel_rfl) hS8 ?_
      simp only [Act.put]
      refine any_store_cell 20 rfl (by kernel_rfl) rfl 3 (.tmp 135) (.tmp 131) rfl t 6 (.int .i64 (kil + 1)) rfl rfl rfl 41 _ r8 (show 6 < 10 by decide) size3 ?_
      intro w9 F9 r9' z9
      have r9 : w9.heap[t]? = some (.cells (tlv kc km kk p kil (kil + 1) c) 41) := r9'
      have hS9 : Env w9 s b o cap n p t l ∧ w9.cell? ⟨t, 5, none⟩ = some (.int .i64 kil) := ⟨hS8.1.keep F9, tlv5 r9⟩
      refine ⟨hS9, ?_⟩
      simp only [Act.put]
      refine any_done (by kernel_rfl) ?_
      go_wp2
      go_ret
      rw [hE.out]
      exact ⟨((G7.trans0 (Fr.drew w7)).trans F8 (by simp)).trans F9 (by simp), _, r9, rfl, rfl, rfl, by simp [tlv]; have := hil.out; omega⟩
    · by_cases h8 : c = 128
      · subst h8
        have hI : Hid (l[(p + 1)]? = some 128) := hlc
        have hE : Hid (hd l p = none) := by show hd l p = _; rw [hD.1]; unfold le; rw [hlc]; simp
        have hy : Hid (hk l p) := hD.2.2 hlc
        have hDh : Hid (hd l p = le l (p + 1) ∧ (hk l p ↔ l[(p + 1)]? = some 128)) := hD
        clear hD
        go_wp2_with (first
          | (refine wpList_store_cell rfl 36 (.tmp 42) (.tmp 39) rfl t 0 _ rfl rfl rfl 41 _ r1 (show 0 < 10 by decide) size36 ?_; intro w2 F2 r2' z2; obtain ⟨kc, r2⟩ : ∃ c, w2.heap[t]? = some (.cells (tlv c (.int .u64 0) (.bool false) p 0 0 0) 41) := ⟨_, r2'⟩; clear r2' z2)
          | (refine wpList_store_cell rfl 4 (.tmp 48) (.tmp 46) rfl t 2 _ rfl rfl rfl 41 _ r2 (show 2 < 10 by decide) size4 ?_; intro w3 F3 r3' z3; obtain ⟨kk, r3⟩ : ∃ k, w3.heap[t]? = some (.cells (tlv kc (.int .u64 0) k p 0 0 0) 41) := ⟨_, r3'⟩; clear r3' z3)
          | (refine wpList_store_cell rfl 37 (.tmp 55) (.tmp 52) rfl t 1 (.int .u64 (x % 32)) rfl rfl rfl 41 _ r3 (show 1 < 10 by decide) size37 ?_; intro w4 F4 r4' z4; have r4 : w4.heap[t]? = some (.cells (tlv kc (.int .u64 (x % 32)) kk p 0 0 0) 41) := r4'; have E4 := ((E1.keep F2).keep F3).keep F4; have G4 : Fr [t] w w4 := ((F1.trans F2 (by simp)).trans F3 (by simp)).trans F4 (by simp); have t1 := tlv1 r4; have t3 := tlv3 r4; clear r4' z4)
          | (refine wpList_store_cell rfl 3 (.tmp 99) (.tmp 97) rfl t 5 (.int .i64 ((p : Int) + 1 - p)) rfl rfl rfl 41 _ r4 (show 5 < 10 by decide) size3 ?_; intro w7 F7 r7' z7; obtain ⟨km, kil, hil, r7⟩ : ∃ m il, il = (p : Int) + 1 - p ∧ w7.heap[t]? = some (.cells (tlv kc m kk p il 0 0) 41) := ⟨_, _, rfl, r7'⟩; have E7 := E4.keep F7; have G7 := G4.trans F7 (by simp); have c27 := scn2 E7.hs; have cq := E7.hb (p + 1) 128 hlc; replace hil : Hid (kil = (p : Int) + 1 - p) := hil; clear r7' z7)
          | (go_at_call 16; refine (len_ind s b o cap ((p + 1)) n ((p : Int) + 1) (by omega) l p _ hn hl hqp2 ho.out E7.hb E7.hs hI).mono ?_; rintro e w8 ⟨q1, hq1, rfl, F8⟩; have r8 := F8.get r7 (by simp); have G8 := G7.trans0 F8)
          | (refine wpList_store_cell rfl 2 (.tmp 149) (.tmp 147) rfl t 7 (.int .i64 (-1)) rfl rfl rfl 41 _ r8 (show 7 < 10 by decide) size2 ?_; intro w9 F9 r9' z9; have r9 : w9.heap[t]? = some (.cells (tlv kc km kk p kil 0 (-1)) 41) := r9'; have G9 := G8.trans F9 (by simp); have t39 := tlv3 r9; clear r9' z9)
          | (refine wpList_store_cell rfl 3 (.tmp 158) (.tmp 156) rfl t 6 _ rfl rfl rfl 41 _ r9 (show 6 < 10 by decide) size3 ?_; intro wa Fa ra' za; obtain ⟨kx, ra⟩ : ∃ x, wa.heap[t]? = some (.cells (#[kc, km, kk, .int .i64 p, .int .i64 0, .int .i64 kil, x, .int .i64 (-1), .slice none 0 0, .bool false]) 41) := ⟨_, ra'⟩; have Ga := G9.trans Fa (by simp); clear ra' za))
        go_ret
        rw [hE.out]
        exact ⟨Ga, _, ra, rfl, .inr ⟨hy.out, rfl, rfl⟩⟩
      · have hni : Hid (¬ hk l p) := by show ¬ _; rw [hD.2, hlc]; simpa using h8
        have hI : Hid (¬ (l[(p + 1)]? = some 128)) := by show ¬ _; rw [hlc]; simpa using h8
        have hE := hD.1
        clear hD
        cases hle : le l (p + 1) with
        | none =>
          rw [hle] at hE
          have hB : Hid (le l (p + 1) = none) := hle
          replace hE : Hid (hd l p = none) := hE
          clear hle
          go_wp2_with (first
            | (refine wpList_store_cell rfl 36 (.tmp 42) (.tmp 39) rfl t 0 _ rfl rfl rfl 41 _ r1 (show 0 < 10 by decide) size36 ?_; intro w2 F2 r2' z2; obtain ⟨kc, r2⟩ : ∃ c, w2.heap[t]? = some (.cells (tlv c (.int .u64 0) (.bool false) p 0 0 0) 41) := ⟨_, r2'⟩; clear r2' z2)
            | (refine wpList_store_cell rfl 4 (.tmp 48) (.tmp 46) rfl t 2 _ rfl rfl rfl 41 _ r2 (show 2 < 10 by decide) size4 ?_; intro w3 F3 r3' z3; obtain ⟨kk, r3⟩ : ∃ k, w3.heap[t]? = some (.cells (tlv kc (.int .u64 0) k p 0 0 0) 41) := ⟨_, r3'⟩; clear r3' z3)
            | (refine wpList_store_cell rfl 37 (.tmp 55) (.tmp 52) rfl t 1 (.int .u64 (x % 32)) rfl rfl rfl 41 _ r3 (show 1 < 10 by decide) size37 ?_; intro w4 F4 r4' z4; have r4 : w4.heap[t]? = some (.cells (tlv kc (.int .u64 (x % 32)) kk p 0 0 0) 41) := r4'; have E4 := ((E1.keep F2).keep F3).keep F4; have G4 : Fr [t] w w4 := ((F1.trans F2 (by simp)).trans F3 (by simp)).trans F4 (by simp); have t1 := tlv1 r4; have t3 := tlv3 r4; clear r4' z4)
            | (refine wpList_store_cell rfl 3 (.tmp 99) (.tmp 97) rfl t 5 (.int .i64 ((p : Int) + 1 - p)) rfl rfl rfl 41 _ r4 (show 5 < 10 by decide) size3 ?_; intro w7 F7 r7' z7; obtain ⟨km, kil, hil, r7⟩ : ∃ m il, il = (p : Int) + 1 - p ∧ w7.heap[t]? = some (.cells (tlv kc m kk p il 0 0) 41) := ⟨_, _, rfl, r7'⟩; have E7 := E4.keep F7; have G7 := G4.trans F7 (by simp); have c27 := scn2 E7.hs; have cq := E7.hb (p + 1) c hlc; replace hil : Hid (kil = (p : Int) + 1 - p) := hil; clear r7' z7)
            | (go_at_call 16; refine (len_bad s b o cap ((p + 1)) n ((p : Int) + 1) (by omega) l p _ hn hl hqp2 ho.out E7.hb E7.hs hB hI).mono ?_; rintro e w8 ⟨er, rfl, F8⟩))
          go_ret
          rw [hE.out]
          exact ⟨G7.trans0 F8, _, F8.get r7 (by simp), rfl, .inl ⟨hni.out, _, rfl⟩⟩
        | some yq =>
          obtain ⟨y, q1⟩ := yq
          rw [hle] at hE
          have hB : Hid (le l (p + 1) = some (y, q1)) := hle
          replace hE : Hid (hd l p = some (y, q1)) := hE
          have hyb := le_pos ho.out hle
          rw [hn.out] at hyb
          obtain ⟨hyb1, hyb2, hyb3⟩ := hyb
          clear hle
          go_wp2_with (first
            | (refine wpList_store_cell rfl 36 (.tmp 42) (.tmp 39) rfl t 0 _ rfl rfl rfl 41 _ r1 (show 0 < 10 by decide) size36 ?_; intro w2 F2 r2' z2; obtain ⟨kc, r2⟩ : ∃ c, w2.heap[t]? = some (.cells (tlv c (.int .u64 0) (.bool false) p 0 0 0) 41) := ⟨_, r2'⟩; clear r2' z2)
            | (refine wpList_store_cell rfl 4 (.tmp 48) (.tmp 46) rfl t 2 _ rfl rfl rfl 41 _ r2 (show 2 < 10 by decide) size4 ?_; intro w3 F3 r3' z3; obtain ⟨kk, r3⟩ : ∃ k, w3.heap[t]? = some (.cells (tlv kc (.int .u64 0) k p 0 0 0) 41) := ⟨_, r3'⟩; clear r3' z3)
            | (refine wpList_store_cell rfl 37 (.tmp 55) (.tmp 52) rfl t 1 (.int .u64 (x % 32)) rfl rfl rfl 41 _ r3 (show 1 < 10 by decide) size37 ?_; intro w4 F4 r4' z4; have r4 : w4.heap[t]? = some (.cells (tlv kc (.int .u64 (x % 32)) kk p 0 0 0) 41) := r4'; have E4 := ((E1.keep F2).keep F3).keep F4; have G4 : Fr [t] w w4 := ((F1.trans F2 (by simp)).trans F3 (by simp)).trans F4 (by simp); have t1 := tlv1 r4; have t3 := tlv3 r4; clear r4' z4)
            | (refine wpList_store_cell rfl 3 (.tmp 99) (.tmp 97) rfl t 5 (.int .i64 ((p : Int) + 1 - p)) rfl rfl rfl 41 _ r4 (show 5 < 10 by decide) size3 ?_; intro w7 F7 r7' z7; obtain ⟨km, kil, hil, r7⟩ : ∃ m il, il = (p : Int) + 1 - p ∧ w7.heap[t]? = some (.cells (tlv kc m kk p il 0 0) 41) := ⟨_, _, rfl, r7'⟩; have E7 := E4.keep F7; have G7 := G4.trans F7 (by simp); have c27 := scn2 E7.hs; have cq := E7.hb (p + 1) c hlc; replace hil : Hid (kil = (p : Int) + 1 - p) := hil; clear r7' z7)
            | (go_at_call 16; refine (len_good s b o cap ((p + 1)) n ((p : Int) + 1) (by omega) l p _ hn hl hqp2 ho.out E7.hb E7.hs hB).mono ?_; rintro e w8 ⟨rfl, F8⟩; have r8 := F8.get r7 (by simp); have G8 := G7.trans0 F8)
            | (refine wpList_store_cell rfl 2 (.tmp 149) (.tmp 147) rfl t 7 (.int .i64 y) rfl rfl rfl 41 _ r8 (show 7 < 10 by decide) size2 ?_; intro w9 F9 r9' z9; have r9 : w9.heap[t]? = some (.cells (tlv kc km kk p kil 0 y) 41) := r9'; have G9 := G8.trans F9 (by simp); have t39 := tlv3 r9; clear r9' z9)
            | (refine wpList_store_cell rfl 3 (.tmp 158) (.tmp 156) rfl t 6 (.int .i64 ((q1 : Int) - p)) rfl rfl rfl 41 _ r9 (show 6 < 10 by decide) size3 ?_; intro wa Fa ra' za; have ra : wa.heap[t]? = some (.cells (tlv kc km kk p kil ((q1 : Int) - p) y) 41) := ra'; have Ga := G9.trans Fa (by simp); clear ra' za))
          go_ret
          rw [hE.out]
          exact ⟨Ga, _, ra, rfl, rfl, rfl, rfl⟩
  · have hgen : l[(p + 1)]? = none := at_ge hn.out hlt
    have hni : Hid (¬ hk l p) := by show ¬ _; rw [hD.2, hgen]; simp
    have hI : Hid (¬ (l[(p + 1)]? = some 128)) := by show ¬ _; rw [hgen]; simp
    have hB : Hid (le l (p + 1) = none) := by show le l _ = _; unfold le; rw [hgen]
    have hE : Hid (hd l p = none) := by show hd l p = _; rw [hD.1, hB.out]
    clear hD hgen
    have hcmp : ¬ ((p : Int) + 1 < n) := by omega
    replace hlt : Hid (¬ p + 1 < n) := hlt
    replace hqp2 : Hid (p + 1 ≤ n) := hqp2
    go_wp2_with (first
      | (refine wpList_store_cell rfl 36 (.tmp 42) (.tmp 39) rfl t 0 _ rfl rfl rfl 41 _ r1 (show 0 < 10 by decide) size36 ?_; intro w2 F2 r2' z2; obtain ⟨kc, r2⟩ : ∃ c, w2.heap[t]? = some (.cells (tlv c (.int .u64 0) (.bool false) p 0 0 0) 41) := ⟨_, r2'⟩; clear r2' z2)
      | (refine wpList_store_cell rfl 4 (.tmp 48) (.tmp 46) rfl t 2 _ rfl rfl rfl 41 _ r2 (show 2 < 10 by decide) size4 ?_; intro w3 F3 r3' z3; obtain ⟨kk, r3⟩ : ∃ k, w3.heap[t]? = some (.cells (tlv kc (.int .u64 0) k p 0 0 0) 41) := ⟨_, r3'⟩; clear r3' z3)
      | (refine wpList_store_cell rfl 37 (.tmp 55) (.tmp 52) rfl t 1 (.int .u64 (x % 32)) rfl rfl rfl 41 _ r3 (show 1 < 10 by decide) size37 ?_; intro w4 F4 r4' z4; have r4 : w4.heap[t]? = some (.cells (tlv kc (.int .u64 (x % 32)) kk p 0 0 0) 41) := r4'; have E4 := ((E1.keep F2).keep F3).keep F4; have G4 : Fr [t] w w4 := ((F1.trans F2 (by simp)).trans F3 (by simp)).trans F4 (by simp); have t1 := tlv1 r4; have t3 := tlv3 r4; clear r4' z4)
      | (refine wpList_store_cell rfl 3 (.tmp 99) (.tmp 97) rfl t 5 (.int .i64 ((p : Int) + 1 - p)) rfl rfl rfl 41 _ r4 (show 5 < 10 by decide) size3 ?_; intro w7 F7 r7' z7; obtain ⟨km, kil, hil, r7⟩ : ∃ m il, il = (p : Int) + 1 - p ∧ w7.heap[t]? = some (.cells (tlv kc m kk p il 0 0) 41) := ⟨_, _, rfl, r7'⟩; have E7 := E4.keep F7; have G7 := G4.trans F7 (by simp); have c27 := scn2 E7.hs; replace hil : Hid (kil = (p : Int) + 1 - p) := hil; clear r7' z7)
      | (go_at_call 16; refine (len_bad s b o cap ((p + 1)) n ((p : Int) + 1) (by omega) l p _ hn hl hqp2.out ho.out E7.hb E7.hs hB hI).mono ?_; rintro e w8 ⟨er, rfl, F8⟩))
    go_ret
    rw [hE.out]
    exact ⟨G7.trans0 F8, _, F8.get r7 (by simp), rfl, .inl ⟨hni.out, _, rfl⟩⟩
end Go.Proofs.YbulkdusoFmt
