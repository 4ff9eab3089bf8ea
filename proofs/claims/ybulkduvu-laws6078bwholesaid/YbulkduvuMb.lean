import Derived.Test.YbulkduvuMh
namespace Go.Proofs.Ybulkduvu.Base
open Go Go.RowKit
section
variable {P : Program} {ops : Array Oper} {Q : Exit → Act → World → Prop} {md : Region.Mode} {S : World → Prop} {fuel : Nat} {listed : Array Bool} {a : Act} {w : World} {o : Oper}
theorem any_store_cell (j : Nat) (hj : ops[j]? = some o) (hr : Region.ready md ops listed = [j]) (hg : o.guard = none) (ty : TypeId) (x y : Operand) (ho : o.op = .store ty x y)
    (g i : Nat) (v : Value) (hx : a.eval x = .pointer (some ⟨g, i, none⟩)) (hy : a.eval y = v) (h1 : v.oneCell' = true)
    (t : TypeId) (cs : Array Value) (hrow : w.heap[g]? = some (.cells cs t)) (hi : i < cs.size) (hz : (P.info? ty).map (·.size) = some 1)
    (hK : ∀ w1, Fr [g] w w1 → w1.heap[g]? = some (.cells (cs.setIfInBounds i v) t) → Hid (w1.heap.size = w.heap.size) → S w1 ∧ wpAnyH P md ops Q S fuel (listed.setIfInBounds j true) (a.put o.dst undef) w1) :
    wpAnyH P md ops Q S (fuel + 1) listed a w := by
  have hc : w.cell? ⟨g, i, none⟩ = some cs[i] := by rw [cell_of_row w g i cs t _ hrow]; simp [hi]
  have hf : w.frozen? ⟨g, i, none⟩ = false := frozen_of_row w g i cs t hrow
  have hcells : v.cells = #[v] := by cases v <;> simp [Value.oneCell', Value.cells] at h1 ⊢
  refine any_unit j hj hr hg (w.setCell ⟨g, i, none⟩ v) ?_ (hK _ (Fr.setCell w ⟨g, i, none⟩ v) (heap_setCell_same w g i cs t v hrow) (World.size_setCell _ _ _))
  cases hq : P.info? ty with
  | none => simp [hq] at hz
  | some inf =>
    have hs : inf.size = 1 := by simpa [hq] using hz
    simp [execOp, ho, hx, hy, Instr.storeAt, Instr.sureAddr, storeVar, sizeOf, typeInfo, hq, hs, hcells, storeCells, Addr.add, run_store _ _ _ _ _ h1, hc, hf]
end
end Go.Proofs.Ybulkduvu.Base

namespace Go.Proofs.Ybulkduvu
open Go.RowKit Base

theorem exec_index {w : World} {o : Oper} {a : Act} {T : TypeId} {x i : Operand} (ho : o.op = .indexAddr T x i) {xv iv v : Value} {w1 : World} (hx : a.eval x = xv) (hi : a.eval i = iv) (hrun : (Instr.indexAt T xv iv).run Yba.prog w = .ok v w1) : (execOp a.eval o).run Yba.prog w = .ok (.value v) w1 := by
  simp [execOp, ho, hx, hi, hrun]

section
variable {w w4 w5 w6 : World} {base mb n : Nat} {cl : Nat → Int} {ks : List Int} {L : Int → List Nat} {K Ls : Value} {W : Int → Value} {ox : List Nat} {k : Int}

theorem Md.app (h : Md w4 base mb n cl ks L K Ls W ox) (hbase : base ≤ w4.heap.size) {i c : Nat} (hi : ks[i]? = some k) {v5 : Value} (hfr : (blk v5 = blk (W k) ∧ Fr (blk (W k)) w4 w5) ∨ (blk v5 = [w4.heap.size] ∧ Fr [] w4 w5))
    (seg5 : Seg w5 v5 3 1 (L k ++ [c]).length (nis (L k ++ [c]))) {lb lo cap : Nat} {cs : Array Value} (hls : Ls = .slice (some ⟨lb, lo, none⟩) ks.length cap) (rl : w4.heap[lb]? = some (.cells cs 40)) (F6 : Fr [lb] w5 w6) (r6 : w6.heap[lb]? = some (.cells (cs.setIfInBounds (lo + i) v5) 40)) :
    ∃ ox', (∀ b ∈ ox', b ∈ ox ∨ w4.heap.size ≤ b) ∧ Fr (mb :: ox) w4 w6 ∧ Md w6 base mb (n + 1) cl ks (upd L k (L k ++ [c])) K Ls (upd W k v5) ox' := by
  have hk : k ∈ ks := List.mem_of_getElem? hi
  have F5 : Fr (blk (W k)) w4 w5 := by
    rcases hfr with ⟨_, F⟩ | ⟨_, F⟩
    · exact F
    · exact F.mono (by simp)
  have tyk : ∀ b ∈ blk (W k), ∃ cs, w5.heap[b]? = some (.cells cs 3) := fun b hb => by
    rcases hfr with ⟨e, _⟩ | ⟨_, F⟩
    · exact Seg.type seg5 b (by rw [e]; exact hb)
    · obtain ⟨cs', hcs'⟩ := Seg.type (h.iseg k hk) b hb
      exact ⟨cs', F.get hcs' (by simp)⟩
  have hl : (L k ++ [c]).length ≤ n + 1 := by have := h.len k; simp; omega
  have FF : Fr (mb :: ox) w4 w6 := (F5.mono (fun x hx => .inl (List.mem_cons_of_mem _ (h.oi k hk x hx)))).trans F6 (fun x hx => by simp at hx; subst hx; exact .inl (List.mem_cons_of_mem _ (h.ol x (by rw [hls]; simp [blk]))))
  rcases hfr with ⟨e, F⟩ | ⟨e, F⟩
  · exact ⟨[] ++ ox, fun b hb => .inl (by simpa using hb), FF, h.list hbase hi (ox1 := []) F5 seg5 (fun b hb => .inl (by rw [← e]; exact hb)) (by simp) tyk hls rl F6 r6 hl⟩
  · refine ⟨[w4.heap.size] ++ ox, fun b hb => (List.mem_append.1 hb).elim (fun h' => .inr (by simp at h'; omega)) .inl, FF, h.list hbase hi (ox1 := [w4.heap.size]) F5 seg5 (fun b hb => .inr (by rw [e] at hb; exact hb)) (fun b hb => ?_) tyk hls rl F6 r6 hl⟩
    simp at hb
    subst hb
    exact ⟨Nat.le_refl _, Seg.type seg5 _ (by rw [e]; simp)⟩

set_option maxHeartbeats 4000000 in
set_option maxRecDepth 100000 in
theorem mattach_any (h : Md w base mb n cl ks L K Ls W ox) (hbase : base ≤ w.heap.size) (hn1 : n + 3 ≤ 1000000) {c : Nat} (hc : c < 5) {k : Int} :
    Calls Yba.prog 10 #[.pointer (some ⟨mb, 0, none⟩), .int .i64 c, .int .i64 k] w fun e w' => e = .returned (.tuple #[]) ∧ Fr (mb :: ox) w w' ∧ ∃ ks' K' Ls' W' ox', (∀ x ∈ ks', x ∈ ks ∨ x = k) ∧ Md w' base mb (n + 3) (upd (fcl cl c) c k) ks' (upd (fL cl L c) k (fL cl L c k ++ [c])) K' Ls' W' ox' := by
  obtain ⟨L1, hL1⟩ : ∃ L1, L1 = fL cl L c := ⟨_, rfl⟩
  obtain ⟨cl1, hcl1⟩ : ∃ cl1, cl1 = fcl cl c := ⟨_, rfl⟩
  rw [← hL1, ← hcl1]
  replace hL1 : Hid (L1 = fL cl L c) := hL1
  replace hcl1 : Hid (cl1 = fcl cl c) := hcl1
  replace hbase : Hid (base ≤ w.heap.size) := hbase
  by_cases hks : k ∈ ks
  · obtain ⟨i, him0, hie⟩ := List.getElem_of_mem hks
    have hi : ks[i]? = some k := by rw [List.getElem?_eq_getElem him0, hie]
    clear hie hks
    obtain ⟨m, hm⟩ : ∃ m, ks.length = m := ⟨_, rfl⟩
    rw [hm] at him0
    have him : i < m := him0
    clear him0
    have hmn : m ≤ n := by rw [← hm]; exact h.kn
    replace hi : Hid (ks[i]? = some k) := hi
    replace hm : Hid (ks.length = m) := hm
    go_enter Yba.func10, Yba.ntmps10
    go_wp2_with (first
      | (go_at_call 12; have hf := mforget_any h hbase.out (by omega) hc; rw [← hL1.out, ← hcl1.out] at hf; refine hf.mono ?_; clear hf; rintro e w1 ⟨rfl, F1, W1, ox1, hox1, M1⟩; have rm1 := M1.rm)
      | (refine wpList_store_cell rfl 3 (.tmp 15) (.tmp 12) rfl mb c (.int .i64 k) rfl rfl rfl 43 _ rm1 (by simp [mRow]; omega) size3 ?_; intro w2 F2 r2 z2; rw [mRow_set hc] at r2; have M2 := M1.client F2 r2)
      | (go_at_call 16; refine (find_in M2 (by omega) hm hi him).mono ?_; rintro e w3 ⟨rfl, hw3⟩; have hw3' := hw3.symm; subst hw3'))
    have F12 : Fr (mb :: ox) w w2 := F1.trans F2 (fun x hx => by simp at hx; subst hx; exact .inl (by simp))
    have hox2 : ∀ b ∈ ox1, b ∈ ox ∨ w.heap.size ≤ b := hox1
    replace hox2 : Hid _ := hox2
    clear F1 F2 r2 rm1 M1 hox1
    have c6 := m6 M2.rm
    have hls := M2.lseg
    rw [hm.out] at hls
    obtain ⟨lb, lo, lc, he, hel⟩ := Seg.at hls him
    have hWt := hel _ (by rw [List.getElem?_map, hi.out]; rfl)
    obtain ⟨Wk, hWk⟩ : ∃ Wk, Wk = W1 k := ⟨_, rfl⟩
    rw [← hWk] at hWt
    have hkm : k ∈ ks := List.mem_of_getElem? hi.out
    have hwk := M2.iseg k hkm
    rw [← hWk] at hwk
    obtain ⟨cs40, rl⟩ : ∃ cs, w2.heap[lb]? = some (.cells cs 40) := Seg.type hls lb (by rw [he]; simp [blk])
    have hlfit : lo + (i) < cs40.size := by
      rcases hls with ⟨e, _⟩ | ⟨b, o, cap', cs', e, hr, hnc, hfit, _⟩
      · rw [he] at e; cases e
      · rw [he] at e; cases e; rw [rl] at hr; cases hr; omega
    have hlk : (L1 k).length ≤ 1000000 := Nat.le_trans (M2.len k) (by omega)
    have sz7 : base ≤ w2.heap.size := Nat.le_trans hbase.out F12.size
    replace sz7 : Hid _ := sz7
    have hS := M2.rm
    rw [he] at hS c6
    clear hel hls
    refine any_begin (fun w' => w'.heap[mb]? = some (.cells (mRow (upd cl1 c k) K (.slice (some ⟨lb, lo, none⟩) m lc)) 43)) (by kernel_rfl) hS ?_
    refine any_take 0 rfl (some 46) rfl (by kernel_rfl) (by kernel_rfl) (by kernel_rfl) rfl (.pointer (some ⟨mb, 0, none⟩)) (fun _ _ _ h => h) (fun _ _ => rfl) hS ?_
    simp only [Act.put, List.setIfInBounds_toArray, List.set_cons_zero, List.set_cons_succ]
    refine any_take 1 rfl (some 47) rfl (by kernel_rfl) (by kernel_rfl) (by kernel_rfl) rfl (.pointer (some ⟨mb, 0, none⟩)) (fun _ _ _ h => h) (fun _ _ => by first | rfl | kernel_rfl) hS ?_
    simp only [Act.put, List.setIfInBounds_toArray, List.set_cons_zero, List.set_cons_succ]
    refine any_take 2 rfl (some 48) rfl (by kernel_rfl) (by kernel_rfl) (by kernel_rfl) rfl (.pointer (some ⟨mb, 6, none⟩)) (fun _ _ _ h => h) (fun _ _ => by first | rfl | kernel_rfl) hS ?_
    simp only [Act.put, List.setIfInBounds_toArray, List.set_cons_zero, List.set_cons_succ]
    refine any_load_cell 3 rfl (some 49) rfl (by kernel_rfl) (by kernel_rfl) (by kernel_rfl) rfl (.slice (some ⟨lb, lo, none⟩) m lc) (fun _ _ _ h => h) 41 (.tmp 48) rfl ⟨mb, 6, none⟩ rfl (fun w h => m6 h) _ Yba.underlying41 rfl hS ?_
    simp only [Act.put, List.setIfInBounds_toArray, List.set_cons_zero, List.set_cons_succ]
    refine any_take 4 rfl (some 50) rfl (by kernel_rfl) (by kernel_rfl) (by kernel_rfl) rfl (.int .i64 (i)) (fun _ _ _ h => h) (fun _ _ => rfl) hS ?_
    simp only [Act.put, List.setIfInBounds_toArray, List.set_cons_zero, List.set_cons_succ]
    refine any_take 5 rfl (some 51) rfl (by kernel_rfl) (by kernel_rfl) (by kernel_rfl) rfl (.pointer (some ⟨mb, 0, none⟩)) (fun _ _ _ h => h) (fun _ _ => rfl) hS ?_
    simp only [Act.put, List.setIfInBounds_toArray, List.set_cons_zero, List.set_cons_succ]
    refine any_take 6 rfl (some 52) rfl (by kernel_rfl) (by kernel_rfl) (by kernel_rfl) rfl (.pointer (some ⟨mb, 0, none⟩)) (fun _ _ _ h => h) (fun _ _ => by first | rfl | kernel_rfl) hS ?_
    simp only [Act.put, List.setIfInBounds_toArray, List.set_cons_zero, List.set_cons_succ]
    refine any_take 7 rfl (some 53) rfl (by kernel_rfl) (by kernel_rfl) (by kernel_rfl) rfl (.pointer (some ⟨mb, 6, none⟩)) (fun _ _ _ h => h) (fun _ _ => by first | rfl | kernel_rfl) hS ?_
    simp only [Act.put, List.setIfInBounds_toArray, List.set_cons_zero, List.set_cons_succ]
    refine any_load_cell 8 rfl (some 54) rfl (by kernel_rfl) (by kernel_rfl) (by kernel_rfl) rfl (.slice (some ⟨lb, lo, none⟩) m lc) (fun _ _ _ h => h) 41 (.tmp 53) rfl ⟨mb, 6, none⟩ rfl (fun w h => m6 h) _ Yba.underlying41 rfl hS ?_
    simp only [Act.put, List.setIfInBounds_toArray, List.set_cons_zero, List.set_cons_succ]
    refine any_take 9 rfl (some 55) rfl (by kernel_rfl) (by kernel_rfl) (by kernel_rfl) rfl (.int .i64 (i)) (fun _ _ _ h => h) (fun _ _ => rfl) hS ?_
    simp only [Act.put, List.setIfInBounds_toArray, List.set_cons_zero, List.set_cons_succ]
    refine any_take 10 rfl (some 56) rfl (by kernel_rfl) (by kernel_rfl) (by kernel_rfl) rfl (.pointer (some ⟨lb, lo + (i), none⟩)) (fun _ _ _ h => h) (fun w _ => exec_index (xv := .slice (some ⟨lb, lo, none⟩) m lc) (iv := .int .i64 ((i : Nat) : Int)) rfl rfl rfl (idx41 him w)) hS ?_
    simp only [Act.put, List.setIfInBounds_toArray, List.set_cons_zero, List.set_cons_succ]
    refine any_take 12 rfl (some 58) rfl (by kernel_rfl) (by kernel_rfl) (by kernel_rfl) rfl (.int .i64 c) (fun _ _ _ h => h) (fun _ _ => rfl) hS ?_
    simp only [Act.put, List.setIfInBounds_toArray, List.set_cons_zero, List.set_cons_succ]
    refine any_two 11 13 rfl rfl (by kernel_rfl) rfl rfl ?_ ?_
    · refine wp_val (some 57) rfl Wk w2.drew (exec_load_cell (ad := ⟨lb, lo + (i), none⟩) rfl rfl hWt Yba.underlying40 rfl) ⟨hS, ?_⟩
      simp only [Act.put, List.setIfInBounds_toArray, List.set_cons_zero, List.set_cons_succ]
      refine any_buildSlice 13 rfl (by kernel_rfl) rfl (some 59) rfl 40 1 [(0, .tmp 58)] rfl [(0, .int .i64 (c : Int))] rfl _ 3 (bs40 (c : Int)) ?_
      intro nb4 w4' e4' F4 rn4 z4'
      refine ⟨F4.get hS (by simp), ?_⟩
      simp only [Act.put, List.setIfInBounds_toArray, List.set_cons_zero, List.set_cons_succ]
      have M4 := M2.keep0 ((Fr.drew w2).trans0 F4)
      have rl4 := ((Fr.drew w2).trans0 F4).get rl (by simp)
      obtain ⟨a5, cap5, w5', hap, seg5', hfr5'⟩ := app3 (hwk.keep ((Fr.drew w2).trans0 F4) (by simp)) hlk rn4
      have hS5 : w5'.heap[mb]? = some (.cells (mRow (upd cl1 c k) K (.slice (some ⟨lb, lo, none⟩) m lc)) 43) := by
        rcases hfr5' with ⟨_, F5⟩ | ⟨_, F5⟩
        · exact F5.get (F4.get hS (by simp)) (by rw [hWk]; exact fun hb => M2.mb_ox (M2.oi k hkm mb hb))
        · exact F5.get (F4.get hS (by simp)) (by simp)
      refine any_val 14 rfl (by kernel_rfl) rfl (some 60) rfl _ w5' (exec_append rfl rfl rfl hap) ⟨hS5, ?_⟩
      simp only [Act.put, List.setIfInBounds_toArray, List.set_cons_zero, List.set_cons_succ]
      refine any_take 15 rfl (some 61) rfl (by kernel_rfl) (by kernel_rfl) (by kernel_rfl) rfl (.pointer (some ⟨lb, lo + (i), none⟩)) (fun _ _ _ h => h) (fun w _ => exec_index (xv := .slice (some ⟨lb, lo, none⟩) m lc) (iv := .int .i64 ((i : Nat) : Int)) rfl rfl rfl (idx41 him w)) hS5 ?_
      simp only [Act.put, List.setIfInBounds_toArray, List.set_cons_zero, List.set_cons_succ]
      have rl5 : w5'.heap[lb]? = some (.cells cs40 40) := by
        rcases hfr5' with ⟨_, F5⟩ | ⟨_, F5⟩
        · exact F5.get rl4 (by rw [hWk]; exact fun hb => M2.i_ls hkm hb (by first | (rw [he]; done) | (rw [he]; simp [blk])))
        · exact F5.get rl4 (by simp)
      refine any_store_cell 16 rfl (by kernel_rfl) rfl 40 (.tmp 61) (.tmp 60) rfl lb (lo + (i)) (.slice a5 ((L1 k).length + 1) cap5) rfl rfl rfl 40 _ rl5 hlfit size40 ?_
      intro w6' F6' r6' z6'
      have hS6 : w6'.heap[mb]? = some (.cells (mRow (upd cl1 c k) K (.slice (some ⟨lb, lo, none⟩) m lc)) 43) := F6'.get hS5 (by simpa using ne_type hS5 rl5 (by decide))
      refine ⟨hS6, ?_⟩
      simp only [Act.put]
      refine any_done (by kernel_rfl) ?_
      go_wp2
      go_end0
      rw [hWk] at hfr5'
      have hsz4 : base ≤ w4'.heap.size := Nat.le_trans sz7.out (Fr.size ((Fr.drew w2).trans0 F4))
      obtain ⟨ox9, hox9, F9', M9⟩ := M4.app (c := c) hsz4 hi.out hfr5' (by simpa [nis] using seg5') (by first | (rw [hm.out]; exact he) | (rw [hm.out])) rl4 F6' r6'
      refine ⟨rfl, (F12.trans0 ((Fr.drew w2).trans0 F4)).trans F9' (fun x hx => ?_), _, _, _, _, _, (fun x hx => by first | exact .inl hx | simpa using hx), M9.mono (by omega)⟩
      rcases List.mem_cons.1 hx with rfl | hx
      · exact .inl (by simp)
      · rcases hox2.out x hx with h' | h'
        · exact .inl (List.mem_cons_of_mem _ h')
        · exact .inr h'
    · refine wp_val (some 59) rfl _ _ (exec_buildSlice (parts := [(0, .tmp 58)]) (vs := [(0, .int .i64 (c : Int))]) rfl rfl (bs40 (c : Int) w2.drew)) ?_
      obtain ⟨w4', hw4⟩ : ∃ w4', w4' = w2.drew.alloc (.cells #[.int .i64 (c : Int)] 3) := ⟨_, rfl⟩
      obtain ⟨nb4, hnb⟩ : ∃ nb4, nb4 = w2.drew.heap.size := ⟨_, rfl⟩
      have F4 : Fr [] w2.drew w4' := by rw [hw4]; exact Fr.alloc _ _
      have rn4 : w4'.heap[nb4]? = some (.cells #[.int .i64 (c : Int)] 3) := by rw [hw4, hnb]; exact heap_alloc_new _ _
      rw [← hw4, ← hnb]
      clear hw4 hnb
      refine ⟨F4.get hS (by simp), ?_⟩
      simp only [Act.put, List.setIfInBounds_toArray, List.set_cons_zero, List.set_cons_succ]
      refine any_val 11 rfl (by kernel_rfl) rfl (some 57) rfl Wk w4' (exec_load_cell (ad := ⟨lb, lo + (i), none⟩) rfl rfl (F4.cell hWt (by simp)) Yba.underlying40 rfl) ⟨F4.get hS (by simp), ?_⟩
      simp only [Act.put, List.setIfInBounds_toArray, List.set_cons_zero, List.set_cons_succ]
      have M4 := M2.keep0 ((Fr.drew w2).trans0 F4)
      have rl4 := ((Fr.drew w2).trans0 F4).get rl (by simp)
      obtain ⟨a5, cap5, w5', hap, seg5', hfr5'⟩ := app3 (hwk.keep ((Fr.drew w2).trans0 F4) (by simp)) hlk rn4
      have hS5 : w5'.heap[mb]? = some (.cells (mRow (upd cl1 c k) K (.slice (some ⟨lb, lo, none⟩) m lc)) 43) := by
        rcases hfr5' with ⟨_, F5⟩ | ⟨_, F5⟩
        · exact F5.get (F4.get hS (by simp)) (by rw [hWk]; exact fun hb => M2.mb_ox (M2.oi k hkm mb hb))
        · exact F5.get (F4.get hS (by simp)) (by simp)
      refine any_val 14 rfl (by kernel_rfl) rfl (some 60) rfl _ w5' (exec_append rfl rfl rfl hap) ⟨hS5, ?_⟩
      simp only [Act.put, List.setIfInBounds_toArray, List.set_cons_zero, List.set_cons_succ]
      refine any_take 15 rfl (some 61) rfl (by kernel_rfl) (by kernel_rfl) (by kernel_rfl) rfl (.pointer (some ⟨lb, lo + (i), none⟩)) (fun _ _ _ h => h) (fun w _ => exec_index (xv := .slice (some ⟨lb, lo, none⟩) m lc) (iv := .int .i64 ((i : Nat) : Int)) rfl rfl rfl (idx41 him w)) hS5 ?_
      simp only [Act.put, List.setIfInBounds_toArray, List.set_cons_zero, List.set_cons_succ]
      have rl5 : w5'.heap[lb]? = some (.cells cs40 40) := by
        rcases hfr5' with ⟨_, F5⟩ | ⟨_, F5⟩
        · exact F5.get rl4 (by rw [hWk]; exact fun hb => M2.i_ls hkm hb (by first | (rw [he]; done) | (rw [he]; simp [blk])))
        · exact F5.get rl4 (by simp)
      refine any_store_cell 16 rfl (by kernel_rfl) rfl 40 (.tmp 61) (.tmp 60) rfl lb (lo + (i)) (.slice a5 ((L1 k).length + 1) cap5) rfl rfl rfl 40 _ rl5 hlfit size40 ?_
      intro w6' F6' r6' z6'
      have hS6 : w6'.heap[mb]? = some (.cells (mRow (upd cl1 c k) K (.slice (some ⟨lb, lo, none⟩) m lc)) 43) := F6'.get hS5 (by simpa using ne_type hS5 rl5 (by decide))
      refine ⟨hS6, ?_⟩
      simp only [Act.put]
      refine any_done (by kernel_rfl) ?_
      go_wp2
      go_end0
      rw [hWk] at hfr5'
      have hsz4 : base ≤ w4'.heap.size := Nat.le_trans sz7.out (Fr.size ((Fr.drew w2).trans0 F4))
      obtain ⟨ox9, hox9, F9', M9⟩ := M4.app (c := c) hsz4 hi.out hfr5' (by simpa [nis] using seg5') (by first | (rw [hm.out]; exact he) | (rw [hm.out])) rl4 F6' r6'
      refine ⟨rfl, (F12.trans0 ((Fr.drew w2).trans0 F4)).trans F9' (fun x hx => ?_), _, _, _, _, _, (fun x hx => by first | exact .inl hx | simpa using hx), M9.mono (by omega)⟩
      rcases List.mem_cons.1 hx with rfl | hx
      · exact .inl (by simp)
      · rcases hox2.out x hx with h' | h'
        · exact .inl (List.mem_cons_of_mem _ h')
        · exact .inr h'
  · obtain ⟨m, hm⟩ : ∃ m, ks.length = m := ⟨_, rfl⟩
    have hmn : m ≤ n := by rw [← hm]; exact h.kn
    replace hks : Hid (k ∉ ks) := hks
    replace hm : Hid (ks.length = m) := hm
    have hm6 : m ≤ 1000000 := by omega
    go_enter Yba.func10, Yba.ntmps10
    go_wp2_with (first
      | (go_at_call 12; have hf := mforget_any h hbase.out (by omega) hc; rw [← hL1.out, ← hcl1.out] at hf; refine hf.mono ?_; clear hf; rintro e w1 ⟨rfl, F1, W1, ox1, hox1, M1⟩; have rm1 := M1.rm)
      | (refine wpList_store_cell rfl 3 (.tmp 15) (.tmp 12) rfl mb c (.int .i64 k) rfl rfl rfl 43 _ rm1 (by simp [mRow]; omega) size3 ?_; intro w2 F2 r2 z2; rw [mRow_set hc] at r2; have M2 := M1.client F2 r2; have c5 := m5 r2)
      | (go_at_call 16; refine (find_out M2 (by omega) hm hks).mono ?_; rintro e w3 ⟨rfl, hw3⟩; have hw3' := hw3.symm; subst hw3')
      | (refine wpList_buildSlice rfl (some 27) rfl 40 1 [(0, .tmp 26)] rfl [(0, .int .i64 k)] rfl _ 3 (bs40 k) ?_; intro nb w4 e4 F4 rn4 z4; have sk4 := M2.kseg.keep F4 (by simp); rw [hm.out] at sk4; obtain ⟨ka, kcap, w5, hap5, seg5, hfr5⟩ := app3 sk4 hm6 rn4)
      | (refine wpList_do rfl (some 28) rfl _ w5 (exec_append rfl rfl rfl hap5) ?_; have rm5 : w5.heap[mb]? = some (.cells (mRow (upd cl1 c k) K Ls) 43) := (by rcases hfr5 with ⟨_, F5⟩ | ⟨_, F5⟩; exact F5.get (F4.get r2 (by simp)) (fun hb => M2.mb_ox (M2.ok_ mb hb)); exact F5.get (F4.get r2 (by simp)) (by simp)))
      | (refine wpList_store_cell rfl 40 (.tmp 30) (.tmp 28) rfl mb 5 (.slice ka (m + 1) kcap) rfl rfl rfl 43 _ rm5 (show 5 < 7 by decide) size40 ?_; intro w6 F6 r6' z6; have r6 : w6.heap[mb]? = some (.cells (mRow (upd cl1 c k) (.slice ka (m + 1) kcap) Ls) 43) := r6'; clear r6'; obtain ⟨FA, hoxA, MA⟩ := M2.half (k := k) (Nat.le_trans hbase.out (Nat.le_trans F1.size (Nat.le_trans F2.size (Nat.le_refl _)))) F4 (by rw [hm.out]; exact seg5) hfr5 F6 r6; have c66 := m6 r6)
      | (refine wpList_buildSlice rfl (some 36) rfl 41 1 [(0, .const (.slice none 0 0))] rfl [(0, .slice none 0 0)] rfl _ 40 bs41 ?_; intro nb2 w7 e7 F7 rn7 z7; have sl7 := MA.lseg.keep F7 (by simp); rw [hm.out] at sl7; obtain ⟨la, lcap, w8, hap8, seg8, hfr8⟩ := app40 sl7 hm6 rn7)
      | (refine wpList_do rfl (some 37) rfl _ w8 (exec_append rfl rfl rfl hap8) ?_; have rm8 : w8.heap[mb]? = some (.cells (mRow (upd cl1 c k) (.slice ka (m + 1) kcap) Ls) 43) := (by rcases hfr8 with ⟨_, F8⟩ | ⟨_, F8⟩; exact F8.get (F7.get r6 (by simp)) (fun hb => M2.mb_ox (M2.ol mb hb)); exact F8.get (F7.get r6 (by simp)) (by simp)))
      | (refine wpList_store_cell rfl 41 (.tmp 39) (.tmp 37) rfl mb 6 (.slice la (m + 1) lcap) rfl rfl rfl 43 _ rm8 (show 6 < 7 by decide) size41 ?_; intro w9 F9 r9' z9; have r9 : w9.heap[mb]? = some (.cells (mRow (upd cl1 c k) (.slice ka (m + 1) kcap) (.slice la (m + 1) lcap)) 43) := r9'; clear r9'; have c59 := m5 r9))
    have sz2 : base ≤ w2.heap.size := Nat.le_trans hbase.out (Nat.le_trans F1.size F2.size)
    obtain ⟨FB, hoxB, MB⟩ := MA.full (Nat.le_trans sz2 FA.size) F7 (by rw [hm.out]; exact seg8) hfr8 F9 r9 M2.nd hks.out M2.sup M2.kn M2.len
    have F12 : Fr (mb :: ox) w w9 := ((F1.trans F2 (fun x hx => by simp at hx; subst hx; exact .inl (by simp))).trans FA (fun x hx => by
      rcases List.mem_cons.1 hx with rfl | hx
      · exact .inl (by simp)
      · rcases hox1 x hx with h' | h'
        · exact .inl (List.mem_cons_of_mem _ h')
        · exact .inr h')).trans FB (fun x hx => by
      rcases List.mem_cons.1 hx with rfl | hx
      · exact .inl (by simp)
      · rcases hoxA x hx with h' | h'
        · rcases hox1 x h' with h'' | h''
          · exact .inl (List.mem_cons_of_mem _ h'')
          · exact .inr h''
        · exact .inr (Nat.le_trans (Nat.le_trans F1.size F2.size) h'))
    have hox2 : ∀ b ∈ blk (.slice la (m + 1) lcap) ++ (blk (.slice ka (m + 1) kcap) ++ ox1), b ∈ ox ∨ w.heap.size ≤ b := fun b hb => by
      rcases hoxB b hb with h1 | h1
      · rcases hoxA b h1 with h2 | h2
        · exact hox1 b h2
        · exact .inr (Nat.le_trans (Nat.le_trans F1.size F2.size) h2)
      · exact .inr (Nat.le_trans (Nat.le_trans (Nat.le_trans F1.size F2.size) FA.size) h1)
    replace hox2 : Hid _ := hox2
    have hi : Hid ((ks ++ [k])[m]? = some k) := by show _ = _; rw [← hm.out]; simp
    have hm' : Hid ((ks ++ [k]).length = m + 1) := by show _ = _; simp [hm.out]
    have him : m < m + 1 := by omega
    clear F1 F2 F4 F6 F7 F9 FA FB MA M2 M1 hoxA hoxB hox1 hfr5 hfr8 seg5 seg8 sk4 sl7 r2 r6 rm5 rm8 rn4 rn7 hap5 hap8 rm1 sz2 c66 c5 e4 e7 z4 z7 hm6
    clear hm
    have c6 := m6 MB.rm
    have hls := MB.lseg
    rw [hm'.out] at hls
    obtain ⟨lb, lo, lc, he, hel⟩ := Seg.at hls him
    have hWt := hel _ (by rw [List.getElem?_map, hi.out]; rfl)
    obtain ⟨Wk, hWk⟩ : ∃ Wk, Wk = (upd W1 k (.slice none 0 0)) k := ⟨_, rfl⟩
    rw [← hWk] at hWt
    have hkm : k ∈ ks ++ [k] := List.mem_of_getElem? hi.out
    have hwk := MB.iseg k hkm
    rw [← hWk] at hwk
    obtain ⟨cs40, rl⟩ : ∃ cs, w9.heap[lb]? = some (.cells cs 40) := Seg.type hls lb (by rw [he]; simp [blk])
    have hlfit : lo + (m) < cs40.size := by
      rcases hls with ⟨e, _⟩ | ⟨b, o, cap', cs', e, hr, hnc, hfit, _⟩
      · rw [he] at e; cases e
      · rw [he] at e; cases e; rw [rl] at hr; cases hr; omega
    have hlk : (L1 k).length ≤ 1000000 := Nat.le_trans (MB.len k) (by omega)
    have sz7 : base ≤ w9.heap.size := Nat.le_trans hbase.out F12.size
    replace sz7 : Hid _ := sz7
    have hS := MB.rm
    rw [he] at hS c6
    clear hel hls
    refine any_begin (fun w' => w'.heap[mb]? = some (.cells (mRow (upd cl1 c k) (.slice ka (m + 1) kcap) (.slice (some ⟨lb, lo, none⟩) (m + 1) lc)) 43)) (by kernel_rfl) hS ?_
    refine any_take 0 rfl (some 46) rfl (by kernel_rfl) (by kernel_rfl) (by kernel_rfl) rfl (.pointer (some ⟨mb, 0, none⟩)) (fun _ _ _ h => h) (fun _ _ => rfl) hS ?_
    simp only [Act.put, List.setIfInBounds_toArray, List.set_cons_zero, List.set_cons_succ]
    refine any_take 1 rfl (some 47) rfl (by kernel_rfl) (by kernel_rfl) (by kernel_rfl) rfl (.pointer (some ⟨mb, 0, none⟩)) (fun _ _ _ h => h) (fun _ _ => by first | rfl | kernel_rfl) hS ?_
    simp only [Act.put, List.setIfInBounds_toArray, List.set_cons_zero, List.set_cons_succ]
    refine any_take 2 rfl (some 48) rfl (by kernel_rfl) (by kernel_rfl) (by kernel_rfl) rfl (.pointer (some ⟨mb, 6, none⟩)) (fun _ _ _ h => h) (fun _ _ => by first | rfl | kernel_rfl) hS ?_
    simp only [Act.put, List.setIfInBounds_toArray, List.set_cons_zero, List.set_cons_succ]
    refine any_load_cell 3 rfl (some 49) rfl (by kernel_rfl) (by kernel_rfl) (by kernel_rfl) rfl (.slice (some ⟨lb, lo, none⟩) (m + 1) lc) (fun _ _ _ h => h) 41 (.tmp 48) rfl ⟨mb, 6, none⟩ rfl (fun w h => m6 h) _ Yba.underlying41 rfl hS ?_
    simp only [Act.put, List.setIfInBounds_toArray, List.set_cons_zero, List.set_cons_succ]
    refine any_take 4 rfl (some 50) rfl (by kernel_rfl) (by kernel_rfl) (by kernel_rfl) rfl (.int .i64 (m)) (fun _ _ _ h => h) (fun _ _ => rfl) hS ?_
    simp only [Act.put, List.setIfInBounds_toArray, List.set_cons_zero, List.set_cons_succ]
    refine any_take 5 rfl (some 51) rfl (by kernel_rfl) (by kernel_rfl) (by kernel_rfl) rfl (.pointer (some ⟨mb, 0, none⟩)) (fun _ _ _ h => h) (fun _ _ => rfl) hS ?_
    simp only [Act.put, List.setIfInBounds_toArray, List.set_cons_zero, List.set_cons_succ]
    refine any_take 6 rfl (some 52) rfl (by kernel_rfl) (by kernel_rfl) (by kernel_rfl) rfl (.pointer (some ⟨mb, 0, none⟩)) (fun _ _ _ h => h) (fun _ _ => by first | rfl | kernel_rfl) hS ?_
    simp only [Act.put, List.setIfInBounds_toArray, List.set_cons_zero, List.set_cons_succ]
    refine any_take 7 rfl (some 53) rfl (by kernel_rfl) (by kernel_rfl) (by kernel_rfl) rfl (.pointer (some ⟨mb, 6, none⟩)) (fun _ _ _ h => h) (fun _ _ => by first | rfl | kernel_rfl) hS ?_
    simp only [Act.put, List.setIfInBounds_toArray, List.set_cons_zero, List.set_cons_succ]
    refine any_load_cell 8 rfl (some 54) rfl (by kernel_rfl) (by kernel_rfl) (by kernel_rfl) rfl (.slice (some ⟨lb, lo, none⟩) (m + 1) lc) (fun _ _ _ h => h) 41 (.tmp 53) rfl ⟨mb, 6, none⟩ rfl (fun w h => m6 h) _ Yba.underlying41 rfl hS ?_
    simp only [Act.put, List.setIfInBounds_toArray, List.set_cons_zero, List.set_cons_succ]
    refine any_take 9 rfl (some 55) rfl (by kernel_rfl) (by kernel_rfl) (by kernel_rfl) rfl (.int .i64 (m)) (fun _ _ _ h => h) (fun _ _ => rfl) hS ?_
    simp only [Act.put, List.setIfInBounds_toArray, List.set_cons_zero, List.set_cons_succ]
    refine any_take 10 rfl (some 56) rfl (by kernel_rfl) (by kernel_rfl) (by kernel_rfl) rfl (.pointer (some ⟨lb, lo + (m), none⟩)) (fun _ _ _ h => h) (fun w _ => exec_index (xv := .slice (some ⟨lb, lo, none⟩) (m + 1) lc) (iv := .int .i64 ((m : Nat) : Int)) rfl rfl rfl (idx41 him w)) hS ?_
    simp only [Act.put, List.setIfInBounds_toArray, List.set_cons_zero, List.set_cons_succ]
    refine any_take 12 rfl (some 58) rfl (by kernel_rfl) (by kernel_rfl) (by kernel_rfl) rfl (.int .i64 c) (fun _ _ _ h => h) (fun _ _ => rfl) hS ?_
    simp only [Act.put, List.setIfInBounds_toArray, List.set_cons_zero, List.set_cons_succ]
    refine any_two 11 13 rfl rfl (by kernel_rfl) rfl rfl ?_ ?_
    · refine wp_val (some 57) rfl Wk w9.drew (exec_load_cell (ad := ⟨lb, lo + (m), none⟩) rfl rfl hWt Yba.underlying40 rfl) ⟨hS, ?_⟩
      simp only [Act.put, List.setIfInBounds_toArray, List.set_cons_zero, List.set_cons_succ]
      refine any_buildSlice 13 rfl (by kernel_rfl) rfl (some 59) rfl 40 1 [(0, .tmp 58)] rfl [(0, .int .i64 (c : Int))] rfl _ 3 (bs40 (c : Int)) ?_
      intro nb4 w4' e4' F4 rn4 z4'
      refine ⟨F4.get hS (by simp), ?_⟩
      simp only [Act.put, List.setIfInBounds_toArray, List.set_cons_zero, List.set_cons_succ]
      have M4 := MB.keep0 ((Fr.drew w9).trans0 F4)
      have rl4 := ((Fr.drew w9).trans0 F4).get rl (by simp)
      obtain ⟨a5, cap5, w5', hap, seg5', hfr5'⟩ := app3 (hwk.keep ((Fr.drew w9).trans0 F4) (by simp)) hlk rn4
      have hS5 : w5'.heap[mb]? = some (.cells (mRow (upd cl1 c k) (.slice ka (m + 1) kcap) (.slice (some ⟨lb, lo, none⟩) (m + 1) lc)) 43) := by
        rcases hfr5' with ⟨_, F5⟩ | ⟨_, F5⟩
        · exact F5.get (F4.get hS (by simp)) (by rw [hWk]; exact fun hb => MB.mb_ox (MB.oi k hkm mb hb))
        · exact F5.get (F4.get hS (by simp)) (by simp)
      refine any_val 14 rfl (by kernel_rfl) rfl (some 60) rfl _ w5' (exec_append rfl rfl rfl hap) ⟨hS5, ?_⟩
      simp only [Act.put, List.setIfInBounds_toArray, List.set_cons_zero, List.set_cons_succ]
      refine any_take 15 rfl (some 61) rfl (by kernel_rfl) (by kernel_rfl) (by kernel_rfl) rfl (.pointer (some ⟨lb, lo + (m), none⟩)) (fun _ _ _ h => h) (fun w _ => exec_index (xv := .slice (some ⟨lb, lo, none⟩) (m + 1) lc) (iv := .int .i64 ((m : Nat) : Int)) rfl rfl rfl (idx41 him w)) hS5 ?_
      simp only [Act.put, List.setIfInBounds_toArray, List.set_cons_zero, List.set_cons_succ]
      have rl5 : w5'.heap[lb]? = some (.cells cs40 40) := by
        rcases hfr5' with ⟨_, F5⟩ | ⟨_, F5⟩
        · exact F5.get rl4 (by rw [hWk]; exact fun hb => MB.i_ls hkm hb (by first | (rw [he]; done) | (rw [he]; simp [blk])))
        · exact F5.get rl4 (by simp)
      refine any_store_cell 16 rfl (by kernel_rfl) rfl 40 (.tmp 61) (.tmp 60) rfl lb (lo + (m)) (.slice a5 ((L1 k).length + 1) cap5) rfl rfl rfl 40 _ rl5 hlfit size40 ?_
      intro w6' F6' r6' z6'
      have hS6 : w6'.heap[mb]? = some (.cells (mRow (upd cl1 c k) (.slice ka (m + 1) kcap) (.slice (some ⟨lb, lo, none⟩) (m + 1) lc)) 43) := F6'.get hS5 (by simpa using ne_type hS5 rl5 (by decide))
      refine ⟨hS6, ?_⟩
      simp only [Act.put]
      refine any_done (by kernel_rfl) ?_
      go_wp2
      go_end0
      rw [hWk] at hfr5'
      have hsz4 : base ≤ w4'.heap.size := Nat.le_trans sz7.out (Fr.size ((Fr.drew w9).trans0 F4))
      obtain ⟨ox9, hox9, F9', M9⟩ := M4.app (c := c) hsz4 hi.out hfr5' (by simpa [nis] using seg5') (by first | (rw [hm'.out]; exact he) | (rw [hm'.out])) rl4 F6' r6'
      refine ⟨rfl, (F12.trans0 ((Fr.drew w9).trans0 F4)).trans F9' (fun x hx => ?_), _, _, _, _, _, (fun x hx => by first | exact .inl hx | simpa using hx), M9.mono (by omega)⟩
      rcases List.mem_cons.1 hx with rfl | hx
      · exact .inl (by simp)
      · rcases hox2.out x hx with h' | h'
        · exact .inl (List.mem_cons_of_mem _ h')
        · exact .inr h'
    · refine wp_val (some 59) rfl _ _ (exec_buildSlice (parts := [(0, .tmp 58)]) (vs := [(0, .int .i64 (c : Int))]) rfl rfl (bs40 (c : Int) w9.drew)) ?_
      obtain ⟨w4', hw4⟩ : ∃ w4', w4' = w9.drew.alloc (.cells #[.int .i64 (c : Int)] 3) := ⟨_, rfl⟩
      obtain ⟨nb4, hnb⟩ : ∃ nb4, nb4 = w9.drew.heap.size := ⟨_, rfl⟩
      have F4 : Fr [] w9.drew w4' := by rw [hw4]; exact Fr.alloc _ _
      have rn4 : w4'.heap[nb4]? = some (.cells #[.int .i64 (c : Int)] 3) := by rw [hw4, hnb]; exact heap_alloc_new _ _
      rw [← hw4, ← hnb]
      clear hw4 hnb
      refine ⟨F4.get hS (by simp), ?_⟩
      simp only [Act.put, List.setIfInBounds_toArray, List.set_cons_zero, List.set_cons_succ]
      refine any_val 11 rfl (by kernel_rfl) rfl (some 57) rfl Wk w4' (exec_load_cell (ad := ⟨lb, lo + (m), none⟩) rfl rfl (F4.cell hWt (by simp)) Yba.underlying40 rfl) ⟨F4.get hS (by simp), ?_⟩
      simp only [Act.put, List.setIfInBounds_toArray, List.set_cons_zero, List.set_cons_succ]
      have M4 := MB.keep0 ((Fr.drew w9).trans0 F4)
      have rl4 := ((Fr.drew w9).trans0 F4).get rl (by simp)
      obtain ⟨a5, cap5, w5', hap, seg5', hfr5'⟩ := app3 (hwk.keep ((Fr.drew w9).trans0 F4) (by simp)) hlk rn4
      have hS5 : w5'.heap[mb]? = some (.cells (mRow (upd cl1 c k) (.slice ka (m + 1) kcap) (.slice (some ⟨lb, lo, none⟩) (m + 1) lc)) 43) := by
        rcases hfr5' with ⟨_, F5⟩ | ⟨_, F5⟩
        · exact F5.get (F4.get hS (by simp)) (by rw [hWk]; exact fun hb => MB.mb_ox (MB.oi k hkm mb hb))
        · exact F5.get (F4.get hS (by simp)) (by simp)
      refine any_val 14 rfl (by kernel_rfl) rfl (some 60) rfl _ w5' (exec_append rfl rfl rfl hap) ⟨hS5, ?_⟩
      simp only [Act.put, List.setIfInBounds_toArray, List.set_cons_zero, List.set_cons_succ]
      refine any_take 15 rfl (some 61) rfl (by kernel_rfl) (by kernel_rfl) (by kernel_rfl) rfl (.pointer (some ⟨lb, lo + (m), none⟩)) (fun _ _ _ h => h) (fun w _ => exec_index (xv := .slice (some ⟨lb, lo, none⟩) (m + 1) lc) (iv := .int .i64 ((m : Nat) : Int)) rfl rfl rfl (idx41 him w)) hS5 ?_
      simp only [Act.put, List.setIfInBounds_toArray, List.set_cons_zero, List.set_cons_succ]
      have rl5 : w5'.heap[lb]? = some (.cells cs40 40) := by
        rcases hfr5' with ⟨_, F5⟩ | ⟨_, F5⟩
        · exact F5.get rl4 (by rw [hWk]; exact fun hb => MB.i_ls hkm hb (by first | (rw [he]; done) | (rw [he]; simp [blk])))
        · exact F5.get rl4 (by simp)
      refine any_store_cell 16 rfl (by kernel_rfl) rfl 40 (.tmp 61) (.tmp 60) rfl lb (lo + (m)) (.slice a5 ((L1 k).length + 1) cap5) rfl rfl rfl 40 _ rl5 hlfit size40 ?_
      intro w6' F6' r6' z6'
      have hS6 : w6'.heap[mb]? = some (.cells (mRow (upd cl1 c k) (.slice ka (m + 1) kcap) (.slice (some ⟨lb, lo, none⟩) (m + 1) lc)) 43) := F6'.get hS5 (by simpa using ne_type hS5 rl5 (by decide))
      refine ⟨hS6, ?_⟩
      simp only [Act.put]
      refine any_done (by kernel_rfl) ?_
      go_wp2
      go_end0
      rw [hWk] at hfr5'
      have hsz4 : base ≤ w4'.heap.size := Nat.le_trans sz7.out (Fr.size ((Fr.drew w9).trans0 F4))
      obtain ⟨ox9, hox9, F9', M9⟩ := M4.app (c := c) hsz4 hi.out hfr5' (by simpa [nis] using seg5') (by first | (rw [hm'.out]; exact he) | (rw [hm'.out])) rl4 F6' r6'
      refine ⟨rfl, (F12.trans0 ((Fr.drew w9).trans0 F4)).trans F9' (fun x hx => ?_), _, _, _, _, _, (fun x hx => by first | exact .inl hx | simpa using hx), M9.mono (by omega)⟩
      rcases List.mem_cons.1 hx with rfl | hx
      · exact .inl (by simp)
      · rcases hox2.out x hx with h' | h'
        · exact .inl (List.mem_cons_of_mem _ h')
        · exact .inr h'
end
end Go.Proofs.Ybulkduvu
