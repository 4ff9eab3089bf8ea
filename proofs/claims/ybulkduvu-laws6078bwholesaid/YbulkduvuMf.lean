import Derived.Test.YbulkduvuFind
namespace Go.Proofs.Ybulkduvu
open Go.RowKit Base

theorem bs40 (z : Int) (w : World) : (Instr.buildSlice 40 1 #[(0, .int .i64 z)]).run Yba.prog w = .ok (.slice (some ⟨w.heap.size, 0, none⟩) 1 1) (w.alloc (.cells #[.int .i64 z] 3)) := by kernel_rfl
theorem info3' : (Yba.prog.info? 3).map (fun i => (i.zero, i.size, i.bytes)) = some (some (.int .i64 0), 1, 8) := by kernel_rfl
theorem info3 : ∃ i z, Yba.prog.info? 3 = some i ∧ i.zero = some z ∧ i.size = 1 ∧ i.bytes = 8 ∧ z.cells.size = 1 := by
  have h := info3'
  cases hq : Yba.prog.info? 3 with
  | none => simp [hq] at h
  | some i => simp [hq] at h; exact ⟨i, .int .i64 0, rfl, h.1, h.2.1, h.2.2, rfl⟩
theorem info40' : (Yba.prog.info? 40).map (fun i => (i.zero, i.size, i.bytes)) = some (some (.slice none 0 0), 1, 24) := by kernel_rfl
theorem info40 : ∃ i z, Yba.prog.info? 40 = some i ∧ i.zero = some z ∧ i.size = 1 ∧ i.bytes = 24 ∧ z.cells.size = 1 := by
  have h := info40'
  cases hq : Yba.prog.info? 40 with
  | none => simp [hq] at h
  | some i => simp [hq] at h; exact ⟨i, .slice none 0 0, rfl, h.1, h.2.1, h.2.2, rfl⟩
theorem size40 : (Yba.prog.info? 40).map (·.size) = some 1 := by kernel_rfl
theorem size41 : (Yba.prog.info? 41).map (·.size) = some 1 := by kernel_rfl

/-- 'append(s, z)', elements of one cell -/
theorem appE {w : World} {T e : TypeId} {i5 : TypeInfo} {z5 : Value} {by5 : Nat} (hT : Yba.prog.underlying T = some (.slice e)) (hi : Yba.prog.info? e = some i5) (hz : i5.zero = some z5) (hsz : i5.size = 1) (hby : i5.bytes = by5) (hb24 : by5 ≤ 24) (hzs : z5.cells.size = 1)
    {v z : Value} {m nb : Nat} {ys : List Value} (hs : Seg w v e 1 m ys) (hl : m ≤ 1000000) (rn : w.heap[nb]? = some (.cells #[z] e)) (h1 : z.oneCell' = true) :
    ∃ a' cap' w', (Builtin.append_ #[T, T] 0 #[v, .slice (some ⟨nb, 0, none⟩) 1 1]).run Yba.prog w = .ok (.slice a' (m + 1) cap') w' ∧ Seg w' (.slice a' (m + 1) cap') e 1 (m + 1) (ys ++ [z]) ∧
      ((blk (.slice a' (m + 1) cap') = blk v ∧ Fr (blk v) w w') ∨ (blk (.slice a' (m + 1) cap') = [w.heap.size] ∧ Fr [] w w')) := by
  have hbb : (m + 1) * by5 ≤ 140737488355328 := Nat.le_trans (Nat.mul_le_mul (show m + 1 ≤ 1000001 by omega) hb24) (by decide)
  obtain ⟨v', w', hrun, hseg, hfr⟩ := hs.append (P := Yba.prog) T 0 i5 z5 by5 hT hi hz hsz hby hzs ⟨nb, 0, none⟩ 1 1 [z] rfl (fun j u hj => by
    cases j with
    | zero => simp at hj; subst hj; rw [Addr.add_lit, cell_of_row w nb _ _ _ _ rn]; rfl
    | succ j => simp at hj) (by simpa using h1) (.inl (by omega)) hbb (by omega)
  obtain ⟨a', cap', rfl⟩ := Seg.form hseg
  refine ⟨a', cap', w', hrun, hseg, ?_⟩
  rcases hfr with ⟨h1, h2, _⟩ | ⟨h1, h2, _⟩
  · exact .inl ⟨h1, h2⟩
  · exact .inr ⟨h1, h2⟩

theorem app3 {w : World} {v : Value} {x : Int} {m nb : Nat} {ys : List Value} (hs : Seg w v 3 1 m ys) (hl : m ≤ 1000000) (rn : w.heap[nb]? = some (.cells #[.int .i64 x] 3)) :
    ∃ a' cap' w', (Builtin.append_ #[40, 40] 0 #[v, .slice (some ⟨nb, 0, none⟩) 1 1]).run Yba.prog w = .ok (.slice a' (m + 1) cap') w' ∧ Seg w' (.slice a' (m + 1) cap') 3 1 (m + 1) (ys ++ [.int .i64 x]) ∧
      ((blk (.slice a' (m + 1) cap') = blk v ∧ Fr (blk v) w w') ∨ (blk (.slice a' (m + 1) cap') = [w.heap.size] ∧ Fr [] w w')) := by
  obtain ⟨i5, z5, hi, hz, hsz, hby, hzs⟩ := info3
  exact appE Yba.underlying40 hi hz hsz hby (by omega) hzs hs hl rn rfl

theorem idx41 {b o n cap i : Nat} (h : i < n) (w : World) : (Instr.indexAt 41 (.slice (some ⟨b, o, none⟩) n cap) (.int .i64 i)).run Yba.prog w = .ok (.pointer (some ⟨b, o + i, none⟩)) w := by
  have e : Yba.prog.elem 41 = 40 := by kernel_rfl
  rw [run_indexAt_slice w 41 ⟨b, o, none⟩ n cap .i64 i (by rw [e]; exact Yba.underlying41), if_pos (by omega), e, Yba.sizeOf40]
  simp [Addr.add_lit]

theorem upd_self {κ α : Type} [DecidableEq κ] (f : κ → α) (k : κ) : upd f k (f k) = f := by
  funext j
  by_cases e : j = k
  · subst e; rw [upd_same]
  · rw [upd_other _ e]

section
variable {w : World} {base mb n : Nat} {cl : Nat → Int} {ks : List Int} {L : Int → List Nat} {K Ls : Value} {W : Int → Value} {ox : List Nat}

set_option maxHeartbeats 1000000 in
theorem mf_neg (h : Md w base mb n cl ks L K Ls W ox) {c : Nat} (hc : c < 5) (hk : cl c < 0) :
    Calls Yba.prog 12 #[.pointer (some ⟨mb, 0, none⟩), .int .i64 c] w fun e w' => e = .returned (.tuple #[]) ∧ w' = w := by
  have cc := mc h.rm hc
  clear h
  generalize cl c = k at hk cc
  go_enter Yba.func12, Yba.ntmps12
  go_wp2
  refine bodyPost_ret (results_none rfl _ _ _) rfl ?_
  exact ⟨rfl, rfl⟩

set_option maxHeartbeats 1000000 in
theorem mf_out (h : Md w base mb n cl ks L K Ls W ox) (hn1 : n ≤ 1000000) {c : Nat} (hc : c < 5) {k : Int} (hkc : cl c = k) (hk : 0 ≤ k) (hks : k ∉ ks) :
    Calls Yba.prog 12 #[.pointer (some ⟨mb, 0, none⟩), .int .i64 c] w fun e w' => e = .returned (.tuple #[]) ∧ Fr [mb] w w' ∧ Md w' base mb n (upd cl c (-1)) ks L K Ls W ox := by
  have cc := mc h.rm hc
  rw [hkc] at cc
  have rm := h.rm
  replace hkc : Hid (cl c = k) := hkc
  replace hks : Hid (k ∉ ks) := hks
  go_enter Yba.func12, Yba.ntmps12
  go_wp2_with (first
    | (go_at_call 16; refine (find_out h hn1 (m := ks.length) rfl hks).mono ?_; rintro e w1 ⟨rfl, hw1⟩; have hw2 := hw1.symm; subst hw2)
    | (refine wpList_store_cell rfl 3 (.tmp 53) (.const (.int .i64 (-1))) rfl mb c (.int .i64 (-1)) rfl rfl rfl 43 _ rm (by simp [mRow]; omega) size3 ?_; intro w3 F3 r3 z3))
  go_end0
  rw [mRow_set hc] at r3
  exact ⟨rfl, F3, h.client F3 r3⟩

set_option maxHeartbeats 2000000 in
set_option maxRecDepth 100000 in
theorem mf_in (h : Md w base mb n cl ks L K Ls W ox) (hbase : base ≤ w.heap.size) (hn1 : n ≤ 1000000) {c : Nat} (hc : c < 5) {k : Int} (hkc : cl c = k) (hk : 0 ≤ k) {i m : Nat} (hm : ks.length = m) (hi : ks[i]? = some k) :
    Calls Yba.prog 12 #[.pointer (some ⟨mb, 0, none⟩), .int .i64 c] w fun e w' => e = .returned (.tuple #[]) ∧ Fr (mb :: ox) w w' ∧ ∃ W' ox', (∀ b ∈ ox', b ∈ ox ∨ w.heap.size ≤ b) ∧ Md w' base mb (n + 1) (upd cl c (-1)) ks (upd L k (rem (L k) c)) K Ls W' ox' := by
  have cc := mc h.rm hc
  have him : i < m := by rw [← hm]; exact (List.getElem?_eq_some_iff.1 hi).1
  have hmn : m ≤ n := by rw [← hm]; exact h.kn
  rw [hkc] at cc
  have c6 := m6 h.rm
  have hls := h.lseg
  rw [hm] at hls
  obtain ⟨lb, lo, lcap, he, hel⟩ := Seg.at hls him
  have cw := hel (W k) (by simp [hi])
  have hkm : k ∈ ks := List.mem_of_getElem? hi
  have hwk := h.iseg k hkm
  obtain ⟨lw, hlw⟩ : ∃ lw, (L k).length = lw := ⟨_, rfl⟩
  have hlwn : lw ≤ n := by rw [← hlw]; exact h.len k
  rw [hlw] at hwk
  obtain ⟨wa, wc, hW⟩ := Seg.form hwk
  rw [hW] at cw
  rw [he] at c6
  obtain ⟨cs40, rl⟩ : ∃ cs, w.heap[lb]? = some (.cells cs 40) := Seg.type hls lb (by rw [he]; simp [blk])
  have hlfit : lo + m ≤ cs40.size := by
    rcases hls with ⟨e, _⟩ | ⟨b, o, cap', cs', e, hr, hnc, hfit, _⟩
    · rw [he] at e; cases e
    · rw [he] at e; cases e; rw [rl] at hr; cases hr; omega
  clear hel hls
  replace hkc : Hid (cl c = k) := hkc
  replace hi : Hid (ks[i]? = some k) := hi
  replace hm : Hid (ks.length = m) := hm
  replace hW : Hid (W k = .slice wa lw wc) := hW
  replace he : Hid (Ls = .slice (some ⟨lb, lo, none⟩) m lcap) := he
  replace hwk : Hid (Seg w (W k) 3 1 lw (nis (L k))) := hwk
  replace hlw : Hid ((L k).length = lw) := hlw
  replace hbase : Hid (base ≤ w.heap.size) := hbase
  go_enter Yba.func12, Yba.ntmps12
  go_wp2_with (go_at_call 16; refine (find_in h hn1 hm hi him).mono ?_; rintro e w1 ⟨rfl, hw1⟩; have hw2 := hw1.symm; subst hw2)
  go_loopw [6, 30] (fun s6 s30 wr => ∃ (j : Nat) (a : Option Addr) (r cap : Nat), j ≤ lw ∧ r ≤ j ∧ s30 = .int .i64 j ∧ s6 = .slice a r cap ∧ Hid ((rem ((L k).take j) c).length = r) ∧ Hid (Seg wr (.slice a r cap) 3 1 r (nis (rem ((L k).take j) c))) ∧ Fr [] w wr ∧ Hid (∀ b ∈ blk (.slice a r cap), w.heap.size ≤ b)) (fun _ s30 _ => lw - (intOf s30).toNat)
  case atStart => exact ⟨0, none, 0, 0, by omega, by omega, rfl, rfl, rfl, .inl ⟨rfl, rfl, rfl⟩, Fr.refl _ _, by simp [Hid, blk]⟩
  case round =>
    obtain ⟨j, a, r, cap, hj, hr, rfl, rfl, hrl, hsg, F, hnew⟩ := hrel
    by_cases hlt : j < lw
    · obtain ⟨wb, wo, wc', hWe, hel⟩ := Seg.at hwk.out hlt
      rw [hW.out] at hWe
      cases hWe
      obtain ⟨x, hx⟩ : ∃ x, (L k)[j]? = some x := ⟨(L k)[j]'(by rw [hlw.out]; exact hlt), by rw [List.getElem?_eq_getElem]⟩
      have cj := F.cell (hel _ (nis_at hx)) (by simp)
      clear hel
      by_cases hxc : x = c
      · have e1 := rem_take_skip (c := c) (by rw [hx, hxc])
        have hb : ((x : Int) == (c : Int)) = true := by simp [hxc]
        have hbn : (!((x : Int) == (c : Int))) = false := by simp [hxc]
        have hxi : (x : Int) = c := by rw [hxc]
        clear hx
        subst hxc
        go_wp2
        go_roundw
        case rel =>
          have hI : ∃ (j' : Nat) (a' : Option Addr) (r' cap' : Nat), j' ≤ lw ∧ r' ≤ j' ∧ Value.int .i64 ((j : Int) + 1) = .int .i64 j' ∧ Value.slice a r cap = .slice a' r' cap' ∧ Hid ((rem ((L k).take j') x).length = r') ∧ Hid (Seg wr (.slice a' r' cap') 3 1 r' (nis (rem ((L k).take j') x))) ∧ Fr [] w wr ∧ Hid (∀ b ∈ blk (.slice a' r' cap'), w.heap.size ≤ b) :=
            ⟨j + 1, a, r, cap, by omega, by omega, by go_num, rfl, by rw [e1]; exact hrl, by rw [e1]; exact hsg, F, hnew⟩
          first | exact hI | ((repeat apply Exists.intro); exact ⟨hI, rfl⟩)
        case measure => simp [intOf]; omega
      · have e1 := rem_take_keep (c := c) hx hxc
        have hxi : ¬ ((x : Int) = (c : Int)) := by omega
        have hb : ((x : Int) == (c : Int)) = false := by simpa using hxi
        have hrm : r ≤ 1000000 := by omega
        clear hx
        go_wp2_with (first
          | (refine wpList_buildSlice rfl (some 39) rfl 40 1 [(0, .tmp 38)] rfl [(0, .int .i64 (x : Int))] rfl _ 3 (bs40 (x : Int)) ?_; intro nb w2 e2 F2 rn2 z2; obtain ⟨a', cap', w3, hap, seg3, hfr3⟩ := app3 (hsg.out.keep F2 (by simp)) hrm rn2)
          | (refine wpList_do rfl (some 40) rfl _ w3 (exec_append rfl rfl rfl hap) ?_))
        have F3 : Fr [] w w3 := by
          rcases hfr3 with ⟨_, F3⟩ | ⟨_, F3⟩
          · exact (F.trans0 F2).trans F3 (fun b hb => .inr (hnew.out b hb))
          · exact (F.trans0 F2).trans0 F3
        have hnew3 : ∀ b ∈ blk (.slice a' (r + 1) cap'), w.heap.size ≤ b := by
          intro b hb'
          rcases hfr3 with ⟨e, _⟩ | ⟨e, _⟩
          · rw [e] at hb'; exact hnew.out b hb'
          · rw [e] at hb'; simp at hb'; subst hb'; exact (F.trans0 F2).size
        go_roundw
        case rel =>
          have hI : ∃ (j' : Nat) (a'' : Option Addr) (r' cap'' : Nat), j' ≤ lw ∧ r' ≤ j' ∧ Value.int .i64 ((j : Int) + 1) = .int .i64 j' ∧ Value.slice a' (r + 1) cap' = .slice a'' r' cap'' ∧ Hid ((rem ((L k).take j') c).length = r') ∧ Hid (Seg w3 (.slice a'' r' cap'') 3 1 r' (nis (rem ((L k).take j') c))) ∧ Fr [] w w3 ∧ Hid (∀ b ∈ blk (.slice a'' r' cap''), w.heap.size ≤ b) :=
            ⟨j + 1, a', r + 1, cap', by omega, by omega, by go_num, rfl, by show _ = _; rw [e1, List.length_append, hrl.out]; rfl, by show Seg _ _ _ _ _ _; rw [e1, nis, List.map_append]; exact seg3, F3, hnew3⟩
          first | exact hI | ((repeat apply Exists.intro); exact ⟨hI, rfl⟩)
        case measure => simp [intOf]; omega
    · obtain rfl : j = lw := by omega
      have hall : (L k).take j = L k := List.take_of_length_le (by rw [hlw.out]; exact Nat.le_refl _)
      rw [hall] at hrl hsg
      have rl' := F.get rl (by simp)
      have c6' := F.cell c6 (by simp)
      have hM := h.keep0 F
      have rm' := hM.rm
      have hsl : lo + i < cs40.size := by omega
      go_wp2_with (first
        | (refine wpList_store_cell rfl 40 (.tmp 48) (.tmp 47) rfl lb (lo + i) (.slice a r cap) rfl rfl rfl 40 _ rl' hsl size40 ?_; intro w4 F4 r4 z4; have rm4 := F4.get rm' (by simpa using ne_type rm' rl' (by decide)))
        | (refine wpList_store_cell rfl 3 (.tmp 53) (.const (.int .i64 (-1))) rfl mb c (.int .i64 (-1)) rfl rfl rfl 43 _ rm4 (by simp [mRow]; omega) size3 ?_; intro w5 F5 r5 z5))
      go_end0
      rw [mRow_set hc] at r5
      have hM4 := h.list hbase.out hi.out (L1 := rem (L k) c) (v := .slice a r cap) (ox1 := blk (.slice a r cap)) (F.mono (by simp)) (by rw [hrl.out]; exact hsg.out) (fun b hb => .inr hb)
        (fun b hb => ⟨hnew.out b hb, Seg.type hsg.out b hb⟩) (Seg.type (hM.iseg k (List.mem_of_getElem? hi.out))) (by rw [hm.out]; exact he.out) rl F4 r4 (by rw [hrl.out]; omega)
      refine ⟨rfl, ?_, _, _, (fun b hb => (List.mem_append.1 hb).elim (fun h' => .inr (hnew.out b h')) .inl), hM4.client F5 r5⟩
      exact ((F.mono (T := mb :: ox) (by simp)).trans F4 (fun x hx => by simp at hx; subst hx; exact .inl (List.mem_cons_of_mem _ (h.ol x (by rw [he.out]; simp [blk]))))).trans F5 (fun x hx => by simp at hx; subst hx; exact .inl (by simp))

theorem mforget_any (h : Md w base mb n cl ks L K Ls W ox) (hbase : base ≤ w.heap.size) (hn1 : n ≤ 1000000) {c : Nat} (hc : c < 5) :
    Calls Yba.prog 12 #[.pointer (some ⟨mb, 0, none⟩), .int .i64 c] w fun e w' => e = .returned (.tuple #[]) ∧ Fr (mb :: ox) w w' ∧ ∃ W' ox', (∀ b ∈ ox', b ∈ ox ∨ w.heap.size ≤ b) ∧ Md w' base mb (n + 1) (fcl cl c) ks (fL cl L c) K Ls W' ox' := by
  by_cases hk : cl c < 0
  · refine (mf_neg h hc hk).mono ?_
    rintro e w' ⟨he, rfl⟩
    refine ⟨he, Fr.refl _ _, W, ox, fun b hb => .inl hb, ?_⟩
    unfold fcl fL
    rw [if_pos hk, if_pos hk]
    exact h.mono (Nat.le_succ n)
  · by_cases hks : cl c ∈ ks
    · obtain ⟨i, hi, hie⟩ := List.getElem_of_mem hks
      refine (mf_in h hbase hn1 hc rfl (by omega) rfl (i := i) (by rw [List.getElem?_eq_getElem hi, hie])).mono ?_
      rintro e w' ⟨he, F, W', ox', hox, R⟩
      refine ⟨he, F, W', ox', hox, ?_⟩
      unfold fcl fL
      rw [if_neg hk, if_neg hk]
      exact R
    · refine (mf_out h hn1 hc rfl (by omega) hks).mono ?_
      rintro e w' ⟨he, F, R⟩
      refine ⟨he, F.mono (fun x hx => by simp at hx; subst hx; exact .inl (by simp)), W, ox, fun b hb => .inl hb, ?_⟩
      have hnil : L (cl c) = [] := by
        cases hq : L (cl c) with
        | nil => rfl
        | cons a r => exact absurd (h.sup (cl c) (by rw [hq]; simp)) hks
      unfold fcl fL
      rw [if_neg hk, if_neg hk, hnil, rem_nil, ← hnil, upd_self]
      exact R.mono (Nat.le_succ n)
end
end Go.Proofs.Ybulkduvu
