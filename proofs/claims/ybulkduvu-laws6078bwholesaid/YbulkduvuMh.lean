import Derived.Test.YbulkduvuMf
namespace Go.Proofs.Ybulkduvu
open Go.RowKit Base

theorem bs41 (w : World) : (Instr.buildSlice 41 1 #[(0, .slice none 0 0)]).run Yba.prog w = .ok (.slice (some ⟨w.heap.size, 0, none⟩) 1 1) (w.alloc (.cells #[.slice none 0 0] 40)) := by kernel_rfl
theorem app40 {w : World} {v : Value} {m nb : Nat} {ys : List Value} (hs : Seg w v 40 1 m ys) (hl : m ≤ 1000000) (rn : w.heap[nb]? = some (.cells #[.slice none 0 0] 40)) :
    ∃ a' cap' w', (Builtin.append_ #[41, 41] 0 #[v, .slice (some ⟨nb, 0, none⟩) 1 1]).run Yba.prog w = .ok (.slice a' (m + 1) cap') w' ∧ Seg w' (.slice a' (m + 1) cap') 40 1 (m + 1) (ys ++ [.slice none 0 0]) ∧
      ((blk (.slice a' (m + 1) cap') = blk v ∧ Fr (blk v) w w') ∨ (blk (.slice a' (m + 1) cap') = [w.heap.size] ∧ Fr [] w w')) := by
  obtain ⟨i5, z5, hi, hz, hsz, hby, hzs⟩ := info40
  exact appE Yba.underlying41 hi hz hsz hby (by omega) hzs hs hl rn rfl

/-- the keys have grown, the lists not yet -/
structure Mh (w : World) (base mb : Nat) (cl : Nat → Int) (ks : List Int) (k : Int) (L : Int → List Nat) (K Ls : Value) (W : Int → Value) (ox : List Nat) : Prop where
  rm : w.heap[mb]? = some (.cells (mRow cl K Ls) 43)
  bm : base ≤ mb
  kseg : Seg w K 3 1 (ks.length + 1) (kis (ks ++ [k]))
  lseg : Seg w Ls 40 1 ks.length (ks.map W)
  iseg : ∀ k ∈ ks, Seg w (W k) 3 1 (L k).length (nis (L k))
  sepk : ∀ k ∈ ks, ∀ b ∈ blk (W k), b ∉ blk K
  sep : ∀ k ∈ ks, ∀ k' ∈ ks, k ≠ k' → ∀ b ∈ blk (W k), b ∉ blk (W k')
  ok_ : ∀ b ∈ blk K, b ∈ ox
  ol : ∀ b ∈ blk Ls, b ∈ ox
  oi : ∀ k ∈ ks, ∀ b ∈ blk (W k), b ∈ ox
  ty : ∀ b ∈ ox, base ≤ b ∧ ∃ cs t, w.heap[b]? = some (.cells cs t) ∧ (t = 3 ∨ t = 40)

section
variable {w w1 w2 w3 : World} {base mb n : Nat} {cl : Nat → Int} {ks : List Int} {L : Int → List Nat} {K Ls K1 Ls1 : Value} {W : Int → Value} {ox : List Nat} {k : Int}

theorem Md.half (h : Md w base mb n cl ks L K Ls W ox) (hbase : base ≤ w.heap.size) (F1 : Fr [] w w1) (seg2 : Seg w2 K1 3 1 (ks.length + 1) (kis ks ++ [.int .i64 k]))
    (hfr : (blk K1 = blk K ∧ Fr (blk K) w1 w2) ∨ (blk K1 = [w1.heap.size] ∧ Fr [] w1 w2)) (F3 : Fr [mb] w2 w3) (r3 : w3.heap[mb]? = some (.cells (mRow cl K1 Ls) 43)) :
    Fr (mb :: ox) w w3 ∧ (∀ b ∈ blk K1 ++ ox, b ∈ ox ∨ w.heap.size ≤ b) ∧ Mh w3 base mb cl ks k L K1 Ls W (blk K1 ++ ox) := by
  have F12 : Fr (blk K) w w2 := by
    rcases hfr with ⟨_, F⟩ | ⟨_, F⟩
    · exact (F1.mono (by simp)).trans F (fun x hx => .inl hx)
    · exact (F1.trans0 F).mono (by simp)
  have hK1 : ∀ b ∈ blk K1, b ∈ blk K ∨ w.heap.size ≤ b := fun b hb => by
    rcases hfr with ⟨e, _⟩ | ⟨e, _⟩
    · rw [e] at hb; exact .inl hb
    · rw [e] at hb; simp at hb; subst hb; exact .inr F1.size
  have nmb : ∀ b ∈ ox, b ≠ mb := fun b hb e => h.mb_ox (e ▸ hb)
  have mbK : mb ∉ blk K := fun hb => nmb mb (h.ok_ mb hb) rfl
  have rm2 := F12.get h.rm mbK
  have n3 : ∀ b cs t, w2.heap[b]? = some (.cells cs t) → t ≠ 43 → b ∉ [mb] := fun b cs t hb ht => by
    have := ne_type hb rm2 ht
    simpa using this
  have ls2 := h.lseg.keep F12 (fun b hb hb' => h.k_ls hb' hb)
  have is2 : ∀ j ∈ ks, Seg w2 (W j) 3 1 (L j).length (nis (L j)) := fun j hj => (h.iseg j hj).keep F12 (h.sepk j hj)
  refine ⟨(F12.mono (fun x hx => .inl (List.mem_cons_of_mem _ (h.ok_ x hx)))).trans F3 (fun x hx => by simp at hx; subst hx; exact .inl (by simp)), ?_, ?_⟩
  · intro b hb
    rcases List.mem_append.1 hb with h1 | h1
    · rcases hK1 b h1 with h2 | h2
      · exact .inl (h.ok_ b h2)
      · exact .inr h2
    · exact .inl h1
  · refine { rm := r3, bm := h.bm, kseg := ?_, lseg := ls2.keep F3 (fun b hb => by obtain ⟨cs, hcs⟩ := Seg.type ls2 b hb; exact n3 b cs 40 hcs (by decide)), iseg := fun j hj => (is2 j hj).keep F3 (fun b hb => by obtain ⟨cs, hcs⟩ := Seg.type (is2 j hj) b hb; exact n3 b cs 3 hcs (by decide)), sepk := ?_, sep := h.sep, ok_ := fun b hb => List.mem_append_left _ hb, ol := fun b hb => List.mem_append_right _ (h.ol b hb), oi := fun j hj b hb => List.mem_append_right _ (h.oi j hj b hb), ty := ?_ }
    · have := seg2.keep F3 (fun b hb => by obtain ⟨cs, hcs⟩ := Seg.type seg2 b hb; exact n3 b cs 3 hcs (by decide))
      simpa [kis] using this
    · intro j hj b hb hb'
      rcases hK1 b hb' with h2 | h2
      · exact h.sepk j hj b hb h2
      · have := h.lt (h.oi j hj b hb); omega
    · intro b hb
      rcases List.mem_append.1 hb with h1 | h1
      · obtain ⟨cs, hcs⟩ := Seg.type seg2 b h1
        refine ⟨?_, cs, 3, F3.get hcs (n3 b cs 3 hcs (by decide)), .inl rfl⟩
        rcases hK1 b h1 with h2 | h2
        · exact (h.ty b (h.ok_ b h2)).1
        · omega
      · obtain ⟨h2, cs, t, hcs, ht⟩ := h.ty b h1
        refine ⟨h2, ?_⟩
        by_cases hbK : b ∈ blk K
        · rcases hfr with ⟨e, _⟩ | ⟨_, F⟩
          · obtain ⟨cs', hcs'⟩ := Seg.type seg2 b (by rw [e]; exact hbK)
            exact ⟨cs', 3, F3.get hcs' (n3 b cs' 3 hcs' (by decide)), .inl rfl⟩
          · exact ⟨cs, t, F3.get ((F1.trans0 F).get hcs (by simp)) (by simpa using nmb b h1), ht⟩
        · exact ⟨cs, t, F3.get (F12.get hcs hbK) (by simpa using nmb b h1), ht⟩

theorem Mh.full (h : Mh w base mb cl ks k L K Ls W ox) (hbase : base ≤ w.heap.size) (F1 : Fr [] w w1) (seg2 : Seg w2 Ls1 40 1 (ks.length + 1) (ks.map W ++ [.slice none 0 0]))
    (hfr : (blk Ls1 = blk Ls ∧ Fr (blk Ls) w1 w2) ∨ (blk Ls1 = [w1.heap.size] ∧ Fr [] w1 w2)) (F3 : Fr [mb] w2 w3) (r3 : w3.heap[mb]? = some (.cells (mRow cl K Ls1) 43))
    (nd : ks.Nodup) (hk : k ∉ ks) (sup : ∀ k, L k ≠ [] → k ∈ ks) (kn : ks.length ≤ n) (len : ∀ k, (L k).length ≤ n) :
    Fr (mb :: ox) w w3 ∧ (∀ b ∈ blk Ls1 ++ ox, b ∈ ox ∨ w.heap.size ≤ b) ∧ Md w3 base mb (n + 1) cl (ks ++ [k]) L K Ls1 (upd W k (.slice none 0 0)) (blk Ls1 ++ ox) := by
  have lt : ∀ b ∈ ox, b < w.heap.size := fun b hb => by
    obtain ⟨_, cs, t, hcs, _⟩ := h.ty b hb
    exact lt_of_get hcs
  have mbo : mb ∉ ox := fun hb => by
    obtain ⟨_, cs, t, hcs, ht⟩ := h.ty mb hb
    exact ne_type h.rm hcs (by rcases ht with rfl | rfl <;> decide) rfl
  have F12 : Fr (blk Ls) w w2 := by
    rcases hfr with ⟨_, F⟩ | ⟨_, F⟩
    · exact (F1.mono (by simp)).trans F (fun x hx => .inl hx)
    · exact (F1.trans0 F).mono (by simp)
  have hL1 : ∀ b ∈ blk Ls1, b ∈ blk Ls ∨ w.heap.size ≤ b := fun b hb => by
    rcases hfr with ⟨e, _⟩ | ⟨e, _⟩
    · rw [e] at hb; exact .inl hb
    · rw [e] at hb; simp at hb; subst hb; exact .inr F1.size
  have nmb : ∀ b ∈ ox, b ≠ mb := fun b hb e => mbo (e ▸ hb)
  have rm2 := F12.get h.rm (fun hb => nmb mb (h.ol mb hb) rfl)
  have n3 : ∀ b cs t, w2.heap[b]? = some (.cells cs t) → t ≠ 43 → b ∉ [mb] := fun b cs t hb ht => by
    have := ne_type hb rm2 ht
    simpa using this
  have t3 : ∀ b cs, w.heap[b]? = some (.cells cs 3) → b ∉ blk Ls := fun b cs hb hb' => by
    obtain ⟨cs', hcs'⟩ := Seg.type h.lseg b hb'
    exact ne_type hb hcs' (by decide) rfl
  have ks2 := h.kseg.keep F12 (fun b hb => by obtain ⟨cs, hcs⟩ := Seg.type h.kseg b hb; exact t3 b cs hcs)
  have is2 : ∀ j ∈ ks, Seg w2 (W j) 3 1 (L j).length (nis (L j)) := fun j hj => (h.iseg j hj).keep F12 (fun b hb => by obtain ⟨cs, hcs⟩ := Seg.type (h.iseg j hj) b hb; exact t3 b cs hcs)
  have hLk : L k = [] := by
    cases hq : L k with
    | nil => rfl
    | cons a r => exact absurd (sup k (by rw [hq]; simp)) hk
  have hne : ∀ j ∈ ks, j ≠ k := fun j hj e => hk (e ▸ hj)
  refine ⟨(F12.mono (fun x hx => .inl (List.mem_cons_of_mem _ (h.ol x hx)))).trans F3 (fun x hx => by simp at hx; subst hx; exact .inl (by simp)), ?_, ?_⟩
  · intro b hb
    rcases List.mem_append.1 hb with h1 | h1
    · rcases hL1 b h1 with h2 | h2
      · exact .inl (h.ol b h2)
      · exact .inr h2
    · exact .inl h1
  · refine { rm := r3, bm := h.bm, kseg := ?_, lseg := ?_, iseg := ?_, nd := ?_, sup := fun j hj => List.mem_append_left _ (sup j hj), sepk := ?_, sep := ?_, ok_ := fun b hb => List.mem_append_right _ (h.ok_ b hb), ol := fun b hb => List.mem_append_left _ hb, oi := ?_, ty := ?_, kn := by simp; omega, len := fun j => Nat.le_trans (len j) (Nat.le_succ n) }
    · have := ks2.keep F3 (fun b hb => by obtain ⟨cs, hcs⟩ := Seg.type ks2 b hb; exact n3 b cs 3 hcs (by decide))
      simpa using this
    · have := seg2.keep F3 (fun b hb => by obtain ⟨cs, hcs⟩ := Seg.type seg2 b hb; exact n3 b cs 40 hcs (by decide))
      have e : (ks ++ [k]).map (upd W k (.slice none 0 0)) = ks.map W ++ [.slice none 0 0] := by
        rw [List.map_append]
        congr 1
        · exact List.map_congr_left (fun j hj => upd_other _ (hne j hj) _)
        · simp [upd_same]
      rw [e]
      simpa using this
    · intro j hj
      rcases List.mem_append.1 hj with h1 | h1
      · rw [upd_other _ (hne j h1)]
        exact (is2 j h1).keep F3 (fun b hb => by obtain ⟨cs, hcs⟩ := Seg.type (is2 j h1) b hb; exact n3 b cs 3 hcs (by decide))
      · simp at h1
        subst h1
        rw [upd_same, hLk]
        exact .inl ⟨rfl, rfl, rfl⟩
    · rw [List.nodup_append]
      exact ⟨nd, by simp, fun a ha b hb => by simp at hb; subst hb; exact hne a ha⟩
    · intro j hj b hb
      rcases List.mem_append.1 hj with h1 | h1
      · rw [upd_other _ (hne j h1)] at hb
        exact h.sepk j h1 b hb
      · simp at h1
        subst h1
        rw [upd_same] at hb
        simp [blk] at hb
    · intro j hj j' hj' hjj b hb hb'
      rcases List.mem_append.1 hj with h1 | h1
      · rw [upd_other _ (hne j h1)] at hb
        rcases List.mem_append.1 hj' with h2 | h2
        · rw [upd_other _ (hne j' h2)] at hb'
          exact h.sep j h1 j' h2 hjj b hb hb'
        · simp at h2
          subst h2
          rw [upd_same] at hb'
          simp [blk] at hb'
      · simp at h1
        subst h1
        rw [upd_same] at hb
        simp [blk] at hb
    · intro j hj b hb
      rcases List.mem_append.1 hj with h1 | h1
      · rw [upd_other _ (hne j h1)] at hb
        exact List.mem_append_right _ (h.oi j h1 b hb)
      · simp at h1
        subst h1
        rw [upd_same] at hb
        simp [blk] at hb
    · intro b hb
      rcases List.mem_append.1 hb with h1 | h1
      · obtain ⟨cs, hcs⟩ := Seg.type seg2 b h1
        refine ⟨?_, cs, 40, F3.get hcs (n3 b cs 40 hcs (by decide)), .inr rfl⟩
        rcases hL1 b h1 with h2 | h2
        · exact (h.ty b (h.ol b h2)).1
        · omega
      · obtain ⟨h2, cs, t, hcs, ht⟩ := h.ty b h1
        refine ⟨h2, ?_⟩
        by_cases hbK : b ∈ blk Ls
        · rcases hfr with ⟨e, _⟩ | ⟨_, F⟩
          · obtain ⟨cs', hcs'⟩ := Seg.type seg2 b (by rw [e]; exact hbK)
            exact ⟨cs', 40, F3.get hcs' (n3 b cs' 40 hcs' (by decide)), .inr rfl⟩
          · exact ⟨cs, t, F3.get ((F1.trans0 F).get hcs (by simp)) (by simpa using nmb b h1), ht⟩
        · exact ⟨cs, t, F3.get (F12.get hcs hbK) (by simpa using nmb b h1), ht⟩
end
end Go.Proofs.Ybulkduvu
