import Derived.Test.YbulkdusaRaise
namespace Go.Proofs.Ybulkdusa
open Go.RowKit Base Go.RwLone
variable {w : World} {g bd ba n N : Nat} {hz : Int} {f : Nat → Option Value} {T : Nat → List Ver} {B : Nat → Nat} {ag : Nat → Bool}

theorem cnt_le (f : Nat → Option Value) : cnt f ≤ 4 := by
  unfold cnt
  exact Nat.le_trans List.countP_le_length (by simp)

set_option maxHeartbeats 400000 in
set_option maxRecDepth 100000 in
theorem raise_yes (h : Int) (hS : St w g bd ba n N 0 0 hz f T B ag) (hh : ¬ h ≤ hz) (hn : n + 4 < maxLen) (hN : N ≤ 1000000) :
    Calls Yba.prog 7 #[.pointer (some ⟨g, 0, none⟩), .int .u64 h] w fun e w' => e = .returned (.tuple #[]) ∧ Fr (own g bd ba T B) w w' ∧ ∃ f' T' ag', St w' g bd ba (n + 4) N 0 0 h f' T' B ag' ∧ ∀ c, c < 4 → T' c = rT h T ag c ∧ ag' c = rA h T ag c := by
  go_enter_defers Yba.func7, Yba.ntmps7
  go_wp2_with (first
    | (go_at_call 9; refine (wlock_free Yba.rwWLib g 15 _ _ _ (st_c0 hS.rg) (st_c2 hS.rg) (st_c3 hS.rg) (st_c4 hS.rg) (st_z hS.rg 15) (st_z hS.rg _)).mono ?_; rintro e w1 ⟨rfl, hw1⟩; obtain ⟨rg1, F1⟩ := st_set hS.rg _ _ hw1; have S1 := hS.row F1 rg1; clear hw1)
    | (refine wpList_load_cell rfl 27 _ rfl (some 16) rfl g 23 (.int .u64 hz) rfl 52 _ (0, 0) rg1 rfl _ Yba.underlying27 rfl ?_)
    | (refine wpList_store_cell rfl 27 (.tmp 21) _ rfl g 23 (.int .u64 h) rfl rfl rfl 52 _ rg1 (by simp [stRow]) size27 ?_; intro w2 F2 r2 s2; replace r2 : w2.heap[g]? = some (.cells (stRow 1 (-1073741824) bd ba h) 52) := r2; have S2 := S1.row F2 r2; obtain ⟨w3, hr3, R3, F3, s3⟩ := S2.ma.range (T := 26) (E := 4) Yba.underlying26; have S3 := S2.keep0 F3; have hr2 : w.heap.size ≤ w2.heap.size := Nat.le_trans F1.size F2.size; generalize w2.heap.size = r at hr3 R3 s3 hr2)
    | (refine wpList_load_cell rfl 26 _ rfl (some 25) rfl g 22 (.map (some ba)) rfl 52 _ (0, 0) r2 rfl _ Yba.underlying26 rfl ?_)
    | (refine wpList_do rfl (some 26) rfl _ w3 (exec_range rfl rfl hr3) ?_))
  go_frame
  go_loopw [4] (fun _ wr => ∃ k left fi Ti agi ni, Rnd w wr g bd ba r n N h T B ag k left fi Ti agi ni) (fun _ wr => wr.rangeLeft ba r)
  case atStart =>
    refine ⟨_, _, _, _, _, n, S3, R3, fun c hc hl => ⟨rfl, rfl⟩, fun c hc hl => ?_, ?_, by have := cnt_le (agF ag); omega, Nat.le_refl _, hr2⟩
    · have : ag c = false := by
        cases hg : ag c with
        | false => rfl
        | true => simp [agF, hg] at hl
      simp [rT, rA, this]
    · exact (((F1.trans1 F2 (.inl (by simp))).mono (fun x hx => .inl (mem_own.2 (.inl (by simpa using hx))))).trans0 F3)
  case round =>
    obtain ⟨k, left, fi, Ti, agi, ni, R⟩ := hrel
    clear S3 R3 F1 F2 F3 r2 S2 S1 rg1 hr3 hS
    rcases R.rn.next 0 with ⟨hk0, hall, hnx⟩ | ⟨c, v, w5, k1, hc, hlc, hfc, hnx, R5, hk1, F5, s5, hen⟩
    · go_wp2_with (first
        | (refine wpList_do rfl (some 27) rfl _ wr (exec_next rfl rfl hnx) ?_))
      have rg1 := R.st.rg
      refine leaves_cons (f := 10) (args := #[.pointer (some ⟨g, 15, none⟩)]) (by simp) (by simp [go_sem]) ?_
      refine (wunlock_deferred Yba.rwWLib g 15 _ _ .returning _ (st_c0 rg1) (st_c2 rg1) (st_c3 rg1) (st_c4 rg1) (st_z rg1 15) (st_z rg1 _)).mono ?_
      rintro e u' w4 ⟨rfl, rfl, hw4⟩
      obtain ⟨rg4, F4⟩ := st_set' rg1 _ _ hw4
      have le := R.le
      exact ⟨_, results_none rfl _ _ _, rfl, R.fr.trans1 F4 (.inl (mem_own.2 (.inl rfl))), fi, Ti, agi, (R.st.row F4 rg4).mono (by omega) (Nat.le_refl _), fun c hc => R.no c hc (hall c hc)⟩
    · obtain ⟨o, cap, cs, hfi, S5, hpos, hK⟩ := R.kin hc hfc R5 F5 hn hN hk1
      have hlk := (S5.md.look (T := 25) (E := 60) Yba.underlying25 (zero60 w5) (zd := _) rfl hc).2
      rw [hfi] at hlk
      replace hlk : (Instr.lookup 25 (.map (some bd)) (.string (keyS c)) false).run Yba.prog w5 = .ok (.slice (some ⟨B c, o, none⟩) (Ti c).length cap) w5 := hlk
      have rg5 := S5.rg
      clear hfi
      go_wp2_with (first
        | (refine wpList_do rfl (some 27) rfl _ w5 (exec_next rfl rfl hnx) ?_)
        | (refine wpList_do rfl (some 29) rfl _ w5 (exec_entry rfl rfl hen) ?_)
        | (refine wpList_load_cell rfl 25 _ rfl (some 36) rfl g 21 (.map (some bd)) rfl 52 _ (0, 0) rg5 rfl _ Yba.underlying25 rfl ?_)
        | (refine wpList_do rfl (some 38) rfl _ w5 (exec_lookup rfl rfl rfl hlk) ?_)
        | (go_at_call 11; refine (keep_any hK hpos).mono ?_; rintro e w6 ⟨rfl, hO⟩; obtain ⟨k', left', f', T', a', n', R', hk'⟩ := R.next hc hlc hfc F5 hk1 S5 hO))
      go_roundw
      case rel => exact ⟨_, _, _, _, _, _, R'⟩
      case measure => rw [R'.rn.left_eq, R.rn.left_eq]; exact hk'
end Go.Proofs.Ybulkdusa
