import Derived.Test.YbulkdusaMap
import Derived.Test.YbulkdusaVer
import Derived.Test.YbulkdusaAnyB
import Derived.Laws.BytesArg
namespace Go.Proofs.Ybulkdusa
open Go.RowKit Base

theorem size27 : (Yba.prog.info? 27).map (·.size) = some 1 := by kernel_rfl
theorem size66 : (Yba.prog.info? 66).map (·.size) = some 3 := by kernel_rfl
theorem zero66 (w : World) : (zeroValue 66).run Yba.prog w = .ok (.agg #[.int .u64 0, .slice none 0 0, .bool false]) w := by kernel_rfl
theorem zero60 (w : World) : (zeroValue 60).run Yba.prog w = .ok (.slice none 0 0) w := by kernel_rfl
theorem zero4 (w : World) : (zeroValue 4).run Yba.prog w = .ok (.bool false) w := by kernel_rfl

set_option maxHeartbeats 400000 in
theorem key_any (k : Nat) (hk : k < 256) (w : World) : Calls Yba.prog 5 #[.int .u8 k] w fun e w' => e = .returned (.string (keyS (k % 4))) ∧ w' = w := by
  have h4 : (k : Int) % 4 = 0 ∨ (k : Int) % 4 = 1 ∨ (k : Int) % 4 = 2 ∨ (k : Int) % 4 = 3 := by omega
  rcases h4 with h | h | h | h
  · have e : k % 4 = 0 := by omega
    rw [e]
    go_enter Yba.func5, Yba.ntmps5
    go_wp2
    go_ret
    exact ⟨rfl, rfl⟩
  · have e : k % 4 = 1 := by omega
    rw [e]
    go_enter Yba.func5, Yba.ntmps5
    go_wp2
    go_ret
    exact ⟨rfl, rfl⟩
  · have e : k % 4 = 2 := by omega
    rw [e]
    go_enter Yba.func5, Yba.ntmps5
    go_wp2
    go_ret
    exact ⟨rfl, rfl⟩
  · have e : k % 4 = 3 := by omega
    rw [e]
    go_enter Yba.func5, Yba.ntmps5
    go_wp2
    go_ret
    exact ⟨rfl, rfl⟩

theorem idx60 {b o n cap i : Nat} (h : i < n) (w : World) : (Instr.indexAt 60 (.slice (some ⟨b, o, none⟩) n cap) (.int .i64 i)).run Yba.prog w = .ok (.pointer (some ⟨b, o + i * 3, none⟩)) w := by
  have e : Yba.prog.elem 60 = 66 := by kernel_rfl
  rw [run_indexAt_slice w 60 ⟨b, o, none⟩ n cap .i64 i (by rw [e]; exact Yba.underlying60), if_pos (by omega), e, Yba.sizeOf66]
  simp [Addr.add_lit]
theorem fa66_0 (b o : Nat) (w : World) : (Instr.fieldAt 66 (.pointer (some ⟨b, o, none⟩)) 0).run Yba.prog w = .ok (.pointer (some ⟨b, o, none⟩)) w := by kernel_rfl

theorem exec_index {w : World} {o : Oper} {a : Act} {T : TypeId} {x i : Operand} (ho : o.op = .indexAddr T x i) {xv iv v : Value} {w1 : World} (hx : a.eval x = xv) (hi : a.eval i = iv) (hrun : (Instr.indexAt T xv iv).run Yba.prog w = .ok v w1) : (execOp a.eval o).run Yba.prog w = .ok (.value v) w1 := by
  simp [execOp, ho, hx, hi, hrun]
theorem exec_gtr {w : World} {o : Oper} {a : Act} {T T' : TypeId} {x y : Operand} {k : IntKind} (ho : o.op = .binOp .gtr T x y T') {p q : Int} (hx : a.eval x = .int k p) (hy : a.eval y = .int k q) : (execOp a.eval o).run Yba.prog w = .ok (.value (.bool (decide (q < p)))) w := by
  simp [execOp, ho, hx, hy, eqGuard_gtr, binOp_gtr]

set_option maxHeartbeats 400000 in
theorem clos_any (b o n cap i bx by_ : Nat) (h : Int) (L : List Ver) (cs : Array Value) (w : World) (hi : i < n) (hn : n = L.length) (rb : w.heap[b]? = some (.cells cs 66)) (hat : At cs o (cl L))
    (rx : w.heap[bx]? = some (.cells #[.slice (some ⟨b, o, none⟩) n cap] 60)) (ry : w.heap[by_]? = some (.cells #[.int .u64 h] 27)) :
    Calls Yba.prog 30 #[.int .i64 i, .pointer (some ⟨bx, 0, none⟩), .pointer (some ⟨by_, 0, none⟩)] w fun e w' => e = .returned (.bool (decide (h < (L[i]'(by omega)).at_))) ∧ w' = w.drew := by
  subst hn
  have c9 : ∀ w' : World, w'.heap[b]? = some (.cells cs 66) → w'.cell? ⟨b, o + i * 3, none⟩ = some (.int .u64 (L[i]).at_) := fun w' r => by rw [cell_of_row w' b _ cs 66 _ r]; exact enc_0 (at_ver hat hi)
  go_enter Yba.func30, Yba.ntmps30
  go_wp2
  refine any_begin (fun w' => w'.heap[b]? = some (.cells cs 66) ∧ w'.heap[bx]? = some (.cells #[.slice (some ⟨b, o, none⟩) L.length cap] 60) ∧ w'.heap[by_]? = some (.cells #[.int .u64 h] 27)) (by kernel_rfl) ⟨rb, rx, ry⟩ ?_
  refine any_load_cell 0 rfl (some 5) rfl (by kernel_rfl) (by kernel_rfl) (by kernel_rfl) rfl (.slice (some ⟨b, o, none⟩) L.length cap) (fun _ _ _ h => h) 60 (.tmp 1) rfl ⟨bx, 0, none⟩ rfl (fun w h => by rw [cell_of_row w bx 0 _ _ _ h.2.1]; rfl) _ Yba.underlying60 rfl ⟨rb, rx, ry⟩ ?_
  simp only [Act.put, List.setIfInBounds_toArray, List.set_cons_zero, List.set_cons_succ]
  refine any_take 1 rfl (some 6) rfl (by kernel_rfl) (by kernel_rfl) (by kernel_rfl) rfl (.int .i64 i) (fun _ _ _ h => h) (fun _ _ => rfl) ⟨rb, rx, ry⟩ ?_
  simp only [Act.put, List.setIfInBounds_toArray, List.set_cons_zero, List.set_cons_succ]
  refine any_take 2 rfl (some 7) rfl (by kernel_rfl) (by kernel_rfl) (by kernel_rfl) rfl (.pointer (some ⟨b, o + i * 3, none⟩)) (fun _ _ _ h => h) (fun w _ => exec_index (xv := .slice (some ⟨b, o, none⟩) L.length cap) (iv := .int .i64 i) rfl rfl rfl (idx60 hi w)) ⟨rb, rx, ry⟩ ?_
  simp only [Act.put, List.setIfInBounds_toArray, List.set_cons_zero, List.set_cons_succ]
  refine any_take 3 rfl (some 8) rfl (by kernel_rfl) (by kernel_rfl) (by kernel_rfl) rfl (.pointer (some ⟨b, o + i * 3, none⟩)) (fun _ _ _ h => h) (fun _ _ => by kernel_rfl) ⟨rb, rx, ry⟩ ?_
  simp only [Act.put, List.setIfInBounds_toArray, List.set_cons_zero, List.set_cons_succ]
  refine any_load_cell 4 rfl (some 9) rfl (by kernel_rfl) (by kernel_rfl) (by kernel_rfl) rfl (.int .u64 (L[i]).at_) (fun _ _ _ h => h) 27 (.tmp 8) rfl ⟨b, o + i * 3, none⟩ rfl (fun w h => c9 w h.1) _ Yba.underlying27 rfl ⟨rb, rx, ry⟩ ?_
  simp only [Act.put, List.setIfInBounds_toArray, List.set_cons_zero, List.set_cons_succ]
  refine any_load_cell 5 rfl (some 10) rfl (by kernel_rfl) (by kernel_rfl) (by kernel_rfl) rfl (.int .u64 h) (fun _ _ _ h => h) 27 (.tmp 2) rfl ⟨by_, 0, none⟩ rfl (fun w h => by rw [cell_of_row w by_ 0 _ _ _ h.2.2]; rfl) _ Yba.underlying27 rfl ⟨rb, rx, ry⟩ ?_
  simp only [Act.put, List.setIfInBounds_toArray, List.set_cons_zero, List.set_cons_succ]
  refine any_take 6 rfl (some 11) rfl (by kernel_rfl) (by kernel_rfl) (by kernel_rfl) rfl (.bool (decide (h < (L[i]).at_))) (fun _ _ _ h => h) (fun w _ => exec_gtr (k := .u64) (p := (L[i]).at_) (q := h) rfl rfl rfl) ⟨rb, rx, ry⟩ ?_
  simp only [Act.put, List.setIfInBounds_toArray, List.set_cons_zero, List.set_cons_succ]
  refine any_take 7 rfl (some 4) rfl (by kernel_rfl) (by kernel_rfl) (by kernel_rfl) rfl (.bool (decide (h < (L[i]).at_))) (fun _ _ _ h => h) (fun _ _ => rfl) ⟨rb, rx, ry⟩ ?_
  simp only [Act.put, List.setIfInBounds_toArray, List.set_cons_zero, List.set_cons_succ]
  refine any_done (by kernel_rfl) ?_
  go_wp2
  go_ret
  exact ⟨rfl, rfl⟩

set_option maxHeartbeats 1000000 in
theorem search_any (b o n cap bx by_ : Nat) (h : Int) (L : List Ver) (cs : Array Value) (w : World) (hn : n = L.length) (hl : n ≤ 1000000) (hs : Srt L) (rb : w.heap[b]? = some (.cells cs 66)) (hat : At cs o (cl L))
    (rx : w.heap[bx]? = some (.cells #[.slice (some ⟨b, o, none⟩) n cap] 60)) (ry : w.heap[by_]? = some (.cells #[.int .u64 h] 27)) :
    Calls Yba.prog 29 #[.int .i64 n, .func (.func 30) #[] #[.pointer (some ⟨bx, 0, none⟩), .pointer (some ⟨by_, 0, none⟩)]] w fun e w' => e = .returned (.int .i64 (cle h L)) ∧ Fr [] w w' := by
  subst hn
  go_enter Yba.func29, Yba.ntmps29
  go_wp2
  go_loopw [5, 6] (fun i j wr => ∃ p q : Nat, p ≤ q ∧ q ≤ L.length ∧ i = .int .i64 p ∧ j = .int .i64 q ∧ Hid (∀ (k : Nat) (hk : k < L.length), k < p → (L[k]).at_ ≤ h) ∧ Hid (∀ (k : Nat) (hk : k < L.length), q ≤ k → h < (L[k]).at_) ∧ Fr [] w wr) (fun i j _ => (intOf j).toNat - (intOf i).toNat)
  case atStart => exact ⟨0, L.length, by omega, by omega, rfl, rfl, fun k hk h1 => by omega, fun k hk h1 => by omega, Fr.refl _ _⟩
  case round =>
    obtain ⟨p, q, hpq, hq, rfl, rfl, H1, H2, hF⟩ := hrel
    by_cases hlt : p < q
    · have hm : (p + q) / 2 < L.length := by omega
      by_cases hc : h < (L[(p + q) / 2]).at_
      · have hd : decide (h < (L[(p + q) / 2]).at_) = true := by simpa using hc
        go_wp2_with (go_at_call 30; refine (clos_any b o L.length cap ((p + q) / 2) bx by_ h L cs _ hm rfl (hF.get rb (by simp)) hat (hF.get rx (by simp)) (hF.get ry (by simp))).mono ?_; rintro e w1 ⟨rfl, rfl⟩)
        go_roundw
        case rel => exact ⟨p, (p + q) / 2, by omega, by omega, rfl, by go_num, H1, fun k hk h1 => Int.lt_of_lt_of_le hc (hs.get h1 hk), hF.trans0 (Fr.drew wr)⟩
        case measure => simp [intOf]; omega
      · have hd : decide (h < (L[(p + q) / 2]).at_) = false := by simpa using hc
        go_wp2_with (go_at_call 30; refine (clos_any b o L.length cap ((p + q) / 2) bx by_ h L cs _ hm rfl (hF.get rb (by simp)) hat (hF.get rx (by simp)) (hF.get ry (by simp))).mono ?_; rintro e w1 ⟨rfl, rfl⟩)
        go_roundw
        case rel => exact ⟨(p + q) / 2 + 1, q, by omega, by omega, by go_num, rfl, fun k hk h1 => Int.le_trans (hs.get (show k ≤ (p + q) / 2 by omega) hm) (by omega), H2, hF.trans0 (Fr.drew wr)⟩
        case measure => simp [intOf]; omega
    · have e : p = q := by omega
      subst e
      go_wp2
      go_ret
      have := cle_unique (h := h) (L := L) (i := p) hq H1.out H2.out
      exact ⟨congrArg (fun n : Nat => Ending.returned (Value.int .i64 (n : Int))) this, hF⟩

set_option maxHeartbeats 1000000 in
theorem search_zero (f : Value) (w : World) : Calls Yba.prog 29 #[.int .i64 0, f] w fun e w' => e = .returned (.int .i64 0) ∧ w' = w := by
  go_enter Yba.func29, Yba.ntmps29
  go_wp2
  go_loopw [5, 6] (fun i j wr => i = .int .i64 0 ∧ j = .int .i64 0 ∧ wr = w) (fun _ _ _ => 0)
  case atStart => exact ⟨rfl, rfl, rfl⟩
  case round =>
    obtain ⟨rfl, rfl, rfl⟩ := hrel
    go_wp2
    go_ret
    exact ⟨rfl, rfl⟩

set_option maxHeartbeats 1000000 in
theorem latest_any (v : Value) (h : Int) (L : List Ver) (w : World) (hs : Srt L) (hl : L.length ≤ 1000000) (hv : Seg w v 66 3 L.length (cl L)) :
    Calls Yba.prog 25 #[v, .int .u64 h] w fun e w' => e = .returned (.int .i64 ((cle h L : Int) - 1)) ∧ Fr [] w w' := by
  have hmf : ∀ (fn : Fn) (first cap : Array Value) (w : World), (Instr.makeFunc fn first cap).run Yba.prog w = .ok (.func fn first cap) w := fun _ _ _ _ => rfl
  have hc := cle_le h L
  rcases hv with ⟨rfl, h0, _⟩ | ⟨b, o, cap, cs, rfl, rb, hnc, hos, _, hat⟩
  · have e0 : cle h L = 0 := by omega
    rw [e0]
    go_enter Yba.func25, Yba.ntmps25
    go_wp2_with (first
      | (refine wpList_box rfl 60 _ rfl (some 2) rfl _ #[.slice none 0 0] rfl rfl ?_; intro b2 w1 e1 F1 r2 s1)
      | (refine wpList_box rfl 27 _ rfl (some 3) rfl _ #[.int .u64 h] rfl rfl ?_; intro b3 w2 e2 F2 r3 s2; replace r2 := F2.get r2 (by simp))
      | (refine wpList_load_cell rfl 60 _ rfl (some 5) rfl b2 0 (.slice none 0 0) rfl 60 _ _ r2 rfl _ Yba.underlying60 rfl ?_)
      | (go_at_call 29; refine (search_zero _ _).mono ?_; rintro e w3 ⟨rfl, rfl⟩))
    go_ret
    exact ⟨rfl, F1.trans0 F2⟩
  · go_enter Yba.func25, Yba.ntmps25
    go_wp2_with (first
      | (refine wpList_box rfl 60 _ rfl (some 2) rfl _ #[.slice (some ⟨b, o, none⟩) L.length cap] rfl rfl ?_; intro b2 w1 e1 F1 r2 s1; replace rb := F1.get rb (by simp))
      | (refine wpList_box rfl 27 _ rfl (some 3) rfl _ #[.int .u64 h] rfl rfl ?_; intro b3 w2 e2 F2 r3 s2; replace rb := F2.get rb (by simp); replace r2 := F2.get r2 (by simp))
      | (refine wpList_load_cell rfl 60 _ rfl (some 5) rfl b2 0 (.slice (some ⟨b, o, none⟩) L.length cap) rfl 60 _ _ r2 rfl _ Yba.underlying60 rfl ?_)
      | (go_at_call 29; refine (search_any b o L.length cap b2 b3 h L cs _ rfl hl hs rb hat r2 r3).mono ?_; rintro e w3 ⟨rfl, F3⟩))
    go_ret
    exact ⟨rfl, (F1.trans0 F2).trans0 F3⟩

theorem OKv.text {w : World} {v : Value} (hv : OKv w v) : ∃ s, (convert 55 9 v).run Yba.prog w = .ok (.string s) w := by
  rcases hv with rfl | ⟨b, x, rfl, rb, _⟩
  · exact ⟨_, run_convert_bytes_nil w 55 5 Yba.underlying55 Yba.underlying5 0 0 9 Yba.underlying9⟩
  · refine ⟨_, run_convert_bytes_arg w 55 5 Yba.underlying55 Yba.underlying5 b 0 1 1 [x] rfl (fun i hi => ?_) 9 Yba.underlying9⟩
    have : i = 0 := by omega
    subst this
    rw [cell_of_row w b _ _ _ _ rb]
    rfl

set_option maxHeartbeats 1000000 in
set_option maxRecDepth 100000 in
theorem equal_any (v : Value) (w : World) (hv : OKv w v) : Calls Yba.prog 12 #[v, v] w fun e w' => e = .returned (.bool true) ∧ w' = w := by
  obtain ⟨s, hs⟩ := hv.text
  clear hv
  go_enter Yba.func12, Yba.ntmps12
  go_wp2
  go_ret
  exact ⟨by simp, rfl⟩

theorem info66 : (Yba.prog.info? 66).map (fun i => (i.zero, i.size, i.bytes)) = some (some (.agg #[.int .u64 0, .slice none 0 0, .bool false]), 3, 40) := by kernel_rfl
theorem emptySlice (w : World) : (Instr.buildSlice 60 0 #[]).run Yba.prog w = .ok (.slice (some ⟨w.heap.size, 0, none⟩) 0 0) (w.alloc (.cells #[] 66)) := by kernel_rfl

/-- slices.Clone: nil stays nil; else the same versions in another block -/
theorem clone_nil (w : World) : Calls Yba.prog 6 #[.slice none 0 0] w fun e w' => e = .returned (.slice none 0 0) ∧ w' = w := by
  have hn := fun w a n c => Lib.run_eql_slice_nil (P := Yba.prog) w 60 66 a n c 0 0 Yba.underlying60
  go_enter Yba.func6, Yba.ntmps6
  go_wp2
  go_ret
  exact ⟨rfl, rfl⟩

set_option maxHeartbeats 1000000 in
set_option maxRecDepth 100000 in
theorem clone_some (v : Value) (L : List Ver) (w : World) (hv : Seg w v 66 3 L.length (cl L)) (hv0 : v ≠ .slice none 0 0) (hok : ∀ x ∈ L, OKv w x.val) (hl : L.length ≤ 1000000) :
    Calls Yba.prog 6 #[v] w fun e w' => ∃ v', e = .returned v' ∧ Seg w' v' 66 3 L.length (cl L) ∧ Fr [] w w' ∧ ∀ x ∈ blk v', w.heap.size ≤ x := by
  obtain ⟨i0, hi, hz0, hz1, hz2⟩ := info_parts info66
  have hn := fun w a n c => Lib.run_eql_slice_nil (P := Yba.prog) w 60 66 a n c 0 0 Yba.underlying60
  rcases hv with ⟨rfl, _⟩ | ⟨b, o, cap, cs, rfl, rb, hnc, hos, _, hat⟩
  · exact absurd rfl hv0
  · have hone := cl_one hok
    clear hv0 hok
    go_enter Yba.func6, Yba.ntmps6
    go_wp2_with (first
      | (refine wpList_buildSlice rfl (some 5) rfl 60 0 [] rfl [] rfl #[] 66 emptySlice ?_; intro b5 w1 e1 F1 r5 s1; replace rb := F1.get rb (by simp); have hseg : Seg w1 (.slice (some ⟨b5, 0, none⟩) 0 0) 66 3 0 [] := .inr ⟨b5, 0, 0, #[], rfl, r5, Nat.le_refl _, by simp, rfl, At.nil _ _⟩; obtain ⟨v', w2, hrun, hseg2, hw2⟩ := hseg.append (P := Yba.prog) 60 0 i0 _ 40 Yba.underlying60 hi hz0 hz1 hz2 rfl ⟨b, o, none⟩ L.length cap (cl L) (cl_len L) (fun j u hu => by rw [Addr.add_lit]; exact hat.rangeAt rb j u hu) hone (.inr (by simp)) (by omega) (by omega))
      | (refine wpList_do rfl (some 7) rfl v' w2 (exec_append rfl rfl rfl hrun) ?_))
    go_ret
    have q1 := e1.out
    refine ⟨v', rfl, by simpa using hseg2, ?_, ?_⟩
    · rcases hw2 with ⟨_, F2, _⟩ | ⟨_, F2, _⟩
      · exact F1.trans1 (g := b5) F2 (.inr (by omega))
      · exact F1.trans0 F2
    · rcases hw2 with ⟨h1, _⟩ | ⟨h1, _⟩
      · rw [h1]
        simp [blk]
        omega
      · rw [h1]
        have := F1.size
        simp
        omega
end Go.Proofs.Ybulkdusa
