import Derived.Test.YbulkdusoFmtWant
import Derived.Laws.BytesArg
namespace Go.Proofs.YbulkdusoFmt
open Go.RowKit Base

theorem Bs.keep {w w' : World} {a : Option Addr} {l : List Int} (h : Bs w a l) (F : Fr [] w w') : Bs w' a l := by
  rcases h with h | ⟨b, o, rfl, h⟩
  · exact .inl h
  · exact .inr ⟨b, o, rfl, h.keep F (by simp)⟩

theorem Bs.get {w : World} {ad : Addr} {l : List Int} (h : Bs w (some ad) l) {j : Nat} {v : Value} (hj : (l.map (Value.int .u8))[j]? = some v) : w.cell? (ad.add j) = some v := by
  rcases h with rfl | ⟨b, o, h, hB⟩
  · simp at hj
  · cases h
    rw [List.getElem?_map] at hj
    cases hc : l[j]? with
    | none => simp [hc] at hj
    | some c => simp [hc] at hj; subst hj; rw [Addr.add_lit]; exact hB j c hc

theorem conv22 {a : Option Addr} {n cap : Nat} {l : List Int} {w : World} (hn : l.length = n) (hb : Bs w a l) : (convert 22 9 (.slice a n cap)).run Ybaf.prog w = .ok (.string (strOfNums l)) w := by
  cases a with
  | none =>
    rcases hb with rfl | ⟨b, o, h, _⟩
    · exact run_convert_bytes_nil w 22 5 Ybaf.underlying22 Ybaf.underlying5 n cap 9 Ybaf.underlying9
    · cases h
  | some ad =>
    have hl : (loadCells ad n).run Ybaf.prog w = .ok (l.map (Value.int .u8)).toArray w := by
      have := run_loadCells_list (P := Ybaf.prog) w ad (l.map (Value.int .u8)) (fun j v hj => hb.get hj)
      simpa [hn] using this
    rw [run_convert_bytes_string w 22 9 5 _ n cap Ybaf.underlying22 Ybaf.underlying5 Ybaf.underlying9, run_bytesToString w _ n cap l hl, foldl_push_bytes]
    simp [strOfNums, ByteArray.empty, ByteArray.emptyWithCapacity]
    rfl

set_option maxHeartbeats 400000 in
theorem equal9 (a a' : Option Addr) (n cap cap' : Nat) (l : List Int) (w : World) (hn : l.length = n) (hb : Bs w a l) (hb' : Bs w a' l) :
    Calls Ybaf.prog 9 #[.slice a n cap, .slice a' n cap'] w fun e w' => e = .returned (.bool true) ∧ w' = w := by
  have c1 := conv22 (cap := cap) hn hb
  have c2 := conv22 (cap := cap') hn hb'
  go_enter Ybaf.func9, Ybaf.ntmps9
  go_wp2
  go_ret
  exact ⟨rfl, rfl⟩

theorem bs22 (w : World) : (Instr.buildSlice 22 0 #[]).run Ybaf.prog w = .ok (.slice (some ⟨w.heap.size, 0, none⟩) 0 0) (w.alloc (.cells #[] 5)) := by kernel_rfl
theorem info5' : (Ybaf.prog.info? 5).map (fun i => (i.zero, i.size, i.bytes)) = some (some (.int .u8 0), 1, 1) := by kernel_rfl
theorem info5 : ∃ i z, Ybaf.prog.info? 5 = some i ∧ i.zero = some z ∧ i.size = 1 ∧ i.bytes = 1 ∧ z.cells.size = 1 := by
  have h := info5'
  cases hq : Ybaf.prog.info? 5 with
  | none => simp [hq] at h
  | some i => simp [hq] at h; exact ⟨i, .int .u8 0, rfl, h.1, h.2.1, h.2.2, rfl⟩

set_option maxHeartbeats 400000 in
set_option maxRecDepth 100000 in
theorem clone_nil (cap : Nat) (w : World) : Calls Ybaf.prog 4 #[.slice none 0 cap] w fun e w' => e = .returned (.slice none 0 0) ∧ w' = w := by
  have hq : (binOp .eql 22 (.slice none 0 cap) (.slice none 0 0)).run Ybaf.prog w = .ok (.bool true) w := by kernel_rfl
  go_enter Ybaf.func4, Ybaf.ntmps4
  go_wp2
  go_ret
  exact ⟨rfl, rfl⟩

set_option maxHeartbeats 400000 in
set_option maxRecDepth 100000 in
theorem clone_some (ad : Addr) (n cap : Nat) (l : List Int) (w : World) (hn : l.length = n) (hl : n ≤ 1048576) (hb : Bs w (some ad) l) :
    Calls Ybaf.prog 4 #[.slice (some ad) n cap] w fun e w' => ∃ a' c', e = .returned (.slice a' n c') ∧ Fr [] w w' ∧ Bs w' a' l := by
  obtain ⟨i5, z5, hi, hz, hsz, hby, hzs⟩ := info5
  have hq : (binOp .eql 22 (.slice (some ad) n cap) (.slice none 0 0)).run Ybaf.prog w = .ok (.bool false) w := by kernel_rfl
  go_enter Ybaf.func4, Ybaf.ntmps4
  go_wp2_with (first
    | (refine wpList_buildSlice rfl (some 5) rfl 22 0 [] rfl [] rfl #[] 5 bs22 ?_; intro b w1 e1 F1 r1 z1; obtain ⟨v2, w2, hrun, hseg, hfr⟩ := Seg.append (P := Ybaf.prog) (w := w1) (v := .slice (some ⟨b, 0, none⟩) 0 0) (e := 5) (sz := 1) (n := 0) (ys := []) (.inr ⟨b, 0, 0, #[], rfl, r1, Nat.le_refl _, by simp, rfl, At.nil _ _⟩) 22 0 i5 z5 1 Ybaf.underlying22 hi hz hsz hby hzs ad n cap (l.map (Value.int .u8)) (by simp [hn]) (fun j v hj => (hb.keep F1).get hj) (by simp [Value.oneCell']) (.inr (by simp)) (by omega) (by omega))
    | (refine wpList_do rfl (some 7) rfl v2 w2 (exec_append rfl rfl rfl hrun) ?_))
  go_ret
  have F2 : Fr [] w w2 := by
    rcases hfr with ⟨_, F, _⟩ | ⟨_, F, _⟩
    · exact F1.trans F (by simp [blk]; exact Nat.le_of_eq e1.out.symm)
    · exact F1.trans0 F
  simp only [Nat.zero_add, List.nil_append] at hseg
  rcases hseg with ⟨rfl, rfl, h0⟩ | ⟨b', o', cap', cs, rfl, hr, _, _, _, hat⟩
  · exact ⟨none, 0, rfl, F2, .inl (by simpa using h0)⟩
  · refine ⟨some ⟨b', o', none⟩, cap', rfl, F2, .inr ⟨b', o', rfl, fun j c hc => ?_⟩⟩
    have hj : j < l.length := (List.getElem?_eq_some_iff.1 hc).1
    rw [cell_of_row w2 b' _ cs 5 _ hr, hat j (by simpa using hj), List.getElem?_map, hc]
    rfl
end Go.Proofs.YbulkdusoFmt
