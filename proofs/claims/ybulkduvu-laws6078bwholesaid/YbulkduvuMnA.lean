import Derived.Test.YbulkduvuCk
namespace Go.Proofs.Ybulkduvu
open Go.RowKit Base

def pA (f : Nat → Value) : Array Value := #[f 0, f 1, f 2, f 3, f 4]
theorem pA_set (f : Nat → Value) {i : Nat} (hi : i < 5) (v : Value) : (pA f).setIfInBounds i v = pA (upd f i v) := by
  have : i = 0 ∨ i = 1 ∨ i = 2 ∨ i = 3 ∨ i = 4 := by omega
  rcases this with rfl | rfl | rfl | rfl | rfl <;> rfl
theorem pA_congr {f f' : Nat → Value} (h : ∀ i, i < 5 → f i = f' i) : pA f = pA f' := by
  unfold pA
  rw [h 0 (by omega), h 1 (by omega), h 2 (by omega), h 3 (by omega), h 4 (by omega)]
theorem mRow_congr {cl cl' : Nat → Int} (h : ∀ i, i < 5 → cl i = cl' i) (K Ls : Value) : mRow cl K Ls = mRow cl' K Ls := by
  unfold mRow
  rw [h 0 (by omega), h 1 (by omega), h 2 (by omega), h 3 (by omega), h 4 (by omega)]
theorem zero37 (w : World) : (zeroValue 37).run Yba.prog w = .ok (.agg (pA fun _ => .pointer none)) w := by kernel_rfl
theorem build43 (w : World) : (Instr.build 43 #[]).run Yba.prog w = .ok (.agg (mRow (fun _ => 0) (.slice none 0 0) (.slice none 0 0))) w := by kernel_rfl
theorem build60 (w : World) : (Instr.build 60 #[(4, .int .i64 (-1))]).run Yba.prog w = .ok (.agg (cRow (-1))) w := by kernel_rfl
theorem build71 (mp : Nat) (w : World) : (Instr.build 71 #[(1, .map (some mp))]).run Yba.prog w = .ok (.agg (oRow mp)) w := by kernel_rfl
def stp (op k : Nat) (s : Int) : Array Value := #[.int .u8 op, .int .u8 k, .int .i64 s]
theorem zero73 (w : World) : (zeroValue 73).run Yba.prog w = .ok (.agg (stp 0 0 0)) w := by kernel_rfl
theorem stp_one (op k : Nat) (s : Int) : (stp op k s).all (·.oneCell') = true := by simp [stp, Value.oneCell']
theorem size73 : (Yba.prog.info? 73).map (·.size) = some 3 := by kernel_rfl
theorem st0 {w : World} {b op k : Nat} {s : Int} (h : w.heap[b]? = some (.cells (stp op k s) 73)) : w.cell? ⟨b, 0, none⟩ = some (.int .u8 op) := by rw [cell_of_row w b 0 _ _ _ h]; rfl
theorem st1 {w : World} {b op k : Nat} {s : Int} (h : w.heap[b]? = some (.cells (stp op k s) 73)) : w.cell? ⟨b, 1, none⟩ = some (.int .u8 k) := by rw [cell_of_row w b 1 _ _ _ h]; rfl
theorem st2 {w : World} {b op k : Nat} {s : Int} (h : w.heap[b]? = some (.cells (stp op k s) 73)) : w.cell? ⟨b, 2, none⟩ = some (.int .i64 s) := by rw [cell_of_row w b 2 _ _ _ h]; rfl

def Steps (w : World) (a : Option Addr) (len : Nat) : Prop := len = 0 ∨ ∃ b o, a = some ⟨b, o, none⟩ ∧ ∀ j, j < len → ∃ (op k : Nat) (s : Int), op < 256 ∧ k < 256 ∧ I64 s ∧
  w.cell? ⟨b, o + j * 3, none⟩ = some (.int .u8 op) ∧ w.cell? ⟨b, o + j * 3 + 1, none⟩ = some (.int .u8 k) ∧ w.cell? ⟨b, o + j * 3 + 2, none⟩ = some (.int .i64 s)

/-- behind i rounds of the first loop -/
structure Ini (w wr : World) (cb mb : Nat) (g : Nat → Nat) (i : Nat) : Prop where
  rc : wr.heap[cb]? = some (.cells (pA fun j => if j < i then cp g j else .pointer none) 37)
  rm : wr.heap[mb]? = some (.cells (mRow (fun j => if j < i then -1 else 0) (.slice none 0 0) (.slice none 0 0)) 43)
  rg : ∀ j, j < i → wr.heap[g j]? = some (.cells (cRow (-1)) 60)
  gb : ∀ j, j < i → w.heap.size ≤ g j
  inj : ∀ j j', j < i → j' < i → g j = g j' → j = j'
  fr : Fr [] w wr
  bc : w.heap.size ≤ cb
  bm : w.heap.size ≤ mb

theorem Ini.next {w wr w1 w2 w3 : World} {cb mb gn i : Nat} {g : Nat → Nat} (h : Ini w wr cb mb g i) (hi : i < 5) (e1 : gn = wr.heap.size) (F1 : Fr [] wr w1) (r1 : w1.heap[gn]? = some (.cells (cRow (-1)) 60))
    (F2 : Fr [cb] w1 w2) (r2 : w2.heap[cb]? = some (.cells ((pA fun j => if j < i then cp g j else .pointer none).setIfInBounds i (.pointer (some ⟨gn, 0, none⟩))) 37))
    (F3 : Fr [mb] w2 w3) (r3 : w3.heap[mb]? = some (.cells ((mRow (fun j => if j < i then -1 else 0) (.slice none 0 0) (.slice none 0 0)).setIfInBounds i (.int .i64 (-1))) 43)) : Ini w w3 cb mb (upd g i gn) (i + 1) := by
  have hcm : cb ≠ mb := ne_type h.rc h.rm (by decide)
  have hgl : ∀ j, j < i → g j < wr.heap.size := fun j hj => lt_of_get (h.rg j hj)
  refine ⟨?_, ?_, ?_, ?_, ?_, ?_, h.bc, h.bm⟩
  · rw [pA_set _ hi] at r2
    have := F3.get r2 (by simpa using hcm)
    rw [this]
    congr 1
    congr 1
    refine pA_congr fun j hj => ?_
    by_cases e : j = i
    · subst e; rw [upd_same, if_pos (by omega)]; simp [cp, upd_same]
    · rw [upd_other _ e]
      by_cases hji : j < i
      · rw [if_pos hji, if_pos (by omega)]; simp [cp, upd_other _ e]
      · rw [if_neg hji, if_neg (by omega)]
  · rw [mRow_set hi] at r3
    rw [r3]
    congr 1
    congr 1
    refine mRow_congr (fun j hj => ?_) _ _
    by_cases e : j = i
    · subst e; rw [upd_same, if_pos (by omega)]
    · rw [upd_other _ e]
      by_cases hji : j < i
      · rw [if_pos hji, if_pos (by omega)]
      · rw [if_neg hji, if_neg (by omega)]
  · intro j hj
    by_cases e : j = i
    · subst e
      rw [upd_same]
      have hc1 := F1.get h.rc (by simp)
      have hm1 := F2.get (F1.get h.rm (by simp)) (by simpa using hcm.symm)
      have r1' := F2.get r1 (by simpa using ne_type r1 hc1 (by decide))
      exact F3.get r1' (by simpa using ne_type r1' hm1 (by decide))
    · rw [upd_other _ e]
      have hr := h.rg j (by omega)
      have hr1 := F1.get hr (by simp)
      have hr2 := F2.get hr1 (by simpa using ne_type hr1 (F1.get h.rc (by simp)) (by decide))
      exact F3.get hr2 (by simpa using ne_type hr2 (F2.get (F1.get h.rm (by simp)) (by simpa using hcm.symm)) (by decide))
  · intro j hj
    by_cases e : j = i
    · subst e; rw [upd_same, e1]; exact h.fr.size
    · rw [upd_other _ e]; exact h.gb j (by omega)
  · intro j j' hj hj' he
    by_cases e : j = i
    · by_cases e' : j' = i
      · omega
      · subst e
        rw [upd_same, upd_other _ e'] at he
        have := hgl j' (by omega)
        omega
    · by_cases e' : j' = i
      · subst e'
        rw [upd_other _ e, upd_same] at he
        have := hgl j (by omega)
        omega
      · rw [upd_other _ e, upd_other _ e'] at he
        exact h.inj j j' (by omega) (by omega) he
  · exact ((h.fr.trans0 F1).trans1 F2 (.inr h.bc)).trans1 F3 (.inr h.bm)

section
variable {w w1 : World} {base ob mp mb cb n nm : Nat} {g : Nat → Nat} {ow ox : List Nat} {cl cl' : Nat → Int} {L L' : Int → List Nat} {V W : Int → Value} {ks : List Int} {K Ls : Value}

theorem rs_no {b : Nat} {cs : Array Value} {t : TypeId} (R : Rl w base ob mp g ow n cl L V) (h : w.heap[b]? = some (.cells cs t)) (h1 : t ≠ 60) (h2 : t ≠ 36) : b ∉ rs mp g ow := fun hb => by
  rcases rs_cases hb with e | ⟨i, hi, e⟩ | hb
  · subst e; exact R.mi.ne_cells h rfl
  · subst e; exact ne_type h (R.rg i hi) h1 rfl
  · obtain ⟨_, cs', hcs'⟩ := R.ty b hb
    exact ne_type h hcs' h2 rfl
theorem rs_base (R : Rl w base ob mp g ow n cl L V) : ∀ b ∈ rs mp g ow, base ≤ b := fun b hb => by
  rcases rs_cases hb with e | ⟨i, hi, e⟩ | hb
  · subst e; exact R.mb
  · subst e; exact R.gb i hi
  · exact (R.ty b hb).1
/-- the model stays while the outbox turns -/
theorem Md.keepR (M : Md w base mb nm cl' ks L' K Ls W ox) (R : Rl w base ob mp g ow n cl L V) (F : Fr (rs mp g ow) w w1) : Md w1 base mb nm cl' ks L' K Ls W ox :=
  M.keep F (rs_no R M.rm (by decide) (by decide)) (fun b hb => by
    obtain ⟨_, cs, t, hcs, ht⟩ := M.ty b hb
    exact rs_no R hcs (by rcases ht with rfl | rfl <;> decide) (by rcases ht with rfl | rfl <;> decide))
theorem mo_no {b : Nat} {cs : Array Value} {t : TypeId} (M : Md w base mb nm cl' ks L' K Ls W ox) (h : w.heap[b]? = some (.cells cs t)) (h1 : t ≠ 43) (h2 : t ≠ 3) (h3 : t ≠ 40) : b ∉ mb :: ox := fun hb => by
  rcases List.mem_cons.1 hb with e | hb
  · subst e; exact ne_type h M.rm h1 rfl
  · obtain ⟨_, cs', t', hcs', ht⟩ := M.ty b hb
    exact ne_type h hcs' (by rcases ht with rfl | rfl; exact h2; exact h3) rfl
theorem mo_base (M : Md w base mb nm cl' ks L' K Ls W ox) : ∀ b ∈ mb :: ox, base ≤ b := fun b hb => by
  rcases List.mem_cons.1 hb with e | hb
  · subst e; exact M.bm
  · exact (M.ty b hb).1
/-- the outbox stays while the model turns -/
theorem Rl.keepM (R : Rl w base ob mp g ow n cl L V) (M : Md w base mb nm cl' ks L' K Ls W ox) (F : Fr (mb :: ox) w w1) : Rl w1 base ob mp g ow n cl L V where
  ro := F.get R.ro (mo_no M R.ro (by decide) (by decide) (by decide))
  rg := fun i hi => F.get (R.rg i hi) (mo_no M (R.rg i hi) (by decide) (by decide) (by decide))
  inj := R.inj
  cw := R.cw
  mi := R.mi.keep F (fun hb => by
    rcases List.mem_cons.1 hb with e | hb
    · exact R.mi.ne_cells M.rm e
    · obtain ⟨_, cs', t', hcs', ht⟩ := M.ty mp hb
      exact R.mi.ne_cells hcs' rfl)
  seg := fun k hk => (R.seg k hk).keep F (fun b hb => by
    obtain ⟨cs, hcs⟩ := Seg.type (R.seg k hk) b hb
    exact mo_no M hcs (by decide) (by decide) (by decide))
  sep := R.sep
  ows := R.ows
  ty := fun b hb => by
    obtain ⟨h1, cs, hcs⟩ := R.ty b hb
    exact ⟨h1, cs, F.get hcs (mo_no M hcs (by decide) (by decide) (by decide))⟩
  lt5 := R.lt5
  len := R.len
  gb := R.gb
  mb := R.mb
end

/-- all of it -/
def All (w wr : World) (ob mp mb cb : Nat) (g : Nat → Nat) (n : Nat) : Prop :=
  ∃ (cl : Nat → Int) (ks : List Int) (L : Int → List Nat) (V W : Int → Value) (K Ls : Value) (ow ox : List Nat), Rl wr w.heap.size ob mp g ow n cl L V ∧ Md wr w.heap.size mb n cl ks L K Ls W ox ∧ (∀ k ∈ ks, I64 k) ∧ wr.heap[cb]? = some (.cells (cA g) 37) ∧ Fr [] w wr

theorem All.start {w wr w1 w2 : World} {cb mb mp ob : Nat} {g : Nat → Nat} (h : Ini w wr cb mb g 5) (e1 : mp = wr.heap.size) (F1 : Fr [] wr w1) (r1 : w1.heap[mp]? = some (.map #[] 0)) (F2 : Fr [] w1 w2) (r2 : w2.heap[ob]? = some (.cells (oRow mp) 71)) : All w w2 ob mp mb cb g 0 := by
  have F := F1.trans0 F2
  have hrm := F.get h.rm (by simp)
  have hrc := F.get h.rc (by simp)
  have er : mRow (fun j => if j < 5 then -1 else 0) (.slice none 0 0) (.slice none 0 0) = mRow (fun _ => -1) (.slice none 0 0) (.slice none 0 0) := mRow_congr (fun j hj => by rw [if_pos hj]) _ _
  have ec : pA (fun j => if j < 5 then cp g j else .pointer none) = cA g := pA_congr (f' := cp g) (fun j hj => by rw [if_pos hj])
  rw [er] at hrm
  rw [ec] at hrc
  refine ⟨fun _ => -1, [], fun _ => [], fun _ => .slice none 0 0, fun _ => .slice none 0 0, .slice none 0 0, .slice none 0 0, [], [], ?_, ?_, by simp, hrc, h.fr.trans0 F⟩
  · exact { ro := r2, rg := fun i hi => F.get (h.rg i hi) (by simp), inj := h.inj, cw := fun _ _ => by unfold I64; decide, mi := by
              have := (MapI.made r1).keep F2 (by simp)
              exact this, seg := fun k hk => absurd rfl hk, sep := fun k k' _ b hb => by simp [ok] at hb, ows := fun k b hb => by simp [ok] at hb, ty := by simp, lt5 := by simp, len := by simp, gb := h.gb, mb := by rw [e1]; exact h.fr.size }
  · exact { rm := hrm, bm := h.bm, kseg := .inl ⟨rfl, rfl, rfl⟩, lseg := .inl ⟨rfl, rfl, rfl⟩, iseg := by simp, nd := List.nodup_nil, sup := fun k hk => absurd rfl hk, sepk := by simp, sep := by simp, ok_ := by simp [blk], ol := by simp [blk], oi := by simp, ty := by simp, kn := by simp, len := by simp }

end Go.Proofs.Ybulkduvu
