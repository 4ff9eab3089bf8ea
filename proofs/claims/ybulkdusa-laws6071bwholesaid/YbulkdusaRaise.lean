import Derived.Test.YbulkdusaSt
namespace Go.Proofs.Ybulkdusa
open Go.RowKit Base Go.RwLone

def rT (h : Int) (T : Nat → List Ver) (ag : Nat → Bool) : Nat → List Ver := fun c => if ag c then (T c).drop (kN h (T c)) else T c
def rA (h : Int) (T : Nat → List Ver) (ag : Nat → Bool) : Nat → Bool := fun c => ag c && agB (rT h T ag c)

theorem upd_self {α : Type} (f : Nat → α) (c : Nat) : upd f c (f c) = f := by
  funext d
  by_cases h : d = c
  · subst h; rw [upd_same]
  · rw [upd_other _ h]

variable {w : World} {g bd ba n N : Nat} {hz : Int} {f : Nat → Option Value} {T : Nat → List Ver} {B : Nat → Nat} {ag : Nat → Bool}

set_option maxHeartbeats 400000 in
theorem raise_no (h : Int) (hS : St w g bd ba n N 0 0 hz f T B ag) (hh : h ≤ hz) :
    Calls Yba.prog 7 #[.pointer (some ⟨g, 0, none⟩), .int .u64 h] w fun e w' => e = .returned (.tuple #[]) ∧ Fr (own g bd ba T B) w w' ∧ St w' g bd ba n N 0 0 hz f T B ag := by
  go_enter_defers Yba.func7, Yba.ntmps7
  go_wp2_with (first
    | (go_at_call 9; refine (wlock_free Yba.rwWLib g 15 _ _ _ (st_c0 hS.rg) (st_c2 hS.rg) (st_c3 hS.rg) (st_c4 hS.rg) (st_z hS.rg 15) (st_z hS.rg _)).mono ?_; rintro e w1 ⟨rfl, hw1⟩; obtain ⟨rg1, F1⟩ := st_set hS.rg _ _ hw1; have S1 := hS.row F1 rg1; clear hw1)
    | (refine wpList_load_cell rfl 27 _ rfl (some 16) rfl g 23 (.int .u64 hz) rfl 52 _ (0, 0) rg1 rfl _ Yba.underlying27 rfl ?_))
  refine leaves_cons (f := 10) (args := #[.pointer (some ⟨g, 15, none⟩)]) (by simp) (by simp [go_sem]) ?_
  refine (wunlock_deferred Yba.rwWLib g 15 _ _ .returning _ (st_c0 rg1) (st_c2 rg1) (st_c3 rg1) (st_c4 rg1) (st_z rg1 15) (st_z rg1 _)).mono ?_
  rintro e u' w4 ⟨rfl, rfl, hw4⟩
  obtain ⟨rg4, F4⟩ := st_set' rg1 _ _ hw4
  refine ⟨_, results_none rfl _ _ _, rfl, (F1.trans1 F4 (.inl (by simp))).mono (fun x hx => .inl (mem_own.2 (.inl (by simpa using hx)))), S1.row F4 rg4⟩

theorem exec_next {w : World} {o : Oper} {a : Act} {x : Operand} (ho : o.op = .next x false) {xv v : Value} {w1 : World} (hx : a.eval x = xv) (hrun : (Instr.next xv false o.type).run Yba.prog w = .ok v w1) : (execOp a.eval o).run Yba.prog w = .ok (.value v) w1 := by simp [execOp, ho, hx, hrun]
theorem exec_entry {w : World} {o : Oper} {a : Act} {x : Operand} (ho : o.op = .entry x) {xv v : Value} {w1 : World} (hx : a.eval x = xv) (hrun : (Instr.entry xv).run Yba.prog w = .ok v w1) : (execOp a.eval o).run Yba.prog w = .ok (.value v) w1 := by simp [execOp, ho, hx, hrun]
theorem exec_range {w : World} {o : Oper} {a : Act} {x : Operand} {T : TypeId} (ho : o.op = .range T x) {xv v : Value} {w1 : World} (hx : a.eval x = xv) (hrun : (Instr.range T xv).run Yba.prog w = .ok v w1) : (execOp a.eval o).run Yba.prog w = .ok (.value v) w1 := by simp [execOp, ho, hx, hrun]

theorem KOut.imp {w w' : World} {g bd ba c n b : Nat} {l0 l4 hz : Int} {f : Nat → Option Value} {rest : List Ver} {Bd Bs Bd' Bs' : World → Prop} (h : KOut w w' g bd ba c n b l0 l4 hz f rest Bd Bs) (h1 : ∀ w, Bd w → Bd' w) (h2 : ∀ w, Bs w → Bs' w) : KOut w w' g bd ba c n b l0 l4 hz f rest Bd' Bs' := by
  obtain ⟨a1, a2, fv, a3, a4, a5, a6, a7⟩ := h
  exact ⟨a1, a2, fv, a3, a4, a5, fun h => h2 _ (a6 h), fun h => h1 _ (a7 h)⟩
theorem KOut.ends {w w' : World} {g bd ba c n b : Nat} {l0 l4 hz : Int} {f : Nat → Option Value} {rest : List Ver} {Bd Bs : World → Prop} (h : KOut w w' g bd ba c n b l0 l4 hz f rest Bd Bs) : Fr [bd, ba, b] w w' ∧ (agB rest = true → Bs w') ∧ (agB rest = false → Bd w') := by
  obtain ⟨a1, a2, fv, a3, a4, a5, a6, a7⟩ := h
  exact ⟨a1, a6, a7⟩

/-- the loop of 'raiseHorizon': what holds ahead of a round -/
structure Rnd (w0 wr : World) (g bd ba r n N : Nat) (h : Int) (T : Nat → List Ver) (B : Nat → Nat) (ag : Nat → Bool) (k : Nat) (left : Nat → Bool) (fi : Nat → Option Value) (Ti : Nat → List Ver) (agi : Nat → Bool) (ni : Nat) : Prop where
  st : St wr g bd ba ni N 1 (-1073741824) h fi Ti B agi
  rn : RangeIs wr ba r n (agF agi) left k
  yes : ∀ c, c < 4 → left c = true → Ti c = T c ∧ agi c = ag c
  no : ∀ c, c < 4 → left c = false → Ti c = rT h T ag c ∧ agi c = rA h T ag c
  fr : Fr (own g bd ba T B) w0 wr
  le : ni + k ≤ n + 4
  nn : n ≤ ni
  rr : w0.heap.size ≤ r

theorem aged_true {ag : Nat → Bool} {c : Nat} {v : Value} (h : agF ag c = some v) : ag c = true ∧ v = .bool true := by
  unfold agF at h
  cases hc : ag c <;> simp [hc] at h
  exact ⟨rfl, h.symm⟩

theorem Rnd.kin {w0 wr w5 : World} {r : Nat} {h : Int} {k k1 : Nat} {left : Nat → Bool} {fi : Nat → Option Value} {Ti : Nat → List Ver} {agi : Nat → Bool} {ni c : Nat} (R : Rnd w0 wr g bd ba r n N h T B ag k left fi Ti agi ni)
    (hc : c < 4) {v : Value} (hfc : agF agi c = some v) (R5 : RangeIs w5 ba r n (agF agi) (upd left c false) k1) (F5 : Fr [r] wr w5) (hn : n + 4 < maxLen) (hN : N ≤ 1000000) (hk1 : k1 < k) :
    ∃ o cap cs, fi c = some (.slice (some ⟨B c, o, none⟩) (Ti c).length cap) ∧ St w5 g bd ba ni N 1 (-1073741824) h fi Ti B agi ∧ 0 < (Ti c).length ∧
      KIn w5 g bd ba c ni (B c) o cap 1 (-1073741824) h fi (Ti c) [ba, r] (fun w => RangeIs w ba r n (agF agi) (upd left c false) k1) (fun w => ∃ k', RangeIs w ba r n (upd (agF agi) c none) (upd left c false) k' ∧ k' ≤ k1) (fun w => RangeIs w ba r n (agF agi) (upd left c false) k1) cs := by
  have hag := (aged_true hfc).1
  have hne : Ti c ≠ [] := R.st.aged c hc hag
  have rno : r ∉ own g bd ba Ti B := by
    intro hm
    rcases mem_own.1 hm with rfl | rfl | rfl | ⟨d, hd, hdn, rfl⟩
    · exact R.rn.ne_cells R.st.rg rfl
    · exact R.rn.ne_map R.st.md rfl
    · exact R.rn.ne_map R.st.ma rfl
    · exact R.rn.ne_cells (R.st.blk hd hdn).choose_spec rfl
  have S5 : St w5 g bd ba ni N 1 (-1073741824) h fi Ti B agi := R.st.keep F5 (fun b hb => by simp at hb; subst hb; exact rno) (fun b hb x e => by simp at hb; subst hb; exact R.rn.ne_cells e rfl)
  obtain ⟨o, cap, cs, e1, e2, e3, e4, e5⟩ := (S5.key c hc).one hne
  have nr : ∀ x, x ∈ own g bd ba Ti B → x ≠ r := fun x hx e => rno (e ▸ hx)
  have mB : B c ∈ own g bd ba Ti B := mem_own.2 (.inr (.inr (.inr ⟨c, hc, hne, rfl⟩)))
  have le := R.le
  refine ⟨o, cap, cs, e1, S5, List.length_pos_iff.2 hne, S5.rg, S5.md, hc, by omega, e4, e2, e3, e5, (S5.key c hc).srt, Nat.le_trans (S5.key c hc).len hN, R5, ?_, ?_, ?_, ?_, ?_, S5.nba, S5.ma.ne_cells S5.rg, S5.ma.ne_cells e4⟩
  · intro S w w' hA F hV
    exact hA.keep F (hV ba (by simp)) (hV r (by simp))
  · intro w hA
    obtain ⟨w', k', h1, h2, h3, h4, -⟩ := hA.drop (T := 26) (E := 4) Yba.underlying26 hc (by rw [upd_same])
    exact ⟨w', h1, ⟨k', h2, h3⟩, h4⟩
  · intro w hA
    have := hA.map.store_same (T := 26) (E := 4) Yba.underlying26 hc hfc
    rw [(aged_true hfc).2] at this
    exact ⟨w, this, hA, Fr.refl _ _⟩
  · simp
    exact ⟨S5.nba.symm, nr bd (mem_own.2 (.inr (.inl rfl)))⟩
  · simp
    exact ⟨(S5.ma.ne_cells e4).symm, nr _ mB⟩

theorem Rnd.next {w0 wr w5 w6 : World} {r : Nat} {h : Int} {k k1 : Nat} {left : Nat → Bool} {fi : Nat → Option Value} {Ti : Nat → List Ver} {agi : Nat → Bool} {ni c : Nat} (R : Rnd w0 wr g bd ba r n N h T B ag k left fi Ti agi ni)
    (hc : c < 4) (hlc : left c = true) {v : Value} (hfc : agF agi c = some v) (F5 : Fr [r] wr w5) (hk1 : k1 < k) (S5 : St w5 g bd ba ni N 1 (-1073741824) h fi Ti B agi)
    (hK : KOut w5 w6 g bd ba c ni (B c) 1 (-1073741824) h fi ((Ti c).drop (kN h (Ti c))) (fun w => ∃ k', RangeIs w ba r n (upd (agF agi) c none) (upd left c false) k' ∧ k' ≤ k1) (fun w => RangeIs w ba r n (agF agi) (upd left c false) k1)) :
    ∃ k' left' f' T' a' n', Rnd w0 w6 g bd ba r n N h T B ag k' left' f' T' a' n' ∧ k' < k := by
  obtain ⟨hag, hv⟩ := aged_true hfc
  subst hv
  have hne : Ti c ≠ [] := R.st.aged c hc hag
  obtain ⟨cs, hb⟩ := S5.blk hc hne
  obtain ⟨FK, hBs, hBd⟩ := hK.ends
  have e0 : upd (agF agi) c (some (.bool true)) = agF agi := by rw [← hfc, upd_self]
  have nn := R.nn
  have le := R.le
  have hle : (Ti c).drop (kN h (Ti c)) = (Ti c).drop (kN h (Ti c)) := rfl
  obtain ⟨f', S6⟩ := S5.kept hc (hK.imp (Bd' := fun w => MapIs w ba (ni + 1) (upd (agF agi) c none)) (Bs' := fun w => MapIs w ba (ni + 1) (upd (agF agi) c (some (.bool true)))) (fun w ⟨_, h1, _⟩ => h1.map.mono (by omega)) (fun w h1 => by rw [e0]; exact h1.map.mono (by omega)))
    hb ((S5.key c hc).srt.drop _) (fun x hx => (S5.key c hc).ok x (List.mem_of_mem_drop hx)) (by rw [List.length_drop]; have := (S5.key c hc).len; omega) (fun d hd hdc hdn => S5.apart d c hd hc hdc hdn hne)
  rw [upd_self] at S6
  obtain ⟨y1, y2⟩ := R.yes c hc hlc
  have hagc : ag c = true := y2 ▸ hag
  have hrest : (Ti c).drop (kN h (Ti c)) = rT h T ag c := by rw [y1]; simp [rT, hagc]
  have hra : agB ((Ti c).drop (kN h (Ti c))) = rA h T ag c := by rw [hrest]; simp [rA, hagc]
  have hyes : ∀ d, d < 4 → upd left c false d = true → upd Ti c ((Ti c).drop (kN h (Ti c))) d = T d ∧ upd agi c (agB ((Ti c).drop (kN h (Ti c)))) d = ag d := by
    intro d hd hl
    by_cases hdc : d = c
    · subst hdc; rw [upd_same] at hl; cases hl
    · rw [upd_other _ hdc] at hl
      rw [upd_other _ hdc, upd_other _ hdc]
      exact R.yes d hd hl
  have hno : ∀ d, d < 4 → upd left c false d = false → upd Ti c ((Ti c).drop (kN h (Ti c))) d = rT h T ag d ∧ upd agi c (agB ((Ti c).drop (kN h (Ti c)))) d = rA h T ag d := by
    intro d hd hl
    by_cases hdc : d = c
    · subst hdc; rw [upd_same, upd_same]; exact ⟨hrest, hra⟩
    · rw [upd_other _ hdc] at hl
      rw [upd_other _ hdc, upd_other _ hdc]
      exact R.no d hd hl
  have hfr : Fr (own g bd ba T B) w0 w6 := by
    refine (R.fr.trans1 F5 (.inr R.rr)).trans FK (fun x hx => .inl ?_)
    simp at hx
    rw [mem_own]
    rcases hx with rfl | rfl | rfl
    · exact .inr (.inl rfl)
    · exact .inr (.inr (.inl rfl))
    · exact .inr (.inr (.inr ⟨c, hc, y1 ▸ hne, rfl⟩))
  cases hB : agB ((Ti c).drop (kN h (Ti c))) with
  | true =>
    have R6 := hBs hB
    refine ⟨k1, upd left c false, f', _, _, ni + 1, ⟨S6, ?_, hyes, hno, hfr, by omega, by omega, R.rr⟩, hk1⟩
    rw [agF_upd, hB]
    simp only [if_true]
    rw [e0]
    exact R6
  | false =>
    obtain ⟨k', R6, hk'⟩ := hBd hB
    refine ⟨k', upd left c false, f', _, _, ni + 1, ⟨S6, ?_, hyes, hno, hfr, by omega, by omega, R.rr⟩, by omega⟩
    rw [agF_upd, hB]
    exact R6
end Go.Proofs.Ybulkdusa
