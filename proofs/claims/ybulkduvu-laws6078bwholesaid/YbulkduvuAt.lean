import Derived.Test.YbulkduvuFg
namespace Go.Proofs.Ybulkduvu.Base
open Go Go.RowKit
section
variable {P : Program} {ops : Array Oper} {Q : Exit → Act → World → Prop} {md : Region.Mode} {S : World → Prop} {fuel : Nat} {listed : Array Bool} {a : Act} {w : World} {o o' : Oper}
/-- two may come up -/
theorem any_two (i j : Nat) (hi : ops[i]? = some o) (hj : ops[j]? = some o') (hr : Region.ready md ops listed = [i, j]) (hgi : o.guard = none) (hgj : o'.guard = none)
    (h1 : o.wp P a w (fun a' w' => S w' ∧ wpAnyH P md ops Q S fuel (listed.setIfInBounds i true) a' w') Q) (h2 : o'.wp P a w (fun a' w' => S w' ∧ wpAnyH P md ops Q S fuel (listed.setIfInBounds j true) a' w') Q) : wpAnyH P md ops Q S (fuel + 1) listed a w := by
  refine wpAnyH_all hr (by simp) (fun x hx => ?_)
  simp at hx
  rcases hx with rfl | rfl
  · unfold wpOp
    simp only [hi]
    rw [if_pos (by simp [Region.wanted, hgi])]
    exact .inl h1
  · unfold wpOp
    simp only [hj]
    rw [if_pos (by simp [Region.wanted, hgj])]
    exact .inl h2
theorem wp_val {K : Act → World → Prop} (d : Option Tmp) (hd : o.dst = d) (v : Value) (w1 : World) (hrun : (execOp a.eval o).run P w = .ok (.value v) w1) (hK : K (a.put d v) w1) : o.wp P a w K Q := by
  subst hd
  unfold Oper.wp
  rw [hrun]
  exact hK
end
end Go.Proofs.Ybulkduvu.Base

namespace Go.Proofs.Ybulkduvu
open Go.RowKit Base

/-- 'forget', told -/
def fcl (cl : Nat → Int) (c : Nat) : Nat → Int := if cl c < 0 then cl else upd cl c (-1)
def fL (cl : Nat → Int) (L : Int → List Nat) (c : Nat) : Int → List Nat := if cl c < 0 then L else upd L (cl c) (rem (L (cl c)) c)

theorem forget_any {w : World} {base ob mp n : Nat} {g : Nat → Nat} {ow : List Nat} {cl : Nat → Int} {L : Int → List Nat} {V : Int → Value} (h : Rl w base ob mp g ow n cl L V) (hbase : base ≤ w.heap.size) (hn : n < maxLen) (hn1 : n ≤ 1000000) {c : Nat} (hc : c < 5) :
    Calls Yba.prog 11 #[.pointer (some ⟨ob, 0, none⟩), .pointer (some ⟨g c, 0, none⟩)] w fun e w' => e = .returned (.tuple #[]) ∧ Fr (rs mp g ow) w w' ∧ ∃ V', Rl w' base ob mp g ow (n + 1) (fcl cl c) (fL cl L c) V' := by
  by_cases hk : cl c < 0
  · refine (forget_neg h hc hk).mono ?_
    rintro e w' ⟨he, F⟩
    refine ⟨he, F.mono (by simp), V, ?_⟩
    unfold fcl fL
    rw [if_pos hk, if_pos hk]
    exact (h.keep0 F).mono (Nat.le_succ n)
  · refine (forget_pos h hbase hn hn1 hc rfl (by omega)).mono ?_
    rintro e w' ⟨he, F, V', R⟩
    refine ⟨he, F, V', ?_⟩
    unfold fcl fL
    rw [if_neg hk, if_neg hk]
    exact R

theorem bs88 (b : Nat) (w : World) : (Instr.buildSlice 88 1 #[(0, .pointer (some ⟨b, 0, none⟩))]).run Yba.prog w = .ok (.slice (some ⟨w.heap.size, 0, none⟩) 1 1) (w.alloc (.cells #[.pointer (some ⟨b, 0, none⟩)] 36)) := by kernel_rfl
theorem info36' : (Yba.prog.info? 36).map (fun i => (i.zero, i.size, i.bytes)) = some (some (.pointer none), 1, 8) := by kernel_rfl
theorem info36 : ∃ i z, Yba.prog.info? 36 = some i ∧ i.zero = some z ∧ i.size = 1 ∧ i.bytes = 8 ∧ z.cells.size = 1 := by
  have h := info36'
  cases hq : Yba.prog.info? 36 with
  | none => simp [hq] at h
  | some i => simp [hq] at h; exact ⟨i, .pointer none, rfl, h.1, h.2.1, h.2.2, rfl⟩

/-- 'append(s, c)' -/
theorem app36 {w : World} {g : Nat → Nat} {v : Value} {l : List Nat} {c nb : Nat} (hs : Seg w v 36 1 l.length (cps g l)) (hl : l.length ≤ 1000000) (rn : w.heap[nb]? = some (.cells #[.pointer (some ⟨g c, 0, none⟩)] 36)) :
    ∃ a' cap' w', (Builtin.append_ #[88, 88] 0 #[v, .slice (some ⟨nb, 0, none⟩) 1 1]).run Yba.prog w = .ok (.slice a' (l.length + 1) cap') w' ∧ Seg w' (.slice a' (l.length + 1) cap') 36 1 (l ++ [c]).length (cps g (l ++ [c])) ∧
      ((blk (.slice a' (l.length + 1) cap') = blk v ∧ Fr (blk v) w w') ∨ (blk (.slice a' (l.length + 1) cap') = [w.heap.size] ∧ Fr [] w w' ∧ ∃ cs, w'.heap[w.heap.size]? = some (.cells cs 36))) := by
  obtain ⟨i5, z5, hi, hz, hsz, hby, hzs⟩ := info36
  obtain ⟨v', w', hrun, hseg, hfr⟩ := hs.append (P := Yba.prog) 88 0 i5 z5 8 Yba.underlying88 hi hz hsz hby hzs ⟨nb, 0, none⟩ 1 1 [.pointer (some ⟨g c, 0, none⟩)] rfl (fun j u hj => by
    cases j with
    | zero => simp at hj; subst hj; rw [Addr.add_lit, cell_of_row w nb _ _ _ _ rn]; rfl
    | succ j => simp at hj) (by simp [Value.oneCell']) (.inl (by omega)) (by omega) (by omega)
  have hq : cps g l ++ [.pointer (some ⟨g c, 0, none⟩)] = cps g (l ++ [c]) := by simp [cps, cp]
  rw [hq] at hseg
  have hlen : (l ++ [c]).length = l.length + 1 := by simp
  have hform : ∃ a' cap', v' = .slice a' (l.length + 1) cap' := by
    rcases hseg with ⟨rfl, h0, _⟩ | ⟨b, o, cap, cs, rfl, _⟩
    · omega
    · exact ⟨_, _, rfl⟩
  obtain ⟨a', cap', rfl⟩ := hform
  refine ⟨a', cap', w', hrun, by rw [hlen]; exact hseg, ?_⟩
  rcases hfr with ⟨h1, h2, _⟩ | ⟨h1, h2, _⟩
  · exact .inl ⟨h1, h2⟩
  · refine .inr ⟨h1, h2, ?_⟩
    rcases hseg with ⟨e, h0, _⟩ | ⟨b, o, cap, cs, e, hr, _⟩
    · omega
    · rw [e] at h1
      simp [blk] at h1
      subst h1
      exact ⟨cs, hr⟩

/-- behind 'append' and the map's update -/
theorem att_end {w4 w5 w6 : World} {base ob mp n : Nat} {g : Nat → Nat} {ow : List Nat} {cl : Nat → Int} {L : Int → List Nat} {V : Int → Value} {k : Int} {c : Nat} {v v5 : Value} (h : Rl w4 base ob mp g ow n cl L V) (hb : base ≤ w4.heap.size) (hbv : ∀ b ∈ blk v, b ∈ ok L V k)
    (hfr : (blk v5 = blk v ∧ Fr (blk v) w4 w5) ∨ (blk v5 = [w4.heap.size] ∧ Fr [] w4 w5 ∧ ∃ cs, w5.heap[w4.heap.size]? = some (.cells cs 36))) (seg5 : Seg w5 v5 36 1 (L k ++ [c]).length (cps g (L k ++ [c])))
    (F6 : Fr [mp] w5 w6) (mi6 : MapI w6 mp (n + 1) (upd (fV L V) k (some v5))) (hc : c < 5) :
    ∃ ow', Fr (mp :: ok L V k) w4 w6 ∧ Rl w6 base ob mp g ow' (n + 1) cl (upd L k (L k ++ [c])) (upd V k v5) := by
  have hne : L k ++ [c] ≠ [] := by simp
  have h5 : ∀ i ∈ L k ++ [c], i < 5 := fun i hi => by
    rcases List.mem_append.1 hi with h1 | h1
    · exact h.lt5 k i h1
    · simp at h1; omega
  have hl : (L k ++ [c]).length ≤ n + 1 := by have := h.len k; simp; omega
  have F5 : Fr (ok L V k) w4 w5 := by
    rcases hfr with ⟨_, F⟩ | ⟨_, F, _⟩
    · exact F.mono (fun x hx => .inl (hbv x hx))
    · exact F.mono (by simp)
  have tyk : ∀ b ∈ ok L V k, ∃ cs, w5.heap[b]? = some (.cells cs 36) := fun b hb' => by
    obtain ⟨cs, hcs⟩ := h.okt hb'
    rcases hfr with ⟨e, F⟩ | ⟨_, F, _⟩
    · by_cases hm : b ∈ blk v
      · rw [← e] at hm
        rcases seg5 with ⟨e5, h0, _⟩ | ⟨b', o, cap, cs', e5, hr, _⟩
        · simp at h0
        · rw [e5] at hm
          simp [blk] at hm
          subst hm
          exact ⟨cs', hr⟩
      · exact ⟨cs, F.get hcs hm⟩
    · exact ⟨cs, F.get hcs (by simp)⟩
  have FF : Fr (mp :: ok L V k) w4 w6 := (F5.mono (fun x hx => .inl (List.mem_cons_of_mem _ hx))).trans F6 (fun x hx => by simp at hx; subst hx; exact .inl (by simp))
  have mi : MapI w6 mp (n + 1) (upd (fV L V) k (if L k ++ [c] = [] then none else some v5)) := by rw [if_neg hne]; exact mi6
  rcases hfr with ⟨e, F⟩ | ⟨e, F, cs, hcs⟩
  · refine ⟨[] ++ ow, FF, h.put (ow1 := []) hb F5 (fun _ => seg5) (fun _ b hb' => .inl (hbv b (by rw [← e]; exact hb'))) (by simp) tyk F6 mi h5 hl⟩
  · refine ⟨[w4.heap.size] ++ ow, FF, h.put (ow1 := [w4.heap.size]) hb F5 (fun _ => seg5) (fun _ b hb' => .inr (by rw [e] at hb'; simp at hb'; subst hb'; simp)) (fun b hb' => by simp at hb'; subst hb'; exact ⟨Nat.le_refl _, cs, hcs⟩) tyk F6 mi h5 hl⟩

set_option maxHeartbeats 2000000 in
set_option maxRecDepth 100000 in
theorem attach_any {w : World} {base ob mp n : Nat} {g : Nat → Nat} {ow : List Nat} {cl : Nat → Int} {L : Int → List Nat} {V : Int → Value} (h : Rl w base ob mp g ow n cl L V) (hbase : base ≤ w.heap.size) (hn : n + 1 < maxLen) (hn1 : n < 1000000) {c : Nat} (hc : c < 5) {k : Int} (hk : I64 k) :
    Calls Yba.prog 9 #[.pointer (some ⟨ob, 0, none⟩), .pointer (some ⟨g c, 0, none⟩), .int .i64 k] w fun e w' => e = .returned (.tuple #[]) ∧ Fr (rs mp g ow) w w' ∧ ∃ ow' V', Rl w' base ob mp g ow' (n + 2) (upd (fcl cl c) c k) (upd (fL cl L c) k (fL cl L c k ++ [c])) V' := by
  obtain ⟨gc, hgc⟩ : ∃ gc, gc = g c := ⟨_, rfl⟩
  rw [← hgc]
  replace hgc : Hid (gc = g c) := hgc
  replace hn : Hid (n + 1 < maxLen) := hn
  replace hbase : Hid (base ≤ w.heap.size) := hbase
  obtain ⟨L1, hL1⟩ : ∃ L1, L1 = fL cl L c := ⟨_, rfl⟩
  obtain ⟨cl1, hcl1⟩ : ∃ cl1, cl1 = fcl cl c := ⟨_, rfl⟩
  rw [← hL1, ← hcl1]
  replace hL1 : Hid (L1 = fL cl L c) := hL1
  replace hcl1 : Hid (cl1 = fcl cl c) := hcl1
  go_enter Yba.func9, Yba.ntmps9
  go_wp2_with (first
    | (go_at_call 11; have hf := forget_any h hbase.out (by have := hn.out; omega) (by omega) hc; rw [← hgc.out, ← hL1.out, ← hcl1.out] at hf; refine hf.mono ?_; clear hf; rintro e w1 ⟨rfl, F1, V1, R1⟩; have rc1 := R1.rg c hc; rw [← hgc.out] at rc1)
    | (refine wpList_store_cell rfl 3 (.tmp 12) (.tmp 10) rfl gc 6 (.int .i64 k) rfl rfl rfl 60 _ rc1 (show 6 < 7 by decide) size3 ?_; intro w2 F2 r2' z2; have r2 : w2.heap[gc]? = some (.cells (cRow k) 60) := r2'; clear r2' z2))
  have F2' := F2
  rw [hgc.out] at F2' r2
  have R2 := R1.client hc hk F2' r2
  have F12 : Fr (rs mp g ow) w w2 := F1.trans F2' (fun x hx => by simp at hx; subst hx; exact .inl (rs_g hc))
  clear F2 F2' r2 rc1 R1 F1
  have R3 := R2.keep0 (Fr.drew w2)
  obtain ⟨v, hv⟩ : ∃ v, v = (fV L1 V1 k).getD (.slice none 0 0) := ⟨_, rfl⟩
  have hsv : Seg w2.drew v 36 1 (L1 k).length (cps g (L1 k)) := by
    rw [hv]; unfold fV
    by_cases e : L1 k = []
    · rw [if_pos e, e]; exact .inl ⟨rfl, rfl, rfl⟩
    · rw [if_neg e]; exact R3.seg k e
  have hbv : blk v = ok L1 V1 k := by
    rw [hv]; unfold fV ok
    by_cases e : L1 k = []
    · rw [if_pos e, if_pos e]; rfl
    · rw [if_neg e, if_neg e]; rfl
  have hlk := fun (w' : World) (hm : MapI w' mp (n + 1) (fV L1 V1)) => (hm.look (T := 62) (E := 88) Yba.underlying62 (zero88 w') (zd := _) rfl hk).2
  rw [← hv] at hlk
  replace hlk : Hid (∀ w' : World, MapI w' mp (n + 1) (fV L1 V1) → (Instr.lookup 62 (.map (some mp)) (.int .i64 k) false).run Yba.prog w' = .ok v w') := hlk
  have hs2 : base ≤ w2.drew.heap.size := Nat.le_trans hbase.out (Nat.le_trans F12.size (Nat.le_refl _))
  replace hs2 : Hid (base ≤ w2.drew.heap.size) := hs2
  have hll : (L1 k).length ≤ 1000000 := Nat.le_trans (R2.len k) (by omega)
  have hS := R3.ro
  clear hv
  refine any_begin (fun w' => w'.heap[ob]? = some (.cells (oRow mp) 71)) (by kernel_rfl) hS ?_
  refine any_take 0 rfl (some 13) rfl (by kernel_rfl) (by kernel_rfl) (by kernel_rfl) rfl (.pointer (some ⟨ob, 0, none⟩)) (fun _ _ _ h => h) (fun _ _ => rfl) hS ?_
  simp only [Act.put, List.setIfInBounds_toArray, List.set_cons_zero, List.set_cons_succ]
  refine any_take 1 rfl (some 14) rfl (by kernel_rfl) (by kernel_rfl) (by kernel_rfl) rfl (.pointer (some ⟨ob, 0, none⟩)) (fun _ _ _ h => h) (fun _ _ => by first | rfl | kernel_rfl) hS ?_
  simp only [Act.put, List.setIfInBounds_toArray, List.set_cons_zero, List.set_cons_succ]
  refine any_take 2 rfl (some 15) rfl (by kernel_rfl) (by kernel_rfl) (by kernel_rfl) rfl (.pointer (some ⟨ob, 1, none⟩)) (fun _ _ _ h => h) (fun _ _ => by first | rfl | kernel_rfl) hS ?_
  simp only [Act.put, List.setIfInBounds_toArray, List.set_cons_zero, List.set_cons_succ]
  refine any_load_cell 3 rfl (some 16) rfl (by kernel_rfl) (by kernel_rfl) (by kernel_rfl) rfl (.map (some mp)) (fun _ _ _ h => h) 62 (.tmp 15) rfl ⟨ob, 1, none⟩ rfl (fun w h => o1 h) _ Yba.underlying62 rfl hS ?_
  simp only [Act.put, List.setIfInBounds_toArray, List.set_cons_zero, List.set_cons_succ]
  refine any_take 4 rfl (some 17) rfl (by kernel_rfl) (by kernel_rfl) (by kernel_rfl) rfl (.int .i64 k) (fun _ _ _ h => h) (fun _ _ => rfl) hS ?_
  simp only [Act.put, List.setIfInBounds_toArray, List.set_cons_zero, List.set_cons_succ]
  refine any_take 5 rfl (some 18) rfl (by kernel_rfl) (by kernel_rfl) (by kernel_rfl) rfl (.pointer (some ⟨ob, 0, none⟩)) (fun _ _ _ h => h) (fun _ _ => rfl) hS ?_
  simp only [Act.put, List.setIfInBounds_toArray, List.set_cons_zero, List.set_cons_succ]
  refine any_take 6 rfl (some 19) rfl (by kernel_rfl) (by kernel_rfl) (by kernel_rfl) rfl (.pointer (some ⟨ob, 0, none⟩)) (fun _ _ _ h => h) (fun _ _ => by first | rfl | kernel_rfl) hS ?_
  simp only [Act.put, List.setIfInBounds_toArray, List.set_cons_zero, List.set_cons_succ]
  refine any_take 7 rfl (some 20) rfl (by kernel_rfl) (by kernel_rfl) (by kernel_rfl) rfl (.pointer (some ⟨ob, 1, none⟩)) (fun _ _ _ h => h) (fun _ _ => by first | rfl | kernel_rfl) hS ?_
  simp only [Act.put, List.setIfInBounds_toArray, List.set_cons_zero, List.set_cons_succ]
  refine any_load_cell 8 rfl (some 21) rfl (by kernel_rfl) (by kernel_rfl) (by kernel_rfl) rfl (.map (some mp)) (fun _ _ _ h => h) 62 (.tmp 20) rfl ⟨ob, 1, none⟩ rfl (fun w h => o1 h) _ Yba.underlying62 rfl hS ?_
  simp only [Act.put, List.setIfInBounds_toArray, List.set_cons_zero, List.set_cons_succ]
  refine any_take 9 rfl (some 22) rfl (by kernel_rfl) (by kernel_rfl) (by kernel_rfl) rfl (.int .i64 k) (fun _ _ _ h => h) (fun _ _ => rfl) hS ?_
  simp only [Act.put, List.setIfInBounds_toArray, List.set_cons_zero, List.set_cons_succ]
  refine any_take 11 rfl (some 24) rfl (by kernel_rfl) (by kernel_rfl) (by kernel_rfl) rfl (.pointer (some ⟨gc, 0, none⟩)) (fun _ _ _ h => h) (fun _ _ => rfl) hS ?_
  simp only [Act.put, List.setIfInBounds_toArray, List.set_cons_zero, List.set_cons_succ]
  refine any_two 10 12 rfl rfl (by kernel_rfl) rfl rfl ?_ ?_
  · refine wp_val (some 23) rfl v w2.drew (exec_lookup rfl rfl rfl (hlk.out _ R3.mi)) ⟨hS, ?_⟩
    simp only [Act.put, List.setIfInBounds_toArray, List.set_cons_zero, List.set_cons_succ]
    refine any_buildSlice 12 rfl (by kernel_rfl) rfl (some 25) rfl 88 1 [(0, .tmp 24)] rfl [(0, .pointer (some ⟨gc, 0, none⟩))] rfl _ 36 (bs88 gc) ?_
    intro nb w4 e4 F4 rn4 z4
    have R4 := R3.keep0 F4
    refine ⟨R4.ro, ?_⟩
    simp only [Act.put, List.setIfInBounds_toArray, List.set_cons_zero, List.set_cons_succ]
    obtain ⟨a5, cap5, w5, hap, seg5, hfr5⟩ := app36 (c := c) (nb := nb) (hsv.keep F4 (by simp)) hll (by rw [← hgc.out]; exact rn4)
    have hS5 : w5.heap[ob]? = some (.cells (oRow mp) 71) := by
          rcases hfr5 with ⟨_, F5⟩ | ⟨_, F5, _⟩
          · exact F5.get R4.ro (by rw [hbv]; exact R3.ok_ob k)
          · exact F5.get R4.ro (by simp)
    refine any_val 13 rfl (by kernel_rfl) rfl (some 26) rfl _ w5 (exec_append rfl rfl rfl hap) ⟨hS5, ?_⟩
    simp only [Act.put, List.setIfInBounds_toArray, List.set_cons_zero, List.set_cons_succ]
    have mi5 : MapI w5 mp (n + 1) (fV L1 V1) := by
          rcases hfr5 with ⟨_, F5⟩ | ⟨_, F5, _⟩
          · exact R4.mi.keep F5 (by rw [hbv]; exact R3.ok_mp k)
          · exact R4.mi.keep F5 (by simp)
    obtain ⟨d5, hd5⟩ : ∃ d, rawR (.slice a5 ((L1 k).length + 1) cap5) = some (d, []) := by
          rcases seg5 with ⟨e, _⟩ | ⟨b, o, cap, cs, e, _⟩ <;> rw [e] <;> exact ⟨_, rfl⟩
    obtain ⟨w6, hup, mi6, F6, z6⟩ := mi5.store (T := 62) (E := 88) Yba.underlying62 hn.out hk hd5
    have hS6 : w6.heap[ob]? = some (.cells (oRow mp) 71) := F6.get hS5 (by simpa using R3.mp_ob)
    refine any_unit 14 rfl (by kernel_rfl) rfl w6 (exec_update rfl rfl rfl rfl hup) ⟨hS6, ?_⟩
    simp only [Act.put]
    refine any_done (by kernel_rfl) ?_
    go_wp2
    go_end0
    obtain ⟨ow', FF, RR⟩ := att_end R4 (Nat.le_trans hs2.out (Fr.size F4)) (by rw [← hbv]; exact fun b hb => hb) hfr5 seg5 F6 mi6 hc
    exact ⟨rfl, (F12.trans0 ((Fr.drew w2).trans0 F4)).trans FF (fun x hx => (by rcases List.mem_cons.1 hx with rfl | hx; exact .inl rs_mp; exact (.inl (rs_ow (R2.ows k x hx))))), ow', _, RR⟩
  · refine wp_val (some 25) rfl _ _ (exec_buildSlice (parts := [(0, .tmp 24)]) (vs := [(0, .pointer (some ⟨gc, 0, none⟩))]) rfl rfl (bs88 gc w2.drew)) ?_
    obtain ⟨w4, hw4⟩ : ∃ w4, w4 = w2.drew.alloc (.cells #[.pointer (some ⟨gc, 0, none⟩)] 36) := ⟨_, rfl⟩
    obtain ⟨nb, hnb⟩ : ∃ nb, nb = w2.drew.heap.size := ⟨_, rfl⟩
    have F4 : Fr [] w2.drew w4 := by rw [hw4]; exact Fr.alloc _ _
    have rn4 : w4.heap[nb]? = some (.cells #[.pointer (some ⟨gc, 0, none⟩)] 36) := by rw [hw4, hnb]; exact heap_alloc_new _ _
    rw [← hw4, ← hnb]
    clear hw4 hnb
    have R4 := R3.keep0 F4
    refine ⟨R4.ro, ?_⟩
    simp only [Act.put, List.setIfInBounds_toArray, List.set_cons_zero, List.set_cons_succ]
    refine any_val 10 rfl (by kernel_rfl) rfl (some 23) rfl v w4 (exec_lookup rfl rfl rfl (hlk.out _ R4.mi)) ⟨R4.ro, ?_⟩
    simp only [Act.put, List.setIfInBounds_toArray, List.set_cons_zero, List.set_cons_succ]
    obtain ⟨a5, cap5, w5, hap, seg5, hfr5⟩ := app36 (c := c) (nb := nb) (hsv.keep F4 (by simp)) hll (by rw [← hgc.out]; exact rn4)
    have hS5 : w5.heap[ob]? = some (.cells (oRow mp) 71) := by
          rcases hfr5 with ⟨_, F5⟩ | ⟨_, F5, _⟩
          · exact F5.get R4.ro (by rw [hbv]; exact R3.ok_ob k)
          · exact F5.get R4.ro (by simp)
    refine any_val 13 rfl (by kernel_rfl) rfl (some 26) rfl _ w5 (exec_append rfl rfl rfl hap) ⟨hS5, ?_⟩
    simp only [Act.put, List.setIfInBounds_toArray, List.set_cons_zero, List.set_cons_succ]
    have mi5 : MapI w5 mp (n + 1) (fV L1 V1) := by
          rcases hfr5 with ⟨_, F5⟩ | ⟨_, F5, _⟩
          · exact R4.mi.keep F5 (by rw [hbv]; exact R3.ok_mp k)
          · exact R4.mi.keep F5 (by simp)
    obtain ⟨d5, hd5⟩ : ∃ d, rawR (.slice a5 ((L1 k).length + 1) cap5) = some (d, []) := by
          rcases seg5 with ⟨e, _⟩ | ⟨b, o, cap, cs, e, _⟩ <;> rw [e] <;> exact ⟨_, rfl⟩
    obtain ⟨w6, hup, mi6, F6, z6⟩ := mi5.store (T := 62) (E := 88) Yba.underlying62 hn.out hk hd5
    have hS6 : w6.heap[ob]? = some (.cells (oRow mp) 71) := F6.get hS5 (by simpa using R3.mp_ob)
    refine any_unit 14 rfl (by kernel_rfl) rfl w6 (exec_update rfl rfl rfl rfl hup) ⟨hS6, ?_⟩
    simp only [Act.put]
    refine any_done (by kernel_rfl) ?_
    go_wp2
    go_end0
    obtain ⟨ow', FF, RR⟩ := att_end R4 (Nat.le_trans hs2.out (Fr.size F4)) (by rw [← hbv]; exact fun b hb => hb) hfr5 seg5 F6 mi6 hc
    exact ⟨rfl, (F12.trans0 ((Fr.drew w2).trans0 F4)).trans FF (fun x hx => (by rcases List.mem_cons.1 hx with rfl | hx; exact .inl rs_mp; exact (.inl (rs_ow (R2.ows k x hx))))), ow', _, RR⟩
end Go.Proofs.Ybulkduvu
