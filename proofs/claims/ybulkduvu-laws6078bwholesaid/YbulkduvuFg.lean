import Derived.Test.YbulkduvuReal
namespace Go.Proofs.Ybulkduvu
open Go.RowKit Base

theorem o1 {w : World} {ob mp : Nat} (h : w.heap[ob]? = some (.cells (oRow mp) 71)) : w.cell? ⟨ob, 1, none⟩ = some (.map (some mp)) := by rw [cell_of_row w ob 1 _ _ _ h]; rfl
theorem c6 {w : World} {b : Nat} {x : Int} (h : w.heap[b]? = some (.cells (cRow x) 60)) : w.cell? ⟨b, 6, none⟩ = some (.int .i64 x) := by rw [cell_of_row w b 6 _ _ _ h]; rfl
theorem x0 {w : World} {b : Nat} {v : Value} (h : w.heap[b]? = some (.cells #[v] 36)) : w.cell? ⟨b, 0, none⟩ = some v := by rw [cell_of_row w b 0 _ _ _ h]; rfl
theorem zero88 (w : World) : (zeroValue 88).run Yba.prog w = .ok (.slice none 0 0) w := by kernel_rfl
theorem size3 : (Yba.prog.info? 3).map (·.size) = some 1 := by kernel_rfl

/-- what 'forget' reads -/
structure Fg (w : World) (ob mp gc bx n : Nat) (k : Int) (f : Int → Option Value) : Prop where
  ro : w.heap[ob]? = some (.cells (oRow mp) 71)
  rc : w.heap[gc]? = some (.cells (cRow k) 60)
  rx : w.heap[bx]? = some (.cells #[.pointer (some ⟨gc, 0, none⟩)] 36)
  mi : MapI w mp n f
theorem Fg.keep {w w' : World} {ob mp gc bx n : Nat} {k : Int} {f : Int → Option Value} {S : List Nat} (h : Fg w ob mp gc bx n k f) (F : Fr S w w') (h1 : ob ∉ S) (h2 : gc ∉ S) (h3 : bx ∉ S) (h4 : mp ∉ S) : Fg w' ob mp gc bx n k f :=
  ⟨F.get h.ro h1, F.get h.rc h2, F.get h.rx h3, h.mi.keep F h4⟩

/-- the rows that the later statements read -/
structure Fh (w : World) (ob mp gc bx : Nat) (k : Int) : Prop where
  ro : w.heap[ob]? = some (.cells (oRow mp) 71)
  rc : w.heap[gc]? = some (.cells (cRow k) 60)
  rx : w.heap[bx]? = some (.cells #[.pointer (some ⟨gc, 0, none⟩)] 36)
theorem Fh.keep {w w' : World} {ob mp gc bx : Nat} {k : Int} {S : List Nat} (h : Fh w ob mp gc bx k) (F : Fr S w w') (h1 : ob ∉ S) (h2 : gc ∉ S) (h3 : bx ∉ S) : Fh w' ob mp gc bx k :=
  ⟨F.get h.ro h1, F.get h.rc h2, F.get h.rx h3⟩

theorem exec_mkFunc {w : World} {o : Oper} {a : Act} {bx : Nat} (ho : o.op = .makeFunc (.func 18) #[] #[.tmp 3]) (hx : a.eval (.tmp 3) = .pointer (some ⟨bx, 0, none⟩)) : (execOp a.eval o).run Yba.prog w = .ok (.value (.func (.func 18) #[] #[.pointer (some ⟨bx, 0, none⟩)])) w := by
  simp [execOp, ho, hx, Instr.makeFunc]

set_option maxHeartbeats 1000000 in
set_option maxRecDepth 100000 in
theorem forget_neg {w : World} {base ob mp n : Nat} {g : Nat → Nat} {ow : List Nat} {cl : Nat → Int} {L : Int → List Nat} {V : Int → Value} (h : Rl w base ob mp g ow n cl L V) {c : Nat} (hc : c < 5) (hk : cl c < 0) :
    Calls Yba.prog 11 #[.pointer (some ⟨ob, 0, none⟩), .pointer (some ⟨g c, 0, none⟩)] w fun e w' => e = .returned (.tuple #[]) ∧ Fr [] w w' := by
  have hg := h.rg c hc
  clear h
  generalize cl c = k at hk hg
  go_enter Yba.func11, Yba.ntmps11
  go_wp2_with (refine wpList_box rfl 36 _ rfl (some 3) rfl _ _ rfl rfl ?_; intro bx w1 e1 F1 rx z1; have cx := x0 rx; have cc := c6 (F1.get hg (by simp)))
  refine bodyPost_ret (results_none rfl _ _ _) rfl ?_
  exact ⟨rfl, F1⟩

set_option maxHeartbeats 2000000 in
set_option maxRecDepth 100000 in
theorem forget_pos {w : World} {base ob mp n : Nat} {g : Nat → Nat} {ow : List Nat} {cl : Nat → Int} {L : Int → List Nat} {V : Int → Value} (h : Rl w base ob mp g ow n cl L V) (hbase : base ≤ w.heap.size) (hn : n < maxLen) (hn1 : n ≤ 1000000) {c : Nat} (hc : c < 5) {k : Int} (hkc : cl c = k) (hk : 0 ≤ k) :
    Calls Yba.prog 11 #[.pointer (some ⟨ob, 0, none⟩), .pointer (some ⟨g c, 0, none⟩)] w fun e w' => e = .returned (.tuple #[]) ∧ Fr (rs mp g ow) w w' ∧ ∃ V', Rl w' base ob mp g ow (n + 1) (upd cl c (-1)) (upd L k (rem (L k) c)) V' := by
  have hg := h.rg c hc
  have hw := h.cw c hc
  rw [hkc] at hg hw
  obtain ⟨gc, hgc⟩ : ∃ gc, gc = g c := ⟨_, rfl⟩
  rw [← hgc] at hg ⊢
  replace hgc : Hid (gc = g c) := hgc
  replace hkc : Hid (cl c = k) := hkc
  replace hn : Hid (n < maxLen) := hn
  replace hbase : Hid (base ≤ w.heap.size) := hbase
  go_enter Yba.func11, Yba.ntmps11
  go_wp2_with (refine wpList_box rfl 36 _ rfl (some 3) rfl _ _ rfl rfl ?_; intro bx w1 e1 F1 rx z1; have cx := x0 rx; have cc := c6 (F1.get hg (by simp)))
  have h1 := h.keep0 (F1.trans0 (Fr.drew w1))
  have hbx : Hid (w.heap.size ≤ bx) := by show _ ≤ _; rw [e1.out]; exact Nat.le_refl _
  clear cx cc
  -- the slice at hand
  obtain ⟨v, hv⟩ : ∃ v, v = (fV L V k).getD (.slice none 0 0) := ⟨_, rfl⟩
  have hsv : Seg w1.drew v 36 1 (L k).length (cps g (L k)) := by
    rw [hv]; unfold fV
    by_cases e : L k = []
    · rw [if_pos e, e]; exact .inl ⟨rfl, rfl, rfl⟩
    · rw [if_neg e]; exact h1.seg k e
  have hbv : blk v = ok L V k := by
    rw [hv]; unfold fV ok
    by_cases e : L k = []
    · rw [if_pos e, if_pos e]; rfl
    · rw [if_neg e, if_neg e]; rfl
  have hlk := fun (w' : World) (hm : MapI w' mp n (fV L V)) => (hm.look (T := 62) (E := 88) Yba.underlying62 (zero88 w') (zd := _) rfl hw).2
  rw [← hv] at hlk
  replace hlk : Hid (∀ w' : World, MapI w' mp n (fV L V) → (Instr.lookup 62 (.map (some mp)) (.int .i64 k) false).run Yba.prog w' = .ok v w') := hlk
  replace hv : Hid (v = (fV L V k).getD (.slice none 0 0)) := hv
  have hbxk : bx ∉ ok L V k := fun hb => by have h2 := h.ow_lt (h.ows k bx hb); have h3 := hbx.out; omega
  have hgk : gc ∉ ok L V k := by rw [hgc.out]; exact h.ok_g k hc
  have hS : Fg w1.drew ob mp gc bx n k (fV L V) := ⟨h1.ro, by rw [hgc.out, ← hkc.out]; exact h1.rg c hc, rx, h1.mi⟩
  refine any_begin (fun w' => Fg w' ob mp gc bx n k (fV L V)) (by kernel_rfl) hS ?_
  refine any_take 0 rfl (some 10) rfl (by kernel_rfl) (by kernel_rfl) (by kernel_rfl) rfl (.pointer (some ⟨ob, 0, none⟩)) (fun _ _ _ h => h) (fun _ _ => rfl) hS ?_
  simp only [Act.put, List.setIfInBounds_toArray, List.set_cons_zero, List.set_cons_succ]
  refine any_take 1 rfl (some 11) rfl (by kernel_rfl) (by kernel_rfl) (by kernel_rfl) rfl (.pointer (some ⟨ob, 0, none⟩)) (fun _ _ _ h => h) (fun _ _ => by first | rfl | kernel_rfl) hS ?_
  simp only [Act.put, List.setIfInBounds_toArray, List.set_cons_zero, List.set_cons_succ]
  refine any_take 2 rfl (some 12) rfl (by kernel_rfl) (by kernel_rfl) (by kernel_rfl) rfl (.pointer (some ⟨ob, 1, none⟩)) (fun _ _ _ h => h) (fun _ _ => by first | rfl | kernel_rfl) hS ?_
  simp only [Act.put, List.setIfInBounds_toArray, List.set_cons_zero, List.set_cons_succ]
  refine any_load_cell 3 rfl (some 13) rfl (by kernel_rfl) (by kernel_rfl) (by kernel_rfl) rfl (.map (some mp)) (fun _ _ _ h => h) 62 (.tmp 12) rfl ⟨ob, 1, none⟩ rfl (fun w h => o1 h.ro) _ Yba.underlying62 rfl hS ?_
  simp only [Act.put, List.setIfInBounds_toArray, List.set_cons_zero, List.set_cons_succ]
  refine any_load_cell 4 rfl (some 14) rfl (by kernel_rfl) (by kernel_rfl) (by kernel_rfl) rfl (.pointer (some ⟨gc, 0, none⟩)) (fun _ _ _ h => h) 36 (.tmp 3) rfl ⟨bx, 0, none⟩ rfl (fun w h => x0 h.rx) _ Yba.underlying36 rfl hS ?_
  simp only [Act.put, List.setIfInBounds_toArray, List.set_cons_zero, List.set_cons_succ]
  refine any_take 5 rfl (some 15) rfl (by kernel_rfl) (by kernel_rfl) (by kernel_rfl) rfl (.pointer (some ⟨gc, 0, none⟩)) (fun _ _ _ h => h) (fun _ _ => by first | rfl | kernel_rfl) hS ?_
  simp only [Act.put, List.setIfInBounds_toArray, List.set_cons_zero, List.set_cons_succ]
  refine any_take 6 rfl (some 16) rfl (by kernel_rfl) (by kernel_rfl) (by kernel_rfl) rfl (.pointer (some ⟨gc, 6, none⟩)) (fun _ _ _ h => h) (fun _ _ => by first | rfl | kernel_rfl) hS ?_
  simp only [Act.put, List.setIfInBounds_toArray, List.set_cons_zero, List.set_cons_succ]
  refine any_load_cell 7 rfl (some 17) rfl (by kernel_rfl) (by kernel_rfl) (by kernel_rfl) rfl (.int .i64 k) (fun _ _ _ h => h) 3 (.tmp 16) rfl ⟨gc, 6, none⟩ rfl (fun w h => c6 h.rc) _ Yba.underlying3 rfl hS ?_
  simp only [Act.put, List.setIfInBounds_toArray, List.set_cons_zero, List.set_cons_succ]
  refine any_take 8 rfl (some 18) rfl (by kernel_rfl) (by kernel_rfl) (by kernel_rfl) rfl v (fun _ _ _ h => h) (fun w h => exec_lookup rfl rfl rfl (hlk.out w h.mi)) hS ?_
  simp only [Act.put, List.setIfInBounds_toArray, List.set_cons_zero, List.set_cons_succ]
  refine any_take 9 rfl (some 19) rfl (by kernel_rfl) (by kernel_rfl) (by kernel_rfl) rfl (.func (.func 18) #[] #[.pointer (some ⟨bx, 0, none⟩)]) (fun _ _ _ h => h) (fun w _ => exec_mkFunc rfl rfl) hS ?_
  simp only [Act.put, List.setIfInBounds_toArray, List.set_cons_zero, List.set_cons_succ]
  refine any_call 10 rfl (by kernel_rfl) rfl (some 20) rfl 17 _ _ rfl _ Yba.func17 (by kernel_rfl) (by kernel_rfl) [v, .func (.func 18) #[] #[.pointer (some ⟨bx, 0, none⟩)]] rfl ((del_all g c bx (L k) v w1.drew h1.cn hc (h.lt5 k) (Nat.le_trans (h.len k) hn1) (by rw [show cp g c = .pointer (some ⟨gc, 0, none⟩) by rw [hgc.out]; rfl]; exact rx) hsv (by rw [hbv]; exact hbxk) (fun i hi => by rw [hbv]; exact h.ok_g k hi)).mono ?_)
  rintro e w3 ⟨a3, cap3, rfl, F3, seg3, bl3, ty3⟩
  rw [hbv] at F3 bl3 ty3
  have hS3 := hS.keep F3 (h.ok_ob k) hgk hbxk (h.ok_mp k)
  refine ⟨_, rfl, hS3, ?_⟩
  simp only [Act.put, List.setIfInBounds_toArray, List.set_cons_zero, List.set_cons_succ]
  refine any_take 11 rfl (some 4) rfl (by kernel_rfl) (by kernel_rfl) (by kernel_rfl) rfl (.slice a3 (rem (L k) c).length cap3) (fun _ _ _ h => h) (fun _ _ => rfl) hS3 ?_
  simp only [Act.put, List.setIfInBounds_toArray, List.set_cons_zero, List.set_cons_succ]
  refine any_done (by kernel_rfl) ?_
  have h5 : ∀ i ∈ rem (L k) c, i < 5 := fun i hi => h.lt5 k i (rem_mem hi)
  have hl5 : (rem (L k) c).length ≤ n + 1 := by have a1 := rem_len (L k) c; have a2 := h.len k; omega
  have F13 : Fr (rs mp g ow) w w3 := ((F1.trans0 (Fr.drew w1)).mono (T := rs mp g ow) (by simp)).trans F3 (fun b hb => .inl (rs_ow (h.ows k b hb)))
  obtain ⟨m, hm⟩ : ∃ m, (rem (L k) c).length = m := ⟨_, rfl⟩
  rw [hm] at seg3 bl3 hl5 ⊢
  replace h5 : Hid (∀ i ∈ rem (L k) c, i < 5) := h5
  replace h1 : Hid (Rl w1.drew base ob mp g ow n cl L V) := h1
  have hbs : base ≤ w1.drew.heap.size := Nat.le_trans hbase.out (F1.trans0 (Fr.drew w1)).size
  replace hbs : Hid (base ≤ w1.drew.heap.size) := hbs
  clear hlk hsv hS F1 e1 z1 hbase hbv hv
  by_cases hm0 : m = 0
  · subst hm0
    have hr0 : rem (L k) c = [] := List.length_eq_zero_iff.1 hm
    replace hm : Hid ((rem (L k) c).length = 0) := hm
    replace hr0 : Hid (rem (L k) c = []) := hr0
    go_wp2
    have hS4 : Fh w3.drew ob mp gc bx k := ⟨hS3.ro, hS3.rc, hS3.rx⟩
    obtain ⟨w4, hdel, mi4, F4, z4⟩ := (hS3.mi.keep (Fr.drew w3) (by simp)).drop (T := 62) (E := 88) Yba.underlying62 hw
    have hT : Fh w4 ob mp gc bx k := hS4.keep F4 (by simpa using h.mp_ob) (by rw [hgc.out]; simpa using h.mp_g hc) (by simpa using fun e => hS3.mi.ne_cells hS3.rx e.symm)
    refine any_begin (fun w' => Fh w' ob mp gc bx k) (by kernel_rfl) hS4 ?_
    refine any_take 0 rfl (some 24) rfl (by kernel_rfl) (by kernel_rfl) (by kernel_rfl) rfl (.pointer (some ⟨ob, 0, none⟩)) (fun _ _ _ h => h) (fun _ _ => rfl) hS4 ?_
    simp only [Act.put, List.setIfInBounds_toArray, List.set_cons_zero, List.set_cons_succ]
    refine any_take 1 rfl (some 25) rfl (by kernel_rfl) (by kernel_rfl) (by kernel_rfl) rfl (.pointer (some ⟨ob, 0, none⟩)) (fun _ _ _ h => h) (fun _ _ => by first | rfl | kernel_rfl) hS4 ?_
    simp only [Act.put, List.setIfInBounds_toArray, List.set_cons_zero, List.set_cons_succ]
    refine any_take 2 rfl (some 26) rfl (by kernel_rfl) (by kernel_rfl) (by kernel_rfl) rfl (.pointer (some ⟨ob, 1, none⟩)) (fun _ _ _ h => h) (fun _ _ => by first | rfl | kernel_rfl) hS4 ?_
    simp only [Act.put, List.setIfInBounds_toArray, List.set_cons_zero, List.set_cons_succ]
    refine any_load_cell 3 rfl (some 27) rfl (by kernel_rfl) (by kernel_rfl) (by kernel_rfl) rfl (.map (some mp)) (fun _ _ _ h => h) 62 (.tmp 26) rfl ⟨ob, 1, none⟩ rfl (fun w h => o1 h.ro) _ Yba.underlying62 rfl hS4 ?_
    simp only [Act.put, List.setIfInBounds_toArray, List.set_cons_zero, List.set_cons_succ]
    refine any_load_cell 4 rfl (some 28) rfl (by kernel_rfl) (by kernel_rfl) (by kernel_rfl) rfl (.pointer (some ⟨gc, 0, none⟩)) (fun _ _ _ h => h) 36 (.tmp 3) rfl ⟨bx, 0, none⟩ rfl (fun w h => x0 h.rx) _ Yba.underlying36 rfl hS4 ?_
    simp only [Act.put, List.setIfInBounds_toArray, List.set_cons_zero, List.set_cons_succ]
    refine any_take 5 rfl (some 29) rfl (by kernel_rfl) (by kernel_rfl) (by kernel_rfl) rfl (.pointer (some ⟨gc, 0, none⟩)) (fun _ _ _ h => h) (fun _ _ => by first | rfl | kernel_rfl) hS4 ?_
    simp only [Act.put, List.setIfInBounds_toArray, List.set_cons_zero, List.set_cons_succ]
    refine any_take 6 rfl (some 30) rfl (by kernel_rfl) (by kernel_rfl) (by kernel_rfl) rfl (.pointer (some ⟨gc, 6, none⟩)) (fun _ _ _ h => h) (fun _ _ => by first | rfl | kernel_rfl) hS4 ?_
    simp only [Act.put, List.setIfInBounds_toArray, List.set_cons_zero, List.set_cons_succ]
    refine any_load_cell 7 rfl (some 31) rfl (by kernel_rfl) (by kernel_rfl) (by kernel_rfl) rfl (.int .i64 k) (fun _ _ _ h => h) 3 (.tmp 30) rfl ⟨gc, 6, none⟩ rfl (fun w h => c6 h.rc) _ Yba.underlying3 rfl hS4 ?_
    simp only [Act.put, List.setIfInBounds_toArray, List.set_cons_zero, List.set_cons_succ]
    refine any_val 8 rfl (by kernel_rfl) rfl none rfl _ w4 (exec_delete rfl rfl rfl hdel) ?_
    refine ⟨hT, ?_⟩
    simp only [Act.put]
    refine any_done (by kernel_rfl) ?_
    have RX := h1.out.put (L1 := rem (L k) c) (v := .slice a3 0 cap3) (ow1 := []) hbs.out F3 (fun hne => absurd hr0.out hne) (fun hne => absurd hr0.out hne) (by simp) ty3 (((Fr.drew w3).mono (T := [mp]) (by simp)).trans F4 (by simp)) (by rw [if_pos hr0.out]; exact mi4.mono (Nat.le_succ n)) h5.out (by rw [hm.out]; omega)
    rw [List.nil_append] at RX
    have cx := x0 hT.rx
    have cc := hT.rc
    go_wp2_with (refine wpList_store_cell rfl 3 (.tmp 43) (.const (.int .i64 (-1))) rfl gc 6 (.int .i64 (-1)) rfl rfl rfl 60 _ cc (show 6 < 7 by decide) size3 ?_; intro w6 F6 r6' z6; have r6 : w6.heap[gc]? = some (.cells (cRow (-1)) 60) := r6'; clear r6' z6)
    go_end0
    rw [hgc.out] at F6 r6
    have R6 := RX.client hc (show I64 (-1) by unfold I64; decide) F6 r6
    refine ⟨rfl, ?_, _, R6⟩
    exact ((F13.trans0 (Fr.drew w3)).trans F4 (fun x hx => by simp at hx; subst hx; exact .inl rs_mp)).trans F6 (fun x hx => by simp at hx; subst hx; exact .inl (rs_g hc))
  · have hr0 : rem (L k) c ≠ [] := fun e => hm0 (by rw [← hm, e]; rfl)
    have hmi : (m : Int) ≠ 0 := by omega
    have hmb : ((m : Int) == 0) = false := by simpa using hm0
    replace hm : Hid ((rem (L k) c).length = m) := hm
    replace hr0 : Hid (rem (L k) c ≠ []) := hr0
    go_wp2
    have hS4 : Fh w3.drew ob mp gc bx k := ⟨hS3.ro, hS3.rc, hS3.rx⟩
    obtain ⟨d3, hd3⟩ : ∃ d, rawR (.slice a3 m cap3) = some (d, []) := by
        rcases seg3 with ⟨e, _⟩ | ⟨b, o, cap, cs, e, _⟩ <;> rw [e] <;> exact ⟨_, rfl⟩
    obtain ⟨w4, hup, mi4, F4, z4⟩ := (hS3.mi.keep (Fr.drew w3) (by simp)).store (T := 62) (E := 88) Yba.underlying62 hn.out hw hd3
    have hT : Fh w4 ob mp gc bx k := hS4.keep F4 (by simpa using h.mp_ob) (by rw [hgc.out]; simpa using h.mp_g hc) (by simpa using fun e => hS3.mi.ne_cells hS3.rx e.symm)
    refine any_begin (fun w' => Fh w' ob mp gc bx k) (by kernel_rfl) hS4 ?_
    refine any_take 0 rfl (some 32) rfl (by kernel_rfl) (by kernel_rfl) (by kernel_rfl) rfl (.pointer (some ⟨ob, 0, none⟩)) (fun _ _ _ h => h) (fun _ _ => rfl) hS4 ?_
    simp only [Act.put, List.setIfInBounds_toArray, List.set_cons_zero, List.set_cons_succ]
    refine any_take 1 rfl (some 33) rfl (by kernel_rfl) (by kernel_rfl) (by kernel_rfl) rfl (.pointer (some ⟨ob, 0, none⟩)) (fun _ _ _ h => h) (fun _ _ => by first | rfl | kernel_rfl) hS4 ?_
    simp only [Act.put, List.setIfInBounds_toArray, List.set_cons_zero, List.set_cons_succ]
    refine any_take 2 rfl (some 34) rfl (by kernel_rfl) (by kernel_rfl) (by kernel_rfl) rfl (.pointer (some ⟨ob, 1, none⟩)) (fun _ _ _ h => h) (fun _ _ => by first | rfl | kernel_rfl) hS4 ?_
    simp only [Act.put, List.setIfInBounds_toArray, List.set_cons_zero, List.set_cons_succ]
    refine any_load_cell 3 rfl (some 35) rfl (by kernel_rfl) (by kernel_rfl) (by kernel_rfl) rfl (.map (some mp)) (fun _ _ _ h => h) 62 (.tmp 34) rfl ⟨ob, 1, none⟩ rfl (fun w h => o1 h.ro) _ Yba.underlying62 rfl hS4 ?_
    simp only [Act.put, List.setIfInBounds_toArray, List.set_cons_zero, List.set_cons_succ]
    refine any_load_cell 4 rfl (some 36) rfl (by kernel_rfl) (by kernel_rfl) (by kernel_rfl) rfl (.pointer (some ⟨gc, 0, none⟩)) (fun _ _ _ h => h) 36 (.tmp 3) rfl ⟨bx, 0, none⟩ rfl (fun w h => x0 h.rx) _ Yba.underlying36 rfl hS4 ?_
    simp only [Act.put, List.setIfInBounds_toArray, List.set_cons_zero, List.set_cons_succ]
    refine any_take 5 rfl (some 37) rfl (by kernel_rfl) (by kernel_rfl) (by kernel_rfl) rfl (.pointer (some ⟨gc, 0, none⟩)) (fun _ _ _ h => h) (fun _ _ => by first | rfl | kernel_rfl) hS4 ?_
    simp only [Act.put, List.setIfInBounds_toArray, List.set_cons_zero, List.set_cons_succ]
    refine any_take 6 rfl (some 38) rfl (by kernel_rfl) (by kernel_rfl) (by kernel_rfl) rfl (.pointer (some ⟨gc, 6, none⟩)) (fun _ _ _ h => h) (fun _ _ => by first | rfl | kernel_rfl) hS4 ?_
    simp only [Act.put, List.setIfInBounds_toArray, List.set_cons_zero, List.set_cons_succ]
    refine any_load_cell 7 rfl (some 39) rfl (by kernel_rfl) (by kernel_rfl) (by kernel_rfl) rfl (.int .i64 k) (fun _ _ _ h => h) 3 (.tmp 38) rfl ⟨gc, 6, none⟩ rfl (fun w h => c6 h.rc) _ Yba.underlying3 rfl hS4 ?_
    simp only [Act.put, List.setIfInBounds_toArray, List.set_cons_zero, List.set_cons_succ]
    refine any_take 8 rfl (some 40) rfl (by kernel_rfl) (by kernel_rfl) (by kernel_rfl) rfl (.slice a3 m cap3) (fun _ _ _ h => h) (fun _ _ => rfl) hS4 ?_
    simp only [Act.put, List.setIfInBounds_toArray, List.set_cons_zero, List.set_cons_succ]
    refine any_unit 9 rfl (by kernel_rfl) rfl w4 (exec_update rfl rfl rfl rfl hup) ?_
    refine ⟨hT, ?_⟩
    simp only [Act.put]
    refine any_done (by kernel_rfl) ?_
    have RX := h1.out.put (L1 := rem (L k) c) (v := .slice a3 m cap3) (ow1 := []) hbs.out F3 (fun _ => by rw [hm.out]; exact seg3) (fun _ b hb => .inl (bl3 b hb)) (by simp) ty3 (((Fr.drew w3).mono (T := [mp]) (by simp)).trans F4 (by simp)) (by rw [if_neg hr0.out]; exact mi4) h5.out (by rw [hm.out]; exact hl5)
    rw [List.nil_append] at RX
    have cx := x0 hT.rx
    have cc := hT.rc
    go_wp2_with (refine wpList_store_cell rfl 3 (.tmp 43) (.const (.int .i64 (-1))) rfl gc 6 (.int .i64 (-1)) rfl rfl rfl 60 _ cc (show 6 < 7 by decide) size3 ?_; intro w6 F6 r6' z6; have r6 : w6.heap[gc]? = some (.cells (cRow (-1)) 60) := r6'; clear r6' z6)
    go_end0
    rw [hgc.out] at F6 r6
    have R6 := RX.client hc (show I64 (-1) by unfold I64; decide) F6 r6
    refine ⟨rfl, ?_, _, R6⟩
    exact ((F13.trans0 (Fr.drew w3)).trans F4 (fun x hx => by simp at hx; subst hx; exact .inl rs_mp)).trans F6 (fun x hx => by simp at hx; subst hx; exact .inl (rs_g hc))
end Go.Proofs.Ybulkduvu
