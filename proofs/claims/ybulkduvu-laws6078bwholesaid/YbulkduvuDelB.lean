import Derived.Test.YbulkduvuDel
namespace Go.Proofs.Ybulkduvu
open Go.RowKit Base

/-- the list without c -/
def rem (L : List Nat) (c : Nat) : List Nat := L.filter (fun x => !(x == c))

theorem rem_nil (c : Nat) : rem [] c = [] := rfl
theorem rem_append (A B : List Nat) (c : Nat) : rem (A ++ B) c = rem A c ++ rem B c := by simp [rem]
theorem rem_self {L : List Nat} {c : Nat} (h : c ∉ L) : rem L c = L := by
  unfold rem
  rw [List.filter_eq_self]
  intro x hx
  simp
  intro e
  exact h (e ▸ hx)
theorem rem_mem {L : List Nat} {c x : Nat} (h : x ∈ rem L c) : x ∈ L := (List.mem_filter.1 h).1
theorem rem_len (L : List Nat) (c : Nat) : (rem L c).length ≤ L.length := List.length_filter_le _ _
theorem rem_lt {L : List Nat} {c : Nat} (h : c ∈ L) : (rem L c).length < L.length := by
  unfold rem
  rw [List.length_filter_lt_length_iff_exists]
  exact ⟨c, h, by simp⟩
theorem take_succ {L : List Nat} {j x : Nat} (h : L[j]? = some x) : L.take (j + 1) = L.take j ++ [x] := by
  rw [List.take_add_one, h]; rfl
theorem rem_take_skip {L : List Nat} {c j : Nat} (h : L[j]? = some c) : rem (L.take (j + 1)) c = rem (L.take j) c := by
  rw [take_succ h, rem_append]; simp [rem]
theorem rem_take_keep {L : List Nat} {c j x : Nat} (h : L[j]? = some x) (hx : x ≠ c) : rem (L.take (j + 1)) c = rem (L.take j) c ++ [x] := by
  rw [take_succ h, rem_append]; simp [rem, hx]

theorem At.set {cs : Array Value} {o i : Nat} {xs : List Value} (v : Value) (h : At cs o xs) (hi : i < xs.length) (hs : o + i < cs.size) : At (cs.setIfInBounds (o + i) v) o (xs.set i v) := fun j hj => by
  rw [List.length_set] at hj
  rw [Array.getElem?_setIfInBounds, List.getElem?_set]
  by_cases e : i = j
  · subst e; simp [hi, hs]
  · have : ¬ o + i = o + j := by omega
    simp [e, h j hj]

theorem slice88_to {b o n cap i : Nat} (h : i ≤ cap) (w : World) : (Instr.sliceAt 88 (.slice (some ⟨b, o, none⟩) n cap) none (some (.int .i64 i)) none).run Yba.prog w = .ok (.slice (some ⟨b, o, none⟩) i cap) w := by
  have e : Yba.prog.elem 88 = 36 := by kernel_rfl
  have hu : Yba.prog.underlying 88 = some (.slice (Yba.prog.elem 88)) := by rw [e]; exact Yba.underlying88
  rw [run_sliceAt_slice w 88 _ _ _ _ hu]
  simp [Instr.slice, run_underlying Yba.underlying88, Instr.sliceBounds, Instr.sliceBound, asIntOf, Yba.sizeOf36]
  rw [if_pos h]
  split <;> simp [Addr.add]

theorem slice88_from {b o n cap i : Nat} (h : i < n) (hn : n ≤ cap) (w : World) : (Instr.sliceAt 88 (.slice (some ⟨b, o, none⟩) n cap) (some (.int .i64 i)) none none).run Yba.prog w = .ok (.slice (some ⟨b, o + i, none⟩) (n - i) (cap - i)) w := by
  have e : Yba.prog.elem 88 = 36 := by kernel_rfl
  have hu : Yba.prog.underlying 88 = some (.slice (Yba.prog.elem 88)) := by rw [e]; exact Yba.underlying88
  rw [run_sliceAt_slice w 88 _ _ _ _ hu]
  have hne : ¬ cap = i := by omega
  simp [Instr.slice, run_underlying Yba.underlying88, Instr.sliceBounds, Instr.sliceBound, asIntOf, Yba.sizeOf36, hne, Addr.add_lit]
  omega

theorem exec_slice {w : World} {o : Oper} {a : Act} {T : TypeId} {x : Operand} {lo hi : Option Operand} (ho : o.op = .slice T x lo hi none) {xv v : Value} {lv hv : Option Value} {w1 : World} (hx : a.eval x = xv) (hl : lo.map a.eval = lv) (hh : hi.map a.eval = hv)
    (hrun : (Instr.sliceAt T xv lv hv none).run Yba.prog w = .ok v w1) : (execOp a.eval o).run Yba.prog w = .ok (.value v) w1 := by
  simp [execOp, ho, hx, hl, hh, hrun]

/-- 'clear(s[i:])' -/
theorem clear88 {b o i cap : Nat} {cs : Array Value} {w : World} (hi : 0 < i) (hb : w.heap[b]? = some (.cells cs 36)) (hf : o + i ≤ cs.size) :
    ∃ zs : List Value, zs.length = i ∧ (Builtin.clear_ #[88] 0 #[.slice (some ⟨b, o, none⟩) i cap]).run Yba.prog w = .ok (.tuple #[]) (w.setCells b o zs) := by
  have hlen : (Builtin.zeroCells #[.pointer none] i).toList.length = i := by rw [Array.length_toList, size_zeroCells]; simp
  refine ⟨(Builtin.zeroCells #[.pointer none] i).toList, hlen, ?_⟩
  have h1 : ∀ v ∈ (Builtin.zeroCells #[.pointer none] i).toList, v.oneCell' = true := by
    intro v hv
    simp only [Builtin.zeroCells, Array.toList_map, List.mem_map] at hv
    obtain ⟨k, _, rfl⟩ := hv
    have h3 : k % 1 = 0 := by omega
    simp only [List.size_toArray, List.length_cons, List.length_nil, Nat.zero_add]
    rw [h3]; rfl
  have hth := there_row (n := i) hb hf
  have hst := run_storeCells_cells (P := Yba.prog) b o (Builtin.zeroCells #[.pointer none] i).toList 0 w (fun j hj => by rw [hlen] at hj; simpa using (hth j hj).1) (fun j hj => by rw [hlen] at hj; simpa using (hth j hj).2) h1
  simp only [Nat.add_zero] at hst
  obtain ⟨i, rfl⟩ : ∃ k, i = k + 1 := ⟨i - 1, by omega⟩
  simp [Builtin.clear_, run_underlying Yba.underlying88, Value.cells, hst]

theorem size36 : (Yba.prog.info? 36).map (·.size) = some 1 := by kernel_rfl

theorem wpList_gone {P : Program} {ops : Array Oper} {Q : Exit → Act → World → Prop} {a : Act} {w : World} {rest : List Oper} {o : Oper} (hg : o.guard = none) (hd : o.dst = none) (v : Value) (w1 : World) (h : (execOp a.eval o).run P w = .ok (.value v) w1) (hK : wpList P ops Q rest (a.put none v) w1) : wpList P ops Q (o :: rest) a w :=
  wpList_do hg none hd v w1 h hK

set_option maxHeartbeats 400000 in
theorem del_nil (f : Value) (w : World) : Calls Yba.prog 17 #[.slice none 0 0, f] w fun e w' => e = .returned (.slice none 0 0) ∧ w' = w := by
  go_enter Yba.func17, Yba.ntmps17
  go_wp2_with (go_at_call 21; refine (idx_nil f _).mono ?_; rintro e w1 ⟨rfl, hw1⟩; have hw2 := hw1.symm; subst hw2)
  go_ret
  exact ⟨rfl, rfl⟩

section
variable (g : Nat → Nat) (c bx b o n cap : Nat) (L : List Nat) (cs : Array Value) (w : World) (h : Cn w g) (hc : c < 5) (hL : ∀ i ∈ L, i < 5) (rx : w.heap[bx]? = some (.cells #[cp g c] 36))
  (rb : w.heap[b]? = some (.cells cs 36)) (hat : At cs o (cps g L)) (hn : Hid (L.length = n)) (hn1 : n ≤ 1000000)
include h hc hL rx rb hat hn hn1
set_option maxHeartbeats 400000 in
theorem del_out (hbe : Hid (c ∉ L)) :
    Calls Yba.prog 17 #[.slice (some ⟨b, o, none⟩) n cap, .func (.func 18) #[] #[.pointer (some ⟨bx, 0, none⟩)]] w fun e w' => e = .returned (.slice (some ⟨b, o, none⟩) n cap) ∧ w' = w := by
  replace hL : Hid (∀ i ∈ L, i < 5) := hL
  go_enter Yba.func17, Yba.ntmps17
  go_wp2_with (go_at_call 21; refine (idx_none g c bx b o n cap L cs _ h hc hL.out rx rb hat hn hn1 hbe).mono ?_; rintro e w1 ⟨rfl, hw1⟩; have hw2 := hw1.symm; subst hw2)
  go_ret
  exact ⟨rfl, rfl⟩

set_option maxHeartbeats 2000000 in
set_option maxRecDepth 100000 in
theorem del_in (k : Nat) (hcap : n ≤ cap) (hfit : o + cap ≤ cs.size) (hxb : bx ≠ b) (hgb : ∀ i, i < 5 → g i ≠ b) (hk : k < n) (hkc : Hid (L[k]? = some c)) (hbe : Hid (∀ j, j < k → L[j]? ≠ some c)) :
    Calls Yba.prog 17 #[.slice (some ⟨b, o, none⟩) n cap, .func (.func 18) #[] #[.pointer (some ⟨bx, 0, none⟩)]] w fun e w' => e = .returned (.slice (some ⟨b, o, none⟩) (rem L c).length cap) ∧ Fr [b] w w' ∧ ∃ cs', w'.heap[b]? = some (.cells cs' 36) ∧ cs'.size = cs.size ∧ At cs' o (cps g (rem L c)) := by
  replace hL : Hid (∀ i ∈ L, i < 5) := hL
  replace hgb : Hid (∀ i, i < 5 → g i ≠ b) := hgb
  have hrt : rem (L.take (k + 1)) c = L.take k := by
    rw [rem_take_skip hkc.out, rem_self]
    intro hm
    obtain ⟨j, hj, he⟩ := List.getElem_of_mem hm
    have hj' : j < k := by simp at hj; omega
    exact hbe.out j hj' (by rw [List.getElem?_eq_getElem (by have := hn.out; omega)]; simp at he; rw [he])
  replace hrt : Hid (rem (L.take (k + 1)) c = L.take k) := hrt
  go_enter Yba.func17, Yba.ntmps17
  go_wp2_with (go_at_call 21; refine (idx_some g c bx b o n cap k L cs _ h hc hL.out rx rb hat hn hn1 hk hkc hbe).mono ?_; rintro e w1 ⟨rfl, hw1⟩; have hw2 := hw1.symm; subst hw2)
  go_loopw [5, 6] (fun s5 s6 wr => ∃ (i j : Nat) (cs' : Array Value) (xs : List Value), k < j ∧ j ≤ n ∧ i < j ∧ s5 = .int .i64 i ∧ s6 = .int .i64 j ∧ Hid ((rem (L.take j) c).length = i) ∧ wr.heap[b]? = some (.cells cs' 36) ∧ Hid (cs'.size = cs.size) ∧ At cs' o xs ∧ Hid (xs.length = n) ∧ Hid (xs.take i = cps g (rem (L.take j) c)) ∧ Hid (xs.drop j = (cps g L).drop j) ∧ Fr [b] w wr) (fun _ s6 _ => n - (intOf s6).toNat)
  case atStart =>
    refine ⟨k, k + 1, cs, cps g L, by omega, by omega, by omega, rfl, by go_num, ?_, rb, rfl, hat, by simp [Hid, cps, hn.out], ?_, rfl, Fr.refl _ _⟩
    · show _ = _; rw [hrt.out]; have := hn.out; simp; omega
    · show _ = _; rw [hrt.out]; simp [cps, List.map_take]
  case round =>
    obtain ⟨i, j, cs', xs, hkj, hjn, hij, rfl, rfl, hi, rb', hsz, hat', hxl, hx1, hx2, F⟩ := hrel
    by_cases hlt : j < n
    · obtain ⟨x, hx⟩ : ∃ x, L[j]? = some x := ⟨L[j]'(by have := hn.out; omega), by rw [List.getElem?_eq_getElem]⟩
      have hx5 : x < 5 := hL.out x (List.mem_of_getElem? hx)
      have hxj : xs[j]? = some (cp g x) := by
        have h1 := congrArg (fun l : List Value => l[0]?) hx2.out
        simp only [List.getElem?_drop, Nat.add_zero] at h1
        rw [h1]; simp [cps, hx]
      have cj : wr.cell? ⟨b, o + j, none⟩ = some (cp g x) := by
        rw [cell_of_row wr b _ cs' 36 _ rb', hat' j (by rw [hxl.out]; exact hlt), hxj]
      have rx' := F.get rx (by simpa using hxb)
      have h' : Cn wr g := ⟨fun i hi => by obtain ⟨d, hd⟩ := h.row i hi; exact ⟨d, F.get hd (by simpa using hgb.out i hi)⟩, h.inj⟩
      have hx2' : xs.drop (j + 1) = (cps g L).drop (j + 1) := by
        have := congrArg (List.drop 1) hx2.out
        simpa [List.drop_drop] using this
      clear hxj
      by_cases hxc : x = c
      · subst hxc
        have e1 := rem_take_skip hx
        have hd : decide (x = x) = true := by simp
        generalize hv : cp g x = vx at cj
        replace hv : Hid (cp g x = vx) := hv
        clear hx
        go_wp2_with (go_at_call 18; rw [← hv.out]; refine (clos_any g x x bx _ h' hx5 hc rx').mono ?_; rintro e w1 ⟨rfl, hw1⟩; have hw2 := hw1.symm; subst hw2; rw [hd])
        go_roundw
        case rel =>
          have hI : ∃ (i' j' : Nat) (cs'' : Array Value) (ys : List Value), k < j' ∧ j' ≤ n ∧ i' < j' ∧ Value.int .i64 (i : Int) = .int .i64 i' ∧ Value.int .i64 ((j : Int) + 1) = .int .i64 j' ∧ Hid ((rem (L.take j') x).length = i') ∧ wr.heap[b]? = some (.cells cs'' 36) ∧ Hid (cs''.size = cs.size) ∧ At cs'' o ys ∧ Hid (ys.length = n) ∧ Hid (ys.take i' = cps g (rem (L.take j') x)) ∧ Hid (ys.drop j' = (cps g L).drop j') ∧ Fr [b] w wr := ⟨i, j + 1, cs', xs, by omega, by omega, by omega, rfl, by go_num, by show _ = _; rw [e1]; exact hi, rb', hsz, hat', hxl, by show _ = _; rw [e1]; exact hx1, hx2', F⟩
          first | exact hI | ((repeat apply Exists.intro); exact ⟨hI, rfl⟩)
        case measure => simp [intOf]; omega
      · have e1 := rem_take_keep hx hxc
        have hd : decide (x = c) = false := by simpa using hxc
        have hin : i < n := by omega
        generalize hv : cp g x = vx at cj
        have h1 : vx.oneCell' = true := by rw [← hv]; rfl
        replace hv : Hid (cp g x = vx) := hv
        clear hx
        go_wp2_with (first
          | (go_at_call 18; have hcl := clos_any g x c bx wr h' hx5 hc rx'; rw [hv.out] at hcl; refine hcl.mono ?_; clear hcl; rintro e w1 ⟨rfl, hw1⟩; have hw2 := hw1.symm; subst hw2; rw [hd])
          | (refine wpList_store_cell rfl 36 (.tmp 33) (.tmp 32) rfl b (o + i) vx rfl rfl h1 36 _ rb' (by have := hsz.out; omega) size36 ?_; intro w2 F2 rb2 z2))
        have hat2 := At.set (i := i) vx hat' (by rw [hxl.out]; exact hin) (by have := hsz.out; omega)
        go_roundw
        case rel =>
          have hI : ∃ (i' j' : Nat) (cs'' : Array Value) (ys : List Value), k < j' ∧ j' ≤ n ∧ i' < j' ∧ Value.int .i64 ((i : Int) + 1) = .int .i64 i' ∧ Value.int .i64 ((j : Int) + 1) = .int .i64 j' ∧ Hid ((rem (L.take j') c).length = i') ∧ w2.heap[b]? = some (.cells cs'' 36) ∧ Hid (cs''.size = cs.size) ∧ At cs'' o ys ∧ Hid (ys.length = n) ∧ Hid (ys.take i' = cps g (rem (L.take j') c)) ∧ Hid (ys.drop j' = (cps g L).drop j') ∧ Fr [b] w w2 := by
            refine ⟨i + 1, j + 1, _, xs.set i vx, by omega, by omega, by omega, by go_num, by go_num, ?_, rb2, ?_, hat2, ?_, ?_, ?_, F.trans F2 (by simp)⟩
            · show _ = _; rw [e1, List.length_append, hi.out]; rfl
            · show _ = _; rw [Array.size_setIfInBounds]; exact hsz.out
            · show _ = _; rw [List.length_set]; exact hxl.out
            · show _ = _
              rw [e1, cps, List.map_append, List.take_add_one, List.getElem?_set_self (by rw [hxl.out]; exact hin), List.take_set, List.set_eq_of_length_le (by simp; omega), hx1.out, ← hv.out]
              rfl
            · show _ = _; rw [List.drop_set, if_pos (by omega)]; exact hx2'
          first | exact hI | ((repeat apply Exists.intro); exact ⟨hI, rfl⟩)
        case measure => simp [intOf]; omega
    · obtain rfl : j = n := by omega
      have hall : L.take j = L := List.take_of_length_le (by have := hn.out; omega)
      have hi' : (rem L c).length = i := by have := hi.out; rw [hall] at this; exact this
      have hx1' : xs.take i = cps g (rem L c) := by have := hx1.out; rw [hall] at this; exact this
      have hat3 : At cs' o (cps g (rem L c)) := by
        intro t ht
        have ht' : t < i := by simp [cps, hi'] at ht; exact ht
        rw [hat' t (by rw [hxl.out]; omega), ← hx1', List.getElem?_take, if_pos ht']
      have hci : i ≤ cap := by omega
      have hlt2 : i < j := hij
      obtain ⟨zs, hzl, hcl⟩ := clear88 (b := b) (o := o + i) (i := j - i) (cap := cap - i) (w := wr) (by omega) rb' (by have := hsz.out; omega)
      replace hi' : Hid ((rem L c).length = i) := hi'
      clear hall hx1' hi hx1 hx2
      replace hzl : Hid (zs.length = j - i) := hzl
      go_wp2_with (first
        | (refine wpList_do rfl (some 38) rfl _ _ (exec_slice (T := 88) (x := .tmp 36) (lo := some (.tmp 37)) (hi := none) (lv := some (.int .i64 i)) (hv := none) rfl rfl rfl rfl (slice88_from hlt2 hcap _)) ?_)
        | (refine wpList_gone rfl rfl _ _ (exec_clear rfl rfl hcl) ?_)
        | (refine wpList_do rfl (some 41) rfl _ _ (exec_slice (T := 88) (x := .tmp 39) (lo := none) (hi := some (.tmp 40)) (lv := none) (hv := some (.int .i64 i)) rfl rfl rfl rfl (slice88_to hci _)) ?_))
      go_ret
      refine ⟨by rw [hi'.out]; rfl, F.trans (Fr.setCells b zs _ wr) (by simp), _, heap_setCells b 36 zs _ wr cs' rb', by rw [put_size]; exact hsz.out, ?_⟩
      exact hat3.put_apart (by rw [hzl.out]; have := hsz.out; omega) (.inl (by simp [cps, hi'.out]))
end
end Go.Proofs.Ybulkduvu
