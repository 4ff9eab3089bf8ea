import Derived.Test.YbulkduvuMb
namespace Go.Proofs.Ybulkduvu
open Go.RowKit Base

def cA (g : Nat → Nat) : Array Value := #[cp g 0, cp g 1, cp g 2, cp g 3, cp g 4]
theorem cA_at {w : World} {cb i : Nat} {g : Nat → Nat} (h : w.heap[cb]? = some (.cells (cA g) 37)) (hi : i < 5) : w.cell? ⟨cb, i, none⟩ = some (cp g i) := by
  rw [cell_of_row w cb i _ _ _ h]
  have : i = 0 ∨ i = 1 ∨ i = 2 ∨ i = 3 ∨ i = 4 := by omega
  rcases this with rfl | rfl | rfl | rfl | rfl <;> rfl
theorem idx37_0 (b : Nat) (w : World) : (Instr.indexAt 37 (.pointer (some ⟨b, 0, none⟩)) (.int .i64 ((0 : Nat) : Int))).run Yba.prog w = .ok (.pointer (some ⟨b, 0, none⟩)) w := by kernel_rfl
theorem idx37_1 (b : Nat) (w : World) : (Instr.indexAt 37 (.pointer (some ⟨b, 0, none⟩)) (.int .i64 ((1 : Nat) : Int))).run Yba.prog w = .ok (.pointer (some ⟨b, 1, none⟩)) w := by kernel_rfl
theorem idx37_2 (b : Nat) (w : World) : (Instr.indexAt 37 (.pointer (some ⟨b, 0, none⟩)) (.int .i64 ((2 : Nat) : Int))).run Yba.prog w = .ok (.pointer (some ⟨b, 2, none⟩)) w := by kernel_rfl
theorem idx37_3 (b : Nat) (w : World) : (Instr.indexAt 37 (.pointer (some ⟨b, 0, none⟩)) (.int .i64 ((3 : Nat) : Int))).run Yba.prog w = .ok (.pointer (some ⟨b, 3, none⟩)) w := by kernel_rfl
theorem idx37_4 (b : Nat) (w : World) : (Instr.indexAt 37 (.pointer (some ⟨b, 0, none⟩)) (.int .i64 ((4 : Nat) : Int))).run Yba.prog w = .ok (.pointer (some ⟨b, 4, none⟩)) w := by kernel_rfl
theorem idx37 {b i : Nat} (hi : i < 5) (w : World) : (Instr.indexAt 37 (.pointer (some ⟨b, 0, none⟩)) (.int .i64 i)).run Yba.prog w = .ok (.pointer (some ⟨b, i, none⟩)) w := by
  match i, hi with
  | 0, _ => exact idx37_0 b w
  | 1, _ => exact idx37_1 b w
  | 2, _ => exact idx37_2 b w
  | 3, _ => exact idx37_3 b w
  | 4, _ => exact idx37_4 b w
theorem idx39_0 (b : Nat) (w : World) : (Instr.indexAt 39 (.pointer (some ⟨b, 0, none⟩)) (.int .i64 ((0 : Nat) : Int))).run Yba.prog w = .ok (.pointer (some ⟨b, 0, none⟩)) w := by kernel_rfl
theorem idx39_1 (b : Nat) (w : World) : (Instr.indexAt 39 (.pointer (some ⟨b, 0, none⟩)) (.int .i64 ((1 : Nat) : Int))).run Yba.prog w = .ok (.pointer (some ⟨b, 1, none⟩)) w := by kernel_rfl
theorem idx39_2 (b : Nat) (w : World) : (Instr.indexAt 39 (.pointer (some ⟨b, 0, none⟩)) (.int .i64 ((2 : Nat) : Int))).run Yba.prog w = .ok (.pointer (some ⟨b, 2, none⟩)) w := by kernel_rfl
theorem idx39_3 (b : Nat) (w : World) : (Instr.indexAt 39 (.pointer (some ⟨b, 0, none⟩)) (.int .i64 ((3 : Nat) : Int))).run Yba.prog w = .ok (.pointer (some ⟨b, 3, none⟩)) w := by kernel_rfl
theorem idx39_4 (b : Nat) (w : World) : (Instr.indexAt 39 (.pointer (some ⟨b, 0, none⟩)) (.int .i64 ((4 : Nat) : Int))).run Yba.prog w = .ok (.pointer (some ⟨b, 4, none⟩)) w := by kernel_rfl
theorem idx39 {b i : Nat} (hi : i < 5) (w : World) : (Instr.indexAt 39 (.pointer (some ⟨b, 0, none⟩)) (.int .i64 i)).run Yba.prog w = .ok (.pointer (some ⟨b, i, none⟩)) w := by
  match i, hi with
  | 0, _ => exact idx39_0 b w
  | 1, _ => exact idx39_1 b w
  | 2, _ => exact idx39_2 b w
  | 3, _ => exact idx39_3 b w
  | 4, _ => exact idx39_4 b w
theorem idx40 {b o n cap i : Nat} (h : i < n) (w : World) : (Instr.indexAt 40 (.slice (some ⟨b, o, none⟩) n cap) (.int .i64 i)).run Yba.prog w = .ok (.pointer (some ⟨b, o + i, none⟩)) w := by
  have e : Yba.prog.elem 40 = 3 := by kernel_rfl
  rw [run_indexAt_slice w 40 ⟨b, o, none⟩ n cap .i64 i (by rw [e]; exact Yba.underlying40), if_pos (by omega), e, Yba.sizeOf3]
  simp [Addr.add_lit]
theorem exec_neq3 {w : World} {o : Oper} {a : Act} {x y : Operand} (ho : o.op = .binOp .neq 3 x y 3) {p : Int} (hx : a.eval x = .int .i64 p) (hy : a.eval y = .int .i64 p) : (execOp a.eval o).run Yba.prog w = .ok (.value (.bool false)) w := by
  simp [execOp, ho, hx, hy, eqGuard_at_int, binOp_neq]
theorem ptr_ne (g : Nat → Nat) (i : Nat) (w : World) : (binOp .neq 36 (cp g i) (cp g i)).run Yba.prog w = .ok (.bool false) w := by
  unfold cp
  have hz := size60
  cases hq : Yba.prog.info? 60 with
  | none => simp [hq] at hz
  | some t =>
    have h : ∀ d : Nat, (Op.equalIn (d + 1) 36 (.pointer (some ⟨g i, 0, none⟩)) (.pointer (some ⟨g i, 0, none⟩))).run Yba.prog w = .ok true w := fun d => by
      simp [Op.equalIn, run_underlying Yba.underlying36, sizeOf, typeInfo, hq, run_sameAddr_same]
    simp only [binOp]
    simp [Op.equal, Op.maxDepth, h 9999]
theorem exec_neq36 {w : World} {o : Oper} {a : Act} {x y : Operand} (ho : o.op = .binOp .neq 36 x y 36) {g : Nat → Nat} {i : Nat} (hx : a.eval x = cp g i) (hy : a.eval y = cp g i) : (execOp a.eval o).run Yba.prog w = .ok (.value (.bool false)) w := by
  have h1 := ptr_ne g i w
  have h2 : (eqGuard .neq 36 x y (cp g i) (cp g i)).run Yba.prog w = .ok () w := by unfold cp; kernel_rfl
  simp [execOp, ho, hx, hy, h1, h2]

theorem cnt_take {f : Int → Option Value} {ks : List Int} {i : Nat} {k : Int} (h : ks[i]? = some k) : cnt f (ks.take (i + 1)) = cnt f (ks.take i) + (if (f k).isSome = true then 1 else 0) := by
  unfold cnt
  rw [List.take_add_one, h, List.countP_append]
  simp [List.countP_cons]
theorem cnt_le {f : Int → Option Value} {ks : List Int} (i : Nat) : cnt f (ks.take i) ≤ ks.length := by
  unfold cnt
  exact Nat.le_trans List.countP_le_length (by simp; omega)

/-- what the first loop reads -/
structure S1 (w : World) (cb gi mb i : Nat) (g : Nat → Nat) (x : Int) (cl : Nat → Int) (K Ls : Value) : Prop where
  rc : w.heap[cb]? = some (.cells (cA g) 37)
  rg : w.heap[gi]? = some (.cells (cRow x) 60)
  rm : w.heap[mb]? = some (.cells (mRow cl K Ls) 43)

structure S2 (w : World) (ob mp mb n : Nat) (f : Int → Option Value) (cl : Nat → Int) (K Ls : Value) (kb ko : Nat) (k : Int) : Prop where
  ro : w.heap[ob]? = some (.cells (oRow mp) 71)
  mi : MapI w mp n f
  rm : w.heap[mb]? = some (.cells (mRow cl K Ls) 43)
  ck : w.cell? ⟨kb, ko, none⟩ = some (.int .i64 k)

structure S3 (w : World) (cb : Nat) (g : Nat → Nat) (vb vo wb wo x : Nat) : Prop where
  rc : w.heap[cb]? = some (.cells (cA g) 37)
  cv : w.cell? ⟨vb, vo, none⟩ = some (cp g x)
  cw : w.cell? ⟨wb, wo, none⟩ = some (.int .i64 x)

set_option maxHeartbeats 8000000 in
set_option maxRecDepth 100000 in
theorem check_any {w : World} {base ob mp mb cb nr nm : Nat} {g : Nat → Nat} {ow ox : List Nat} {cl : Nat → Int} {L : Int → List Nat} {V W : Int → Value} {ks : List Int} {K Ls : Value}
    (R : Rl w base ob mp g ow nr cl L V) (M : Md w base mb nm cl ks L K Ls W ox) (rc : w.heap[cb]? = some (.cells (cA g) 37)) (hn : nm ≤ 1000000) (hwf : ∀ k ∈ ks, I64 k) :
    Calls Yba.prog 13 #[.pointer (some ⟨ob, 0, none⟩), .pointer (some ⟨cb, 0, none⟩), .pointer (some ⟨mb, 0, none⟩)] w fun e w' => e = .returned (.bool true) ∧ Fr [] w w' := by
  obtain ⟨m, hm⟩ : ∃ m, ks.length = m := ⟨_, rfl⟩
  have hmn : m ≤ nm := by rw [← hm]; exact M.kn
  have hks := M.kseg
  have hls := M.lseg
  rw [hm] at hks hls
  obtain ⟨ka, kc, hK⟩ := Seg.form hks
  obtain ⟨la, lc, hLs⟩ := Seg.form hls
  rw [hK] at hks
  rw [hLs] at hls
  have hrm := M.rm
  rw [hK, hLs] at hrm
  replace hm : Hid (ks.length = m) := hm
  replace hks : Hid _ := hks
  replace hls : Hid _ := hls
  clear hK hLs
  go_enter Yba.func13, Yba.ntmps13
  go_wp2
  go_loopw [7] (fun s7 wr => ∃ i : Nat, i ≤ 5 ∧ s7 = .int .i64 i ∧ Fr [] w wr) (fun s7 _ => 5 - (intOf s7).toNat)
  case atStart => exact ⟨0, by omega, rfl, Fr.refl _ _⟩
  case round =>
    obtain ⟨i, hi5, rfl, F⟩ := hrel
    by_cases hi : i < 5
    · obtain ⟨gi, hgi⟩ : ∃ gi, gi = g i := ⟨_, rfl⟩
      obtain ⟨x, hx⟩ : ∃ x, cl i = x := ⟨_, rfl⟩
      have hS : S1 wr.drew cb gi mb i g x cl (.slice ka m kc) (.slice la m lc) := ⟨F.get rc (by simp), by rw [hgi, ← hx]; exact F.get (R.rg i hi) (by simp), F.get hrm (by simp)⟩
      have hcp : cp g i = .pointer (some ⟨gi, 0, none⟩) := by rw [hgi]; rfl
      replace hgi : Hid (gi = g i) := hgi
      replace hx : Hid (cl i = x) := hx
      replace hcp : Hid (cp g i = .pointer (some ⟨gi, 0, none⟩)) := hcp
      go_wp2
      refine any_begin (fun w' => S1 w' cb gi mb i g x cl (.slice ka m kc) (.slice la m lc)) (by kernel_rfl) hS ?_
      refine any_take 0 rfl (some 18) rfl (by kernel_rfl) (by kernel_rfl) (by kernel_rfl) rfl (.pointer (some ⟨cb, 0, none⟩)) (fun _ _ _ h => h) (fun _ _ => rfl) hS ?_
      simp only [Act.put, List.setIfInBounds_toArray, List.set_cons_zero, List.set_cons_succ]
      refine any_take 1 rfl (some 19) rfl (by kernel_rfl) (by kernel_rfl) (by kernel_rfl) rfl (.int .i64 i) (fun _ _ _ h => h) (fun _ _ => rfl) hS ?_
      simp only [Act.put, List.setIfInBounds_toArray, List.set_cons_zero, List.set_cons_succ]
      refine any_take 2 rfl (some 20) rfl (by kernel_rfl) (by kernel_rfl) (by kernel_rfl) rfl (.pointer (some ⟨cb, 0, none⟩)) (fun _ _ _ h => h) (fun _ _ => by first | rfl | kernel_rfl) hS ?_
      simp only [Act.put, List.setIfInBounds_toArray, List.set_cons_zero, List.set_cons_succ]
      refine any_take 3 rfl (some 21) rfl (by kernel_rfl) (by kernel_rfl) (by kernel_rfl) rfl (.pointer (some ⟨cb, i, none⟩)) (fun _ _ _ h => h) (fun w _ => exec_index (xv := .pointer (some ⟨cb, 0, none⟩)) (iv := .int .i64 i) rfl rfl rfl (idx37 hi w)) hS ?_
      simp only [Act.put, List.setIfInBounds_toArray, List.set_cons_zero, List.set_cons_succ]
      refine any_load_cell 4 rfl (some 22) rfl (by kernel_rfl) (by kernel_rfl) (by kernel_rfl) rfl (.pointer (some ⟨gi, 0, none⟩)) (fun _ _ _ h => h) 36 (.tmp 21) rfl ⟨cb, i, none⟩ rfl (fun w h => (cA_at h.rc hi).trans (congrArg some hcp.out)) _ Yba.underlying36 rfl hS ?_
      simp only [Act.put, List.setIfInBounds_toArray, List.set_cons_zero, List.set_cons_succ]
      refine any_take 5 rfl (some 23) rfl (by kernel_rfl) (by kernel_rfl) (by kernel_rfl) rfl (.pointer (some ⟨gi, 0, none⟩)) (fun _ _ _ h => h) (fun _ _ => by first | rfl | kernel_rfl) hS ?_
      simp only [Act.put, List.setIfInBounds_toArray, List.set_cons_zero, List.set_cons_succ]
      refine any_take 6 rfl (some 24) rfl (by kernel_rfl) (by kernel_rfl) (by kernel_rfl) rfl (.pointer (some ⟨gi, 6, none⟩)) (fun _ _ _ h => h) (fun _ _ => by first | rfl | kernel_rfl) hS ?_
      simp only [Act.put, List.setIfInBounds_toArray, List.set_cons_zero, List.set_cons_succ]
      refine any_load_cell 7 rfl (some 25) rfl (by kernel_rfl) (by kernel_rfl) (by kernel_rfl) rfl (.int .i64 x) (fun _ _ _ h => h) 3 (.tmp 24) rfl ⟨gi, 6, none⟩ rfl (fun w h => c6 h.rg) _ Yba.underlying3 rfl hS ?_
      simp only [Act.put, List.setIfInBounds_toArray, List.set_cons_zero, List.set_cons_succ]
      refine any_take 8 rfl (some 26) rfl (by kernel_rfl) (by kernel_rfl) (by kernel_rfl) rfl (.pointer (some ⟨mb, 0, none⟩)) (fun _ _ _ h => h) (fun _ _ => rfl) hS ?_
      simp only [Act.put, List.setIfInBounds_toArray, List.set_cons_zero, List.set_cons_succ]
      refine any_take 9 rfl (some 27) rfl (by kernel_rfl) (by kernel_rfl) (by kernel_rfl) rfl (.int .i64 i) (fun _ _ _ h => h) (fun _ _ => rfl) hS ?_
      simp only [Act.put, List.setIfInBounds_toArray, List.set_cons_zero, List.set_cons_succ]
      refine any_take 10 rfl (some 28) rfl (by kernel_rfl) (by kernel_rfl) (by kernel_rfl) rfl (.pointer (some ⟨mb, 0, none⟩)) (fun _ _ _ h => h) (fun _ _ => by first | rfl | kernel_rfl) hS ?_
      simp only [Act.put, List.setIfInBounds_toArray, List.set_cons_zero, List.set_cons_succ]
      refine any_take 11 rfl (some 29) rfl (by kernel_rfl) (by kernel_rfl) (by kernel_rfl) rfl (.pointer (some ⟨mb, 0, none⟩)) (fun _ _ _ h => h) (fun _ _ => by first | rfl | kernel_rfl) hS ?_
      simp only [Act.put, List.setIfInBounds_toArray, List.set_cons_zero, List.set_cons_succ]
      refine any_take 12 rfl (some 30) rfl (by kernel_rfl) (by kernel_rfl) (by kernel_rfl) rfl (.pointer (some ⟨mb, i, none⟩)) (fun _ _ _ h => h) (fun w _ => exec_index (xv := .pointer (some ⟨mb, 0, none⟩)) (iv := .int .i64 i) rfl rfl rfl (idx39 hi w)) hS ?_
      simp only [Act.put, List.setIfInBounds_toArray, List.set_cons_zero, List.set_cons_succ]
      refine any_load_cell 13 rfl (some 31) rfl (by kernel_rfl) (by kernel_rfl) (by kernel_rfl) rfl (.int .i64 x) (fun _ _ _ h => h) 3 (.tmp 30) rfl ⟨mb, i, none⟩ rfl (fun w h => (mc h.rm hi).trans (by rw [hx.out])) _ Yba.underlying3 rfl hS ?_
      simp only [Act.put, List.setIfInBounds_toArray, List.set_cons_zero, List.set_cons_succ]
      refine any_take 14 rfl (some 32) rfl (by kernel_rfl) (by kernel_rfl) (by kernel_rfl) rfl (.bool false) (fun _ _ _ h => h) (fun w _ => exec_neq3 rfl rfl rfl) hS ?_
      simp only [Act.put, List.setIfInBounds_toArray, List.set_cons_zero, List.set_cons_succ]
      refine any_done (by kernel_rfl) ?_
      go_wp2
      go_roundw
      case rel => exact ⟨i + 1, by omega, by go_num, F.trans0 (Fr.drew wr)⟩
      case measure => simp [intOf]; omega
    · obtain rfl : i = 5 := by omega
      go_wp2
      obtain ⟨wo, rfl⟩ : ∃ wo : World, wo = wr := ⟨_, rfl⟩
      go_loopw [8, 9] (fun s8 s9 wr => ∃ i : Nat, i ≤ m ∧ s9 = .int .i64 i ∧ s8 = .int .i64 (cnt (fV L V) (ks.take i)) ∧ Fr [] w wr) (fun _ s9 _ => m - (intOf s9).toNat)
      case atStart => exact ⟨0, by omega, rfl, by simp [cnt], F⟩
      case round =>
        clear F hi hi5
        obtain ⟨i, him, rfl, rfl, F⟩ := hrel
        have hqb : cnt (fV L V) (ks.take i) ≤ 1000000 := by have := cnt_le (f := fV L V) (ks := ks) i; have := hm.out; omega
        by_cases hi : i < m
        · obtain ⟨k, hk⟩ : ∃ k, ks[i]? = some k := ⟨ks[i]'(by have := hm.out; omega), by rw [List.getElem?_eq_getElem]⟩
          have hkm : k ∈ ks := List.mem_of_getElem? hk
          have hcn := cnt_take (f := fV L V) hk
          obtain ⟨kb, ko, kc1, e1, hel1⟩ := Seg.at hks.out hi
          cases e1
          obtain ⟨lb, lo, lc1, e2, hel2⟩ := Seg.at hls.out hi
          cases e2
          have ck := F.cell (hel1 _ (kis_at hk)) (by simp)
          have cw := F.cell (hel2 (W k) (by simp [hk])) (by simp)
          have hwk := (M.iseg k hkm).keep F (by simp)
          obtain ⟨lw, hlw⟩ : ∃ lw, (L k).length = lw := ⟨_, rfl⟩
          have hlwn : lw ≤ nm := by rw [← hlw]; exact M.len k
          rw [hlw] at hwk
          obtain ⟨wa, wc, hW⟩ := Seg.form hwk
          rw [hW] at cw hwk
          have rm' := F.get hrm (by simp)
          have c5 := m5 rm'
          have c6 := m6 rm'
          generalize hq : cnt (fV L V) (ks.take i) = q at hqb hcn
          replace hq : Hid (cnt (fV L V) (ks.take i) = q) := hq
          clear hel1 hel2 hW
          replace hk : Hid (ks[i]? = some k) := hk
          by_cases h0 : lw = 0
          · subst h0
            have hnil : L k = [] := List.length_eq_zero_iff.1 hlw
            have hcn' : cnt (fV L V) (ks.take (i + 1)) = q := by rw [hcn]; simp [fV, hnil]
            replace hcn' : Hid (cnt (fV L V) (ks.take (i + 1)) = q) := hcn'
            clear hnil hlw hcn
            go_wp2
            go_roundw
            case rel =>
              have hI : ∃ i' : Nat, i' ≤ m ∧ Value.int .i64 ((i : Int) + 1) = .int .i64 i' ∧ Value.int .i64 (q : Int) = .int .i64 (cnt (fV L V) (ks.take i')) ∧ Fr [] w wr := ⟨i + 1, by omega, by go_num, by rw [hcn'.out], F⟩
              first | exact hI | ((repeat apply Exists.intro); exact ⟨hI, rfl⟩)
            case measure => simp [intOf]; omega
          · have hne : L k ≠ [] := fun e => h0 (by rw [← hlw, e]; rfl)
            have hf : fV L V k = some (V k) := by simp [fV, hne]
            have hcn' : cnt (fV L V) (ks.take (i + 1)) = q + 1 := by rw [hcn, hf]; simp
            replace hcn' : Hid (cnt (fV L V) (ks.take (i + 1)) = q + 1) := hcn'
            have hl0 : ((lw : Int) == 0) = false := by simpa using h0
            have hvk := (R.seg k hne).keep F (by simp)
            rw [hlw] at hvk
            obtain ⟨va, vc, hV⟩ := Seg.form hvk
            rw [hV] at hvk hf
            have hI64 : I64 k := hwf k hkm
            have hlt5 := R.lt5 k
            replace hvk : Hid (Seg wr (.slice va lw vc) 36 1 lw (cps g (L k))) := hvk
            replace hwk : Hid (Seg wr (.slice wa lw wc) 3 1 lw (nis (L k))) := hwk
            replace hlt5 : Hid (∀ i ∈ L k, i < 5) := hlt5
            have hlk := fun (w' : World) (hmm : MapI w' mp nr (fV L V)) => (hmm.look (T := 62) (E := 88) Yba.underlying62 (zero88 w') (zd := _) rfl hI64).1
            rw [hf] at hlk
            replace hlk : Hid (∀ w' : World, MapI w' mp nr (fV L V) → (Instr.lookup 62 (.map (some mp)) (.int .i64 k) true).run Yba.prog w' = .ok (.tuple #[.slice va lw vc, .bool true]) w') := hlk
            have hS : S2 wr.drew ob mp mb nr (fV L V) cl (.slice (some ⟨kb, ko, none⟩) m kc) (.slice (some ⟨lb, lo, none⟩) m lc) kb (ko + i) k := ⟨F.get R.ro (by simp), R.mi.keep (F.trans0 (Fr.drew wr)) (by simp), rm', ck⟩
            replace hlw : Hid ((L k).length = lw) := hlw
            clear hne hf hV hcn ck
            go_wp2
            refine any_begin (fun w' => S2 w' ob mp mb nr (fV L V) cl (.slice (some ⟨kb, ko, none⟩) m kc) (.slice (some ⟨lb, lo, none⟩) m lc) kb (ko + i) k) (by kernel_rfl) hS ?_
            refine any_take 0 rfl (some 55) rfl (by kernel_rfl) (by kernel_rfl) (by kernel_rfl) rfl (.pointer (some ⟨ob, 0, none⟩)) (fun _ _ _ h => h) (fun _ _ => rfl) hS ?_
            simp only [Act.put, List.setIfInBounds_toArray, List.set_cons_zero, List.set_cons_succ]
            refine any_take 1 rfl (some 56) rfl (by kernel_rfl) (by kernel_rfl) (by kernel_rfl) rfl (.pointer (some ⟨ob, 0, none⟩)) (fun _ _ _ h => h) (fun _ _ => by first | rfl | kernel_rfl) hS ?_
            simp only [Act.put, List.setIfInBounds_toArray, List.set_cons_zero, List.set_cons_succ]
            refine any_take 2 rfl (some 57) rfl (by kernel_rfl) (by kernel_rfl) (by kernel_rfl) rfl (.pointer (some ⟨ob, 1, none⟩)) (fun _ _ _ h => h) (fun _ _ => by first | rfl | kernel_rfl) hS ?_
            simp only [Act.put, List.setIfInBounds_toArray, List.set_cons_zero, List.set_cons_succ]
            refine any_load_cell 3 rfl (some 58) rfl (by kernel_rfl) (by kernel_rfl) (by kernel_rfl) rfl (.map (some mp)) (fun _ _ _ h => h) 62 (.tmp 57) rfl ⟨ob, 1, none⟩ rfl (fun w h => o1 h.ro) _ Yba.underlying62 rfl hS ?_
            simp only [Act.put, List.setIfInBounds_toArray, List.set_cons_zero, List.set_cons_succ]
            refine any_take 4 rfl (some 59) rfl (by kernel_rfl) (by kernel_rfl) (by kernel_rfl) rfl (.pointer (some ⟨mb, 0, none⟩)) (fun _ _ _ h => h) (fun _ _ => rfl) hS ?_
            simp only [Act.put, List.setIfInBounds_toArray, List.set_cons_zero, List.set_cons_succ]
            refine any_take 5 rfl (some 60) rfl (by kernel_rfl) (by kernel_rfl) (by kernel_rfl) rfl (.pointer (some ⟨mb, 0, none⟩)) (fun _ _ _ h => h) (fun _ _ => by first | rfl | kernel_rfl) hS ?_
            simp only [Act.put, List.setIfInBounds_toArray, List.set_cons_zero, List.set_cons_succ]
            refine any_take 6 rfl (some 61) rfl (by kernel_rfl) (by kernel_rfl) (by kernel_rfl) rfl (.pointer (some ⟨mb, 5, none⟩)) (fun _ _ _ h => h) (fun _ _ => by first | rfl | kernel_rfl) hS ?_
            simp only [Act.put, List.setIfInBounds_toArray, List.set_cons_zero, List.set_cons_succ]
            refine any_load_cell 7 rfl (some 62) rfl (by kernel_rfl) (by kernel_rfl) (by kernel_rfl) rfl (.slice (some ⟨kb, ko, none⟩) m kc) (fun _ _ _ h => h) 40 (.tmp 61) rfl ⟨mb, 5, none⟩ rfl (fun w h => m5 h.rm) _ Yba.underlying40 rfl hS ?_
            simp only [Act.put, List.setIfInBounds_toArray, List.set_cons_zero, List.set_cons_succ]
            refine any_take 8 rfl (some 63) rfl (by kernel_rfl) (by kernel_rfl) (by kernel_rfl) rfl (.int .i64 i) (fun _ _ _ h => h) (fun _ _ => rfl) hS ?_
            simp only [Act.put, List.setIfInBounds_toArray, List.set_cons_zero, List.set_cons_succ]
            refine any_take 9 rfl (some 64) rfl (by kernel_rfl) (by kernel_rfl) (by kernel_rfl) rfl (.pointer (some ⟨kb, ko + i, none⟩)) (fun _ _ _ h => h) (fun w _ => exec_index (xv := (.slice (some ⟨kb, ko, none⟩) m kc)) (iv := .int .i64 i) rfl rfl rfl (idx40 hi w)) hS ?_
            simp only [Act.put, List.setIfInBounds_toArray, List.set_cons_zero, List.set_cons_succ]
            refine any_load_cell 10 rfl (some 65) rfl (by kernel_rfl) (by kernel_rfl) (by kernel_rfl) rfl (.int .i64 k) (fun _ _ _ h => h) 3 (.tmp 64) rfl ⟨kb, ko + i, none⟩ rfl (fun w h => h.ck) _ Yba.underlying3 rfl hS ?_
            simp only [Act.put, List.setIfInBounds_toArray, List.set_cons_zero, List.set_cons_succ]
            refine any_take 11 rfl (some 66) rfl (by kernel_rfl) (by kernel_rfl) (by kernel_rfl) rfl (.tuple #[.slice va lw vc, .bool true]) (fun _ _ _ h => h) (fun w h => exec_lookup rfl rfl rfl (hlk.out w h.mi)) hS ?_
            simp only [Act.put, List.setIfInBounds_toArray, List.set_cons_zero, List.set_cons_succ]
            refine any_take 12 rfl (some 54) rfl (by kernel_rfl) (by kernel_rfl) (by kernel_rfl) rfl (.tuple #[.slice va lw vc, .bool true]) (fun _ _ _ h => h) (fun _ _ => rfl) hS ?_
            simp only [Act.put, List.setIfInBounds_toArray, List.set_cons_zero, List.set_cons_succ]
            refine any_take 13 rfl (some 67) rfl (by kernel_rfl) (by kernel_rfl) (by kernel_rfl) rfl (.slice va lw vc) (fun _ _ _ h => h) (fun _ _ => by first | rfl | kernel_rfl) hS ?_
            simp only [Act.put, List.setIfInBounds_toArray, List.set_cons_zero, List.set_cons_succ]
            refine any_take 14 rfl (some 68) rfl (by kernel_rfl) (by kernel_rfl) (by kernel_rfl) rfl (.bool true) (fun _ _ _ h => h) (fun _ _ => by first | rfl | kernel_rfl) hS ?_
            simp only [Act.put, List.setIfInBounds_toArray, List.set_cons_zero, List.set_cons_succ]
            refine any_take 15 rfl (some 11) rfl (by kernel_rfl) (by kernel_rfl) (by kernel_rfl) rfl (.slice va lw vc) (fun _ _ _ h => h) (fun _ _ => rfl) hS ?_
            simp only [Act.put, List.setIfInBounds_toArray, List.set_cons_zero, List.set_cons_succ]
            refine any_take 16 rfl (some 12) rfl (by kernel_rfl) (by kernel_rfl) (by kernel_rfl) rfl (.bool true) (fun _ _ _ h => h) (fun _ _ => rfl) hS ?_
            simp only [Act.put, List.setIfInBounds_toArray, List.set_cons_zero, List.set_cons_succ]
            refine any_done (by kernel_rfl) ?_
            clear hS hlk
            have F2 := F.trans0 (Fr.drew wr)
            have hvk2 : Hid (Seg wr.drew (.slice va lw vc) 36 1 lw (cps g (L k))) := hvk.out.keep (Fr.drew wr) (by simp)
            have hwk2 : Hid (Seg wr.drew (.slice wa lw wc) 3 1 lw (nis (L k))) := hwk.out.keep (Fr.drew wr) (by simp)
            clear hvk hwk
            go_wp2
            obtain ⟨wq, hwq⟩ : ∃ wq : World, wq = wr.drew := ⟨_, rfl⟩
            rw [← hwq] at F2 hvk2 hwk2 ⊢
            clear hwq
            go_loopw [13] (fun s13 wr => ∃ j : Nat, j ≤ lw ∧ s13 = .int .i64 j ∧ Fr [] wq wr) (fun s13 _ => lw - (intOf s13).toNat)
            case atStart => exact ⟨0, by omega, rfl, Fr.refl _ _⟩
            case round =>
              obtain ⟨j, hjl, rfl, F3⟩ := hrel
              by_cases hj : j < lw
              · obtain ⟨x, hx⟩ : ∃ x, (L k)[j]? = some x := ⟨(L k)[j]'(by rw [hlw.out]; exact hj), by rw [List.getElem?_eq_getElem]⟩
                have hx5 : x < 5 := hlt5.out x (List.mem_of_getElem? hx)
                obtain ⟨vb, vo, vc2, e3, hel3⟩ := Seg.at (hvk2.out.keep F3 (by simp)) hj
                cases e3
                obtain ⟨wb, wo2, wc2, e4, hel4⟩ := Seg.at (hwk2.out.keep F3 (by simp)) hj
                cases e4
                have hS3 : S3 wr.drew cb g vb (vo + j) wb (wo2 + j) x := ⟨(F2.trans0 (F3.trans0 (Fr.drew wr))).get rc (by simp), hel3 _ (by simp [cps, hx]), hel4 _ (nis_at hx)⟩
                clear hel3 hel4 hx
                go_wp2
                refine any_begin (fun w' => S3 w' cb g vb (vo + j) wb (wo2 + j) x) (by kernel_rfl) hS3 ?_
                refine any_take 0 rfl (some 84) rfl (by kernel_rfl) (by kernel_rfl) (by kernel_rfl) rfl (.slice (some ⟨vb, vo, none⟩) lw vc) (fun _ _ _ h => h) (fun _ _ => rfl) hS3 ?_
                simp only [Act.put, List.setIfInBounds_toArray, List.set_cons_zero, List.set_cons_succ]
                refine any_take 1 rfl (some 85) rfl (by kernel_rfl) (by kernel_rfl) (by kernel_rfl) rfl (.int .i64 j) (fun _ _ _ h => h) (fun _ _ => rfl) hS3 ?_
                simp only [Act.put, List.setIfInBounds_toArray, List.set_cons_zero, List.set_cons_succ]
                refine any_take 2 rfl (some 86) rfl (by kernel_rfl) (by kernel_rfl) (by kernel_rfl) rfl (.pointer (some ⟨vb, vo + j, none⟩)) (fun _ _ _ h => h) (fun w _ => exec_index (xv := (.slice (some ⟨vb, vo, none⟩) lw vc)) (iv := .int .i64 j) rfl rfl rfl (idx88 hj w)) hS3 ?_
                simp only [Act.put, List.setIfInBounds_toArray, List.set_cons_zero, List.set_cons_succ]
                refine any_load_cell 3 rfl (some 87) rfl (by kernel_rfl) (by kernel_rfl) (by kernel_rfl) rfl (cp g x) (fun _ _ _ h => h) 36 (.tmp 86) rfl ⟨vb, vo + j, none⟩ rfl (fun w h => h.cv) _ Yba.underlying36 rfl hS3 ?_
                simp only [Act.put, List.setIfInBounds_toArray, List.set_cons_zero, List.set_cons_succ]
                refine any_take 4 rfl (some 88) rfl (by kernel_rfl) (by kernel_rfl) (by kernel_rfl) rfl (.pointer (some ⟨cb, 0, none⟩)) (fun _ _ _ h => h) (fun _ _ => rfl) hS3 ?_
                simp only [Act.put, List.setIfInBounds_toArray, List.set_cons_zero, List.set_cons_succ]
                refine any_take 5 rfl (some 89) rfl (by kernel_rfl) (by kernel_rfl) (by kernel_rfl) rfl (.slice (some ⟨wb, wo2, none⟩) lw wc) (fun _ _ _ h => h) (fun _ _ => rfl) hS3 ?_
                simp only [Act.put, List.setIfInBounds_toArray, List.set_cons_zero, List.set_cons_succ]
                refine any_take 6 rfl (some 90) rfl (by kernel_rfl) (by kernel_rfl) (by kernel_rfl) rfl (.int .i64 j) (fun _ _ _ h => h) (fun _ _ => rfl) hS3 ?_
                simp only [Act.put, List.setIfInBounds_toArray, List.set_cons_zero, List.set_cons_succ]
                refine any_take 7 rfl (some 91) rfl (by kernel_rfl) (by kernel_rfl) (by kernel_rfl) rfl (.pointer (some ⟨wb, wo2 + j, none⟩)) (fun _ _ _ h => h) (fun w _ => exec_index (xv := (.slice (some ⟨wb, wo2, none⟩) lw wc)) (iv := .int .i64 j) rfl rfl rfl (idx40 hj w)) hS3 ?_
                simp only [Act.put, List.setIfInBounds_toArray, List.set_cons_zero, List.set_cons_succ]
                refine any_load_cell 8 rfl (some 92) rfl (by kernel_rfl) (by kernel_rfl) (by kernel_rfl) rfl (.int .i64 x) (fun _ _ _ h => h) 3 (.tmp 91) rfl ⟨wb, wo2 + j, none⟩ rfl (fun w h => h.cw) _ Yba.underlying3 rfl hS3 ?_
                simp only [Act.put, List.setIfInBounds_toArray, List.set_cons_zero, List.set_cons_succ]
                refine any_take 9 rfl (some 93) rfl (by kernel_rfl) (by kernel_rfl) (by kernel_rfl) rfl (.pointer (some ⟨cb, 0, none⟩)) (fun _ _ _ h => h) (fun _ _ => by first | rfl | kernel_rfl) hS3 ?_
                simp only [Act.put, List.setIfInBounds_toArray, List.set_cons_zero, List.set_cons_succ]
                refine any_take 10 rfl (some 94) rfl (by kernel_rfl) (by kernel_rfl) (by kernel_rfl) rfl (.pointer (some ⟨cb, x, none⟩)) (fun _ _ _ h => h) (fun w _ => exec_index (xv := .pointer (some ⟨cb, 0, none⟩)) (iv := .int .i64 x) rfl rfl rfl (idx37 hx5 w)) hS3 ?_
                simp only [Act.put, List.setIfInBounds_toArray, List.set_cons_zero, List.set_cons_succ]
                refine any_load_cell 11 rfl (some 95) rfl (by kernel_rfl) (by kernel_rfl) (by kernel_rfl) rfl (cp g x) (fun _ _ _ h => h) 36 (.tmp 94) rfl ⟨cb, x, none⟩ rfl (fun w h => cA_at h.rc hx5) _ Yba.underlying36 rfl hS3 ?_
                simp only [Act.put, List.setIfInBounds_toArray, List.set_cons_zero, List.set_cons_succ]
                refine any_take 12 rfl (some 96) rfl (by kernel_rfl) (by kernel_rfl) (by kernel_rfl) rfl (.bool false) (fun _ _ _ h => h) (fun w _ => exec_neq36 (g := g) (i := x) rfl rfl rfl) hS3 ?_
                simp only [Act.put, List.setIfInBounds_toArray, List.set_cons_zero, List.set_cons_succ]
                refine any_done (by kernel_rfl) ?_
                go_wp2
                go_roundw
                case rel =>
                  have hI : ∃ j' : Nat, j' ≤ lw ∧ Value.int .i64 ((j : Int) + 1) = .int .i64 j' ∧ Fr [] wq wr.drew := ⟨j + 1, by omega, by go_num, F3.trans0 (Fr.drew wr)⟩
                  first | exact hI | ((repeat apply Exists.intro); exact ⟨hI, rfl⟩)
                case measure => simp [intOf]; omega
              · go_wp2
                go_roundw
                case rel =>
                  have hI : ∃ i' : Nat, i' ≤ m ∧ Value.int .i64 ((i : Int) + 1) = .int .i64 i' ∧ Value.int .i64 ((q : Int) + 1) = .int .i64 (cnt (fV L V) (ks.take i')) ∧ Fr [] w wr := ⟨i + 1, by omega, by go_num, by rw [hcn'.out]; go_num, F2.trans0 F3⟩
                  first | exact hI | ((repeat apply Exists.intro); exact ⟨hI, rfl⟩)
                case measure => simp [intOf]; omega
        · obtain rfl : i = m := by omega
          have hall : ks.take i = ks := List.take_of_length_le (by rw [hm.out]; exact Nat.le_refl _)
          have hl := (R.mi.keep F (by simp)).len (T := 62) (E := 88) Yba.underlying62 3 ks M.nd (fun c hc => M.sup c (fun e => by simp [fV, e] at hc))
          have c1 := o1 (F.get R.ro (by simp))
          have c5 := m5 (F.get hrm (by simp))
          rw [hall]
          clear hall
          generalize cnt (fV L V) ks = q at hl ⊢
          go_wp2
          go_ret
          exact ⟨by simp, F⟩
end Go.Proofs.Ybulkduvu
