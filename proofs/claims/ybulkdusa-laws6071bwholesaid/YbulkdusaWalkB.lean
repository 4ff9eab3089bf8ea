import Derived.Test.YbulkdusaWalkA
namespace Go.Proofs.Ybulkdusa
open Go.RowKit Base

theorem neq_bool (d : Bool) (w : World) : (binOp .neq 4 (.bool d) (.bool d)).run Yba.prog w = .ok (.bool false) w := by cases d <;> kernel_rfl
theorem exec_neq_bool {w : World} {o : Oper} {a : Act} {x y : Operand} {T : TypeId} (ho : o.op = .binOp .neq 4 x y T) {d : Bool} (hx : a.eval x = .bool d) (hy : a.eval y = .bool d) : (execOp a.eval o).run Yba.prog w = .ok (.value (.bool false)) w := by
  simp [execOp, ho, hx, hy, eqGuard_at_bool, neq_bool]
theorem exec_neq_int {w : World} {o : Oper} {a : Act} {x y : Operand} {T T' : TypeId} {k : IntKind} (ho : o.op = .binOp .neq T x y T') {p : Int} (hx : a.eval x = .int k p) (hy : a.eval y = .int k p) : (execOp a.eval o).run Yba.prog w = .ok (.value (.bool false)) w := by
  simp [execOp, ho, hx, hy, eqGuard_at_int, binOp_neq]

/-- what the comparison reads of a row of versions -/
def VRow (w : World) (b o n : Nat) (L : List Ver) : Prop := n = L.length ∧ ∃ cs, w.heap[b]? = some (.cells cs 66) ∧ At cs o (cl L)
theorem VRow.keep {w w' : World} {b o n : Nat} {L : List Ver} (h : VRow w b o n L) (hF : Fr [] w w') : VRow w' b o n L := by
  obtain ⟨h1, cs, h2, h3⟩ := h
  exact ⟨h1, cs, hF.get h2 (by simp), h3⟩
theorem VRow.cells {w : World} {b o n : Nat} {L : List Ver} (h : VRow w b o n L) {i : Nat} (hi : i < L.length) :
    w.cell? ⟨b, o + i * 3, none⟩ = some (.int .u64 (L[i]).at_) ∧ w.cell? ⟨b, o + i * 3 + 1, none⟩ = some (L[i]).val ∧ w.cell? ⟨b, o + i * 3 + 2, none⟩ = some (.bool (L[i]).del) := by
  obtain ⟨h1, cs, h2, h3⟩ := h
  rw [cell_of_row w b _ cs 66 _ h2, cell_of_row w b _ cs 66 _ h2, cell_of_row w b _ cs 66 _ h2]
  exact ⟨enc_0 (at_ver h3 hi), enc_1 (at_ver h3 hi), enc_2 (at_ver h3 hi)⟩

set_option maxHeartbeats 2000000 in
set_option maxRecDepth 100000 in
theorem eq_some (b1 o1 c1 b2 o2 c2 : Nat) (L : List Ver) (w : World) (h1 : VRow w b1 o1 L.length L) (h2 : VRow w b2 o2 L.length L) (hok : ∀ x ∈ L, OKv w x.val) (hl : L.length ≤ 1000000) :
    Calls Yba.prog 8 #[.slice (some ⟨b1, o1, none⟩) L.length c1, .slice (some ⟨b2, o2, none⟩) L.length c2] w fun e w' => e = .returned (.bool true) ∧ Fr [] w w' := by
  go_enter Yba.func8, Yba.ntmps8
  go_wp2
  go_loopw [5] (fun i wr => ∃ j : Nat, j ≤ L.length ∧ i = .int .i64 j ∧ Fr [] w wr) (fun i _ => L.length - (intOf i).toNat)
  case atStart => exact ⟨0, by omega, rfl, Fr.refl _ _⟩
  case round =>
    obtain ⟨j, hj, rfl, hF⟩ := hrel
    by_cases hlt : j < L.length
    · have k1 := h1.keep hF
      have k2 := h2.keep hF
      have okj : OKv wr (L[j]).val := (hok _ (List.getElem_mem hlt)).keep hF (by simp)
      clear hok h1 h2
      go_wp2
      refine any_begin (fun w' => VRow w' b1 o1 L.length L ∧ VRow w' b2 o2 L.length L) (by kernel_rfl) ⟨k1, k2⟩ ?_
      refine any_takeG 0 rfl (some 17) rfl (by kernel_rfl) (by kernel_rfl) (by kernel_rfl) (by rfl) (.slice (some ⟨b1, o1, none⟩) L.length c1) (fun _ _ _ h => h) (fun _ _ => rfl) ⟨k1, k2⟩ ?_
      simp only [Act.put, List.setIfInBounds_toArray, List.set_cons_zero, List.set_cons_succ]
      refine any_takeG 1 rfl (some 18) rfl (by kernel_rfl) (by kernel_rfl) (by kernel_rfl) (by rfl) (.int .i64 j) (fun _ _ _ h => h) (fun _ _ => rfl) ⟨k1, k2⟩ ?_
      simp only [Act.put, List.setIfInBounds_toArray, List.set_cons_zero, List.set_cons_succ]
      refine any_takeG 2 rfl (some 19) rfl (by kernel_rfl) (by kernel_rfl) (by kernel_rfl) (by rfl) (.pointer (some ⟨b1, o1 + j * 3, none⟩)) (fun _ _ _ h => h) (fun w _ => exec_index (xv := (.slice (some ⟨b1, o1, none⟩) L.length c1)) (iv := (.int .i64 j)) rfl rfl rfl (idx60 hlt w)) ⟨k1, k2⟩ ?_
      simp only [Act.put, List.setIfInBounds_toArray, List.set_cons_zero, List.set_cons_succ]
      refine any_takeG 3 rfl (some 20) rfl (by kernel_rfl) (by kernel_rfl) (by kernel_rfl) (by rfl) (.pointer (some ⟨b1, o1 + j * 3, none⟩)) (fun _ _ _ h => h) (fun _ _ => by kernel_rfl) ⟨k1, k2⟩ ?_
      simp only [Act.put, List.setIfInBounds_toArray, List.set_cons_zero, List.set_cons_succ]
      refine any_takeG 4 rfl (some 21) rfl (by kernel_rfl) (by kernel_rfl) (by kernel_rfl) (by rfl) (.int .u64 (L[j]).at_) (fun _ _ _ h => h) (fun w h => exec_load_cell (ad := ⟨b1, o1 + j * 3, none⟩) rfl rfl ((h.1.cells hlt).1) Yba.underlying27 rfl) ⟨k1, k2⟩ ?_
      simp only [Act.put, List.setIfInBounds_toArray, List.set_cons_zero, List.set_cons_succ]
      refine any_takeG 5 rfl (some 22) rfl (by kernel_rfl) (by kernel_rfl) (by kernel_rfl) (by rfl) (.slice (some ⟨b2, o2, none⟩) L.length c2) (fun _ _ _ h => h) (fun _ _ => rfl) ⟨k1, k2⟩ ?_
      simp only [Act.put, List.setIfInBounds_toArray, List.set_cons_zero, List.set_cons_succ]
      refine any_takeG 6 rfl (some 23) rfl (by kernel_rfl) (by kernel_rfl) (by kernel_rfl) (by rfl) (.int .i64 j) (fun _ _ _ h => h) (fun _ _ => rfl) ⟨k1, k2⟩ ?_
      simp only [Act.put, List.setIfInBounds_toArray, List.set_cons_zero, List.set_cons_succ]
      refine any_takeG 7 rfl (some 24) rfl (by kernel_rfl) (by kernel_rfl) (by kernel_rfl) (by rfl) (.pointer (some ⟨b2, o2 + j * 3, none⟩)) (fun _ _ _ h => h) (fun w _ => exec_index (xv := (.slice (some ⟨b2, o2, none⟩) L.length c2)) (iv := (.int .i64 j)) rfl rfl rfl (idx60 hlt w)) ⟨k1, k2⟩ ?_
      simp only [Act.put, List.setIfInBounds_toArray, List.set_cons_zero, List.set_cons_succ]
      refine any_takeG 8 rfl (some 25) rfl (by kernel_rfl) (by kernel_rfl) (by kernel_rfl) (by rfl) (.pointer (some ⟨b2, o2 + j * 3, none⟩)) (fun _ _ _ h => h) (fun _ _ => by kernel_rfl) ⟨k1, k2⟩ ?_
      simp only [Act.put, List.setIfInBounds_toArray, List.set_cons_zero, List.set_cons_succ]
      refine any_takeG 9 rfl (some 26) rfl (by kernel_rfl) (by kernel_rfl) (by kernel_rfl) (by rfl) (.int .u64 (L[j]).at_) (fun _ _ _ h => h) (fun w h => exec_load_cell (ad := ⟨b2, o2 + j * 3, none⟩) rfl rfl ((h.2.cells hlt).1) Yba.underlying27 rfl) ⟨k1, k2⟩ ?_
      simp only [Act.put, List.setIfInBounds_toArray, List.set_cons_zero, List.set_cons_succ]
      refine any_takeG 10 rfl (some 27) rfl (by kernel_rfl) (by kernel_rfl) (by kernel_rfl) (by rfl) (.bool false) (fun _ _ _ h => h) (fun w _ => exec_neq_int (k := .u64) (p := (L[j]).at_) rfl rfl rfl) ⟨k1, k2⟩ ?_
      simp only [Act.put, List.setIfInBounds_toArray, List.set_cons_zero, List.set_cons_succ]
      refine any_takeG 11 rfl (some 28) rfl (by kernel_rfl) (by kernel_rfl) (by kernel_rfl) (by rfl) (.bool false) (fun _ _ _ h => h) (fun _ _ => rfl) ⟨k1, k2⟩ ?_
      simp only [Act.put, List.setIfInBounds_toArray, List.set_cons_zero, List.set_cons_succ]
      refine any_takeG 12 rfl (some 29) rfl (by kernel_rfl) (by kernel_rfl) (by kernel_rfl) (by rfl) (.slice (some ⟨b1, o1, none⟩) L.length c1) (fun _ _ _ h => h) (fun _ _ => rfl) ⟨k1, k2⟩ ?_
      simp only [Act.put, List.setIfInBounds_toArray, List.set_cons_zero, List.set_cons_succ]
      refine any_takeG 13 rfl (some 30) rfl (by kernel_rfl) (by kernel_rfl) (by kernel_rfl) (by rfl) (.int .i64 j) (fun _ _ _ h => h) (fun _ _ => rfl) ⟨k1, k2⟩ ?_
      simp only [Act.put, List.setIfInBounds_toArray, List.set_cons_zero, List.set_cons_succ]
      refine any_takeG 14 rfl (some 31) rfl (by kernel_rfl) (by kernel_rfl) (by kernel_rfl) (by rfl) (.pointer (some ⟨b1, o1 + j * 3, none⟩)) (fun _ _ _ h => h) (fun w _ => exec_index (xv := (.slice (some ⟨b1, o1, none⟩) L.length c1)) (iv := (.int .i64 j)) rfl rfl rfl (idx60 hlt w)) ⟨k1, k2⟩ ?_
      simp only [Act.put, List.setIfInBounds_toArray, List.set_cons_zero, List.set_cons_succ]
      refine any_takeG 15 rfl (some 32) rfl (by kernel_rfl) (by kernel_rfl) (by kernel_rfl) (by rfl) (.pointer (some ⟨b1, o1 + j * 3 + 2, none⟩)) (fun _ _ _ h => h) (fun _ _ => by kernel_rfl) ⟨k1, k2⟩ ?_
      simp only [Act.put, List.setIfInBounds_toArray, List.set_cons_zero, List.set_cons_succ]
      refine any_takeG 16 rfl (some 33) rfl (by kernel_rfl) (by kernel_rfl) (by kernel_rfl) (by rfl) (.bool (L[j]).del) (fun _ _ _ h => h) (fun w h => exec_load_cell (ad := ⟨b1, o1 + j * 3 + 2, none⟩) rfl rfl ((h.1.cells hlt).2.2) Yba.underlying4 rfl) ⟨k1, k2⟩ ?_
      simp only [Act.put, List.setIfInBounds_toArray, List.set_cons_zero, List.set_cons_succ]
      refine any_takeG 17 rfl (some 34) rfl (by kernel_rfl) (by kernel_rfl) (by kernel_rfl) (by rfl) (.slice (some ⟨b2, o2, none⟩) L.length c2) (fun _ _ _ h => h) (fun _ _ => rfl) ⟨k1, k2⟩ ?_
      simp only [Act.put, List.setIfInBounds_toArray, List.set_cons_zero, List.set_cons_succ]
      refine any_takeG 18 rfl (some 35) rfl (by kernel_rfl) (by kernel_rfl) (by kernel_rfl) (by rfl) (.int .i64 j) (fun _ _ _ h => h) (fun _ _ => rfl) ⟨k1, k2⟩ ?_
      simp only [Act.put, List.setIfInBounds_toArray, List.set_cons_zero, List.set_cons_succ]
      refine any_takeG 19 rfl (some 36) rfl (by kernel_rfl) (by kernel_rfl) (by kernel_rfl) (by rfl) (.pointer (some ⟨b2, o2 + j * 3, none⟩)) (fun _ _ _ h => h) (fun w _ => exec_index (xv := (.slice (some ⟨b2, o2, none⟩) L.length c2)) (iv := (.int .i64 j)) rfl rfl rfl (idx60 hlt w)) ⟨k1, k2⟩ ?_
      simp only [Act.put, List.setIfInBounds_toArray, List.set_cons_zero, List.set_cons_succ]
      refine any_takeG 20 rfl (some 37) rfl (by kernel_rfl) (by kernel_rfl) (by kernel_rfl) (by rfl) (.pointer (some ⟨b2, o2 + j * 3 + 2, none⟩)) (fun _ _ _ h => h) (fun _ _ => by kernel_rfl) ⟨k1, k2⟩ ?_
      simp only [Act.put, List.setIfInBounds_toArray, List.set_cons_zero, List.set_cons_succ]
      refine any_takeG 21 rfl (some 38) rfl (by kernel_rfl) (by kernel_rfl) (by kernel_rfl) (by rfl) (.bool (L[j]).del) (fun _ _ _ h => h) (fun w h => exec_load_cell (ad := ⟨b2, o2 + j * 3 + 2, none⟩) rfl rfl ((h.2.cells hlt).2.2) Yba.underlying4 rfl) ⟨k1, k2⟩ ?_
      simp only [Act.put, List.setIfInBounds_toArray, List.set_cons_zero, List.set_cons_succ]
      refine any_takeG 22 rfl (some 39) rfl (by kernel_rfl) (by kernel_rfl) (by kernel_rfl) (by rfl) (.bool false) (fun _ _ _ h => h) (fun w _ => exec_neq_bool (d := (L[j]).del) rfl rfl rfl) ⟨k1, k2⟩ ?_
      simp only [Act.put, List.setIfInBounds_toArray, List.set_cons_zero, List.set_cons_succ]
      refine any_takeG 23 rfl (some 40) rfl (by kernel_rfl) (by kernel_rfl) (by kernel_rfl) (by rfl) (.bool false) (fun _ _ _ h => h) (fun _ _ => rfl) ⟨k1, k2⟩ ?_
      simp only [Act.put, List.setIfInBounds_toArray, List.set_cons_zero, List.set_cons_succ]
      refine any_takeG 24 rfl (some 41) rfl (by kernel_rfl) (by kernel_rfl) (by kernel_rfl) (by rfl) (.bool false) (fun _ _ _ h => h) (fun _ _ => rfl) ⟨k1, k2⟩ ?_
      simp only [Act.put, List.setIfInBounds_toArray, List.set_cons_zero, List.set_cons_succ]
      refine any_takeG 25 rfl (some 42) rfl (by kernel_rfl) (by kernel_rfl) (by kernel_rfl) (by rfl) (.slice (some ⟨b1, o1, none⟩) L.length c1) (fun _ _ _ h => h) (fun _ _ => rfl) ⟨k1, k2⟩ ?_
      simp only [Act.put, List.setIfInBounds_toArray, List.set_cons_zero, List.set_cons_succ]
      refine any_takeG 26 rfl (some 43) rfl (by kernel_rfl) (by kernel_rfl) (by kernel_rfl) (by rfl) (.int .i64 j) (fun _ _ _ h => h) (fun _ _ => rfl) ⟨k1, k2⟩ ?_
      simp only [Act.put, List.setIfInBounds_toArray, List.set_cons_zero, List.set_cons_succ]
      refine any_takeG 27 rfl (some 44) rfl (by kernel_rfl) (by kernel_rfl) (by kernel_rfl) (by rfl) (.pointer (some ⟨b1, o1 + j * 3, none⟩)) (fun _ _ _ h => h) (fun w _ => exec_index (xv := (.slice (some ⟨b1, o1, none⟩) L.length c1)) (iv := (.int .i64 j)) rfl rfl rfl (idx60 hlt w)) ⟨k1, k2⟩ ?_
      simp only [Act.put, List.setIfInBounds_toArray, List.set_cons_zero, List.set_cons_succ]
      refine any_takeG 28 rfl (some 45) rfl (by kernel_rfl) (by kernel_rfl) (by kernel_rfl) (by rfl) (.pointer (some ⟨b1, o1 + j * 3 + 1, none⟩)) (fun _ _ _ h => h) (fun _ _ => by kernel_rfl) ⟨k1, k2⟩ ?_
      simp only [Act.put, List.setIfInBounds_toArray, List.set_cons_zero, List.set_cons_succ]
      refine any_takeG 29 rfl (some 46) rfl (by kernel_rfl) (by kernel_rfl) (by kernel_rfl) (by rfl) (L[j]).val (fun _ _ _ h => h) (fun w h => exec_load_cell (ad := ⟨b1, o1 + j * 3 + 1, none⟩) rfl rfl ((h.1.cells hlt).2.1) Yba.underlying55 rfl) ⟨k1, k2⟩ ?_
      simp only [Act.put, List.setIfInBounds_toArray, List.set_cons_zero, List.set_cons_succ]
      refine any_takeG 30 rfl (some 47) rfl (by kernel_rfl) (by kernel_rfl) (by kernel_rfl) (by rfl) (.slice (some ⟨b2, o2, none⟩) L.length c2) (fun _ _ _ h => h) (fun _ _ => rfl) ⟨k1, k2⟩ ?_
      simp only [Act.put, List.setIfInBounds_toArray, List.set_cons_zero, List.set_cons_succ]
      refine any_takeG 31 rfl (some 48) rfl (by kernel_rfl) (by kernel_rfl) (by kernel_rfl) (by rfl) (.int .i64 j) (fun _ _ _ h => h) (fun _ _ => rfl) ⟨k1, k2⟩ ?_
      simp only [Act.put, List.setIfInBounds_toArray, List.set_cons_zero, List.set_cons_succ]
      refine any_takeG 32 rfl (some 49) rfl (by kernel_rfl) (by kernel_rfl) (by kernel_rfl) (by rfl) (.pointer (some ⟨b2, o2 + j * 3, none⟩)) (fun _ _ _ h => h) (fun w _ => exec_index (xv := (.slice (some ⟨b2, o2, none⟩) L.length c2)) (iv := (.int .i64 j)) rfl rfl rfl (idx60 hlt w)) ⟨k1, k2⟩ ?_
      simp only [Act.put, List.setIfInBounds_toArray, List.set_cons_zero, List.set_cons_succ]
      refine any_takeG 33 rfl (some 50) rfl (by kernel_rfl) (by kernel_rfl) (by kernel_rfl) (by rfl) (.pointer (some ⟨b2, o2 + j * 3 + 1, none⟩)) (fun _ _ _ h => h) (fun _ _ => by kernel_rfl) ⟨k1, k2⟩ ?_
      simp only [Act.put, List.setIfInBounds_toArray, List.set_cons_zero, List.set_cons_succ]
      refine any_takeG 34 rfl (some 51) rfl (by kernel_rfl) (by kernel_rfl) (by kernel_rfl) (by rfl) (L[j]).val (fun _ _ _ h => h) (fun w h => exec_load_cell (ad := ⟨b2, o2 + j * 3 + 1, none⟩) rfl rfl ((h.2.cells hlt).2.1) Yba.underlying55 rfl) ⟨k1, k2⟩ ?_
      simp only [Act.put, List.setIfInBounds_toArray, List.set_cons_zero, List.set_cons_succ]
      refine any_callG 35 rfl (by kernel_rfl) (by rfl) (some 52) rfl 12 _ _ rfl _ Yba.func12 (by kernel_rfl) (by kernel_rfl) [(L[j]).val, (L[j]).val] rfl ((equal_any (L[j]).val _ (okj.keep (Fr.drew wr) (by simp))).mono ?_)
      rintro e w1 ⟨rfl, rfl⟩
      refine ⟨_, rfl, ⟨k1, k2⟩, ?_⟩
      simp only [Act.put, List.setIfInBounds_toArray, List.set_cons_zero, List.set_cons_succ]
      refine any_takeG 36 rfl (some 53) rfl (by kernel_rfl) (by kernel_rfl) (by kernel_rfl) (by rfl) (.bool false) (fun _ _ _ h => h) (fun _ _ => rfl) ⟨k1, k2⟩ ?_
      simp only [Act.put, List.setIfInBounds_toArray, List.set_cons_zero, List.set_cons_succ]
      refine any_takeG 37 rfl (some 54) rfl (by kernel_rfl) (by kernel_rfl) (by kernel_rfl) (by rfl) (.bool false) (fun _ _ _ h => h) (fun _ _ => rfl) ⟨k1, k2⟩ ?_
      simp only [Act.put, List.setIfInBounds_toArray, List.set_cons_zero, List.set_cons_succ]
      refine any_done (by kernel_rfl) ?_
      go_wp2
      go_roundw
      case rel => exact ⟨j + 1, by omega, by go_num, hF.trans0 (Fr.drew wr)⟩
      case measure => simp [intOf]; omega
    · go_wp2
      go_ret
      exact ⟨rfl, hF⟩
end Go.Proofs.Ybulkdusa
