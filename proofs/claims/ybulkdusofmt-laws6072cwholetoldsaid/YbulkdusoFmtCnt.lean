import Derived.Test.YbulkdusoFmtHead
import Derived.Test.YbulkdusoFmtWant
namespace Go.Proofs.YbulkdusoFmt
open Go.RowKit Base

theorem hk_none {l : List Int} {p : Nat} (h : hk l p) : hd l p = none := by
  obtain ⟨q, h1, h2⟩ := h
  unfold hd; rw [h1]; show le l q = none; unfold le; rw [h2]; simp

theorem ts6 {w : World} {t : Nat} {ts : Array Value} {v : Value} {i : Nat} (h : w.heap[t]? = some (.cells ts 41)) (hv : ts[i]? = some v) : w.cell? ⟨t, i, none⟩ = some v := by rw [cell_of_row w t i _ _ _ h]; exact hv

section
variable (s b o cap p n t : Nat) (l : List Int) (ts0 : Array Value) (w : World) (hn : Hid (l.length = n)) (hl : n ≤ 1048576) (hp : p < n) (ho : Oct l) (E : Env w s b o cap n p t l) (r0 : w.heap[t]? = some (.cells ts0 41)) (hts : ts0.size = 10)
include hn hl hp ho E r0 hts
theorem head_bad (h1 : Hid (hd l p = none)) (h2 : Hid (¬ hk l p)) :
    Calls Ybaf.prog 12 #[.pointer (some ⟨s, 0, none⟩), .pointer (some ⟨t, 0, none⟩)] w fun e w' => ∃ x, e = .returned (.iface 77 x) ∧ Fr [t] w w' := by
  refine (head_any s b o cap p n t l ts0 w hn hl hp ho E r0 hts).mono ?_
  rintro e w' ⟨F, ts, r, z, hR⟩
  rw [h1.out] at hR
  rcases hR with ⟨_, x, hx⟩ | ⟨h, _⟩
  · exact ⟨x, hx, F⟩
  · exact absurd h h2.out
theorem head_ind (h2 : Hid (hk l p)) :
    Calls Ybaf.prog 12 #[.pointer (some ⟨s, 0, none⟩), .pointer (some ⟨t, 0, none⟩)] w fun e w' => e = .returned .nilIface ∧ Fr [t] w w' ∧ w'.cell? ⟨t, 7, none⟩ = some (.int .i64 (-1)) := by
  refine (head_any s b o cap p n t l ts0 w hn hl hp ho E r0 hts).mono ?_
  rintro e w' ⟨F, ts, r, z, hR⟩
  rw [hk_none h2.out] at hR
  rcases hR with ⟨h, _⟩ | ⟨_, he, h7⟩
  · exact absurd h2.out h
  · exact ⟨he, F, ts6 r h7⟩
theorem head_good {x : Int} {q : Nat} (h1 : Hid (hd l p = some (x, q))) :
    Calls Ybaf.prog 12 #[.pointer (some ⟨s, 0, none⟩), .pointer (some ⟨t, 0, none⟩)] w fun e w' => e = .returned .nilIface ∧ Fr [t] w w' ∧ w'.cell? ⟨t, 7, none⟩ = some (.int .i64 x) ∧ w'.cell? ⟨t, 6, none⟩ = some (.int .i64 ((q : Int) - p)) ∧ ∃ ts, w'.heap[t]? = some (.cells ts 41) ∧ ts.size = 10 := by
  refine (head_any s b o cap p n t l ts0 w hn hl hp ho E r0 hts).mono ?_
  rintro e w' ⟨F, ts, r, z, hR⟩
  rw [h1.out] at hR
  obtain ⟨he, h7, h6⟩ := hR
  exact ⟨he, F, ts6 r h7, ts6 r h6, ts, r, z⟩
end

theorem build34 (a : Option Addr) (n c : Nat) (p : Int) (w : World) : (Instr.build 34 #[(2, .slice a n c), (3, .int .i64 p)]).run Ybaf.prog w = .ok (.agg (scn (.slice a n c) p)) w := by kernel_rfl
theorem zero34 (w : World) : (zeroValue 34).run Ybaf.prog w = .ok (.agg (scn (.slice none 0 0) 0)) w := by kernel_rfl
theorem zero41 (w : World) : (zeroValue 41).run Ybaf.prog w = .ok (.agg (tlv (.int .u8 0) (.int .u64 0) (.bool false) 0 0 0 0)) w := by kernel_rfl
theorem size34 : (Ybaf.prog.info? 34).map (·.size) = some 9 := by kernel_rfl

set_option maxHeartbeats 400000 in
theorem count_zero (g : Nat) (sp er top : Value) (ao most : Int) (pk : Bool) (w : World) (r : w.heap[g]? = some (.cells (dec sp ao er pk 0 top) 56)) :
    Calls Ybaf.prog 7 #[.pointer (some ⟨g, 0, none⟩), .int .i64 most] w fun e w' => e = .returned (.int .i64 0) ∧ w' = w := by
  go_enter Ybaf.func7, Ybaf.ntmps7
  go_wp2_with (go_at_call 10; refine (len10 g 0 _ (dec15 r)).mono ?_; rintro e w5 ⟨rfl, rfl⟩)
  go_ret
  exact ⟨rfl, rfl⟩

set_option maxHeartbeats 400000 in
theorem count_err (g : Nat) (sp x top : Value) (t : TypeId) (ao most : Int) (w : World) (r : w.heap[g]? = some (.cells (dec sp ao (.iface t x) true 1 top) 56)) :
    Calls Ybaf.prog 7 #[.pointer (some ⟨g, 0, none⟩), .int .i64 most] w fun e w' => e = .returned (.int .i64 0) ∧ w' = w := by
  have d12 := dec12 r
  have d13 := dec13 r
  go_enter Ybaf.func7, Ybaf.ntmps7
  go_wp2_with (go_at_call 10; refine (len10 g 1 _ (dec15 r)).mono ?_; rintro e w5 ⟨rfl, rfl⟩)
  go_ret
  exact ⟨rfl, rfl⟩

theorem min2 (e : Int) (n : Nat) (w : World) : ∀ {o : Oper} {a : Act} {x y : Operand}, o.op = .call { callee := .builtin .min, args := #[x, y], argTypes := #[2, 2] } → o.type = 2 → a.eval x = .int .i64 e → a.eval y = .int .i64 n → (execOp a.eval o).run Ybaf.prog w = .ok (.value (.int .i64 (endOf e n))) w := by
  intro o a x y ho _ hx hy
  have h1 : (Builtin.min_ #[2, 2] o.type #[.int .i64 e, .int .i64 n]).run Ybaf.prog w = .ok (.int .i64 (endOf e n)) w := by rw [run_min_int2]; rfl
  simp [execOp, ho, resolve, invoke, builtin, hx, hy, h1]

def posOf (w : World) (b : Nat) : Nat := match w.cell? ⟨b, 3, none⟩ with | some (.int _ x) => x.toNat | _ => 0
theorem posOf_eq {w : World} {b q : Nat} {v : Value} (h : w.heap[b]? = some (.cells (scn v q) 34)) : posOf w b = q := by unfold posOf; rw [scn3 h]; simp

/-- what 'count' reads -/
structure Dc (w : World) (g sb eb : Nat) (a : Option Addr) (n cap p : Nat) (ao e : Int) (er : Value) (pk : Bool) : Prop where
  rg : w.heap[g]? = some (.cells (dec (.pointer (some ⟨sb, 0, none⟩)) ao er pk 1 (.slice (some ⟨eb, 0, none⟩) 1 1)) 56)
  rs : w.heap[sb]? = some (.cells (scn (.slice a n cap) p) 34)
  re : w.heap[eb]? = some (.cells #[.int .i64 0, .int .i64 e] 58)

theorem Dc.keep {w w' : World} {g sb eb : Nat} {a : Option Addr} {n cap p : Nat} {ao e : Int} {er : Value} {pk : Bool} (h : Dc w g sb eb a n cap p ao e er pk) (F : Fr [] w w') : Dc w' g sb eb a n cap p ao e er pk :=
  ⟨F.get h.rg (by simp), F.get h.rs (by simp), F.get h.re (by simp)⟩
theorem Dc.re1 {w : World} {g sb eb : Nat} {a : Option Addr} {n cap p : Nat} {ao e : Int} {er : Value} {pk : Bool} (h : Dc w g sb eb a n cap p ao e er pk) : w.cell? ⟨eb, 1, none⟩ = some (.int .i64 e) := by rw [cell_of_row w eb 1 _ _ _ h.re]; rfl

set_option maxHeartbeats 8000000 in
set_option maxRecDepth 100000 in
theorem count_peek (g sb eb cap p n ao : Nat) (a : Option Addr) (l : List Int) (e most : Int) (w : World) (hn : Hid (l.length = n)) (hl : n ≤ 1048576) (hp : ao ≤ n) (ho : Oct l) (hb : Bs w a l) (D : Dc w g sb eb a n cap p ao e .nilIface true) (hm0 : -9223372036854775808 ≤ most) (hm1 : most ≤ 9223372036854775807) (he0 : -9223372036854775808 ≤ e) :
    Calls Ybaf.prog 7 #[.pointer (some ⟨g, 0, none⟩), .int .i64 most] w fun e' w' => e' = .returned (.int .i64 (cw l (endOf e n) most n ao 0)) ∧ Fr [] w w' := by
  obtain ⟨E, hE⟩ : ∃ E, E = endOf e n := ⟨_, rfl⟩
  have hEn : E ≤ n := by rw [hE]; unfold endOf; split <;> omega
  have hE0 : -9223372036854775808 ≤ E := by rw [hE]; unfold endOf; split <;> omega
  rw [← hE]
  replace hE : Hid (E = endOf e n) := hE
  replace ho : Hid (Oct l) := ho
  have d12 := dec12 D.rg
  have d13 := dec13 D.rg
  go_enter Ybaf.func7, Ybaf.ntmps7
  go_wp2_with (go_at_call 10; refine (len10 g 1 _ (dec15 D.rg)).mono ?_; rintro e w5 ⟨rfl, hw5⟩; have hw6 := hw5.symm; subst hw6)
  have hS := D.keep (Fr.drew w)
  refine any_begin (fun w' => Dc w' g sb eb a n cap p ao e .nilIface true) (by kernel_rfl) hS ?_
  refine any_take 0 rfl (some 27) rfl (by kernel_rfl) (by kernel_rfl) (by kernel_rfl) rfl (.pointer (some ⟨g, 0, none⟩)) (fun _ _ _ h => h) (fun _ _ => rfl) hS ?_
  simp only [Act.put, List.setIfInBounds_toArray, List.set_cons_zero, List.set_cons_succ]
  refine any_take 1 rfl (some 28) rfl (by kernel_rfl) (by kernel_rfl) (by kernel_rfl) rfl (.pointer (some ⟨g, 0, none⟩)) (fun _ _ _ h => h) (fun _ _ => by first | rfl | kernel_rfl) hS ?_
  simp only [Act.put, List.setIfInBounds_toArray, List.set_cons_zero, List.set_cons_succ]
  refine any_take 2 rfl (some 29) rfl (by kernel_rfl) (by kernel_rfl) (by kernel_rfl) rfl (.pointer (some ⟨g, 0, none⟩)) (fun _ _ _ h => h) (fun _ _ => by first | rfl | kernel_rfl) hS ?_
  simp only [Act.put, List.setIfInBounds_toArray, List.set_cons_zero, List.set_cons_succ]
  refine any_load_cell 3 rfl (some 30) rfl (by kernel_rfl) (by kernel_rfl) (by kernel_rfl) rfl (.pointer (some ⟨sb, 0, none⟩)) (fun _ _ _ h => h) 28 (.tmp 29) rfl ⟨g, 0, none⟩ rfl (fun w h => dec0 h.rg) _ Ybaf.underlying28 rfl hS ?_
  simp only [Act.put, List.setIfInBounds_toArray, List.set_cons_zero, List.set_cons_succ]
  refine any_take 4 rfl (some 31) rfl (by kernel_rfl) (by kernel_rfl) (by kernel_rfl) rfl (.pointer (some ⟨sb, 0, none⟩)) (fun _ _ _ h => h) (fun _ _ => by first | rfl | kernel_rfl) hS ?_
  simp only [Act.put, List.setIfInBounds_toArray, List.set_cons_zero, List.set_cons_succ]
  refine any_take 5 rfl (some 32) rfl (by kernel_rfl) (by kernel_rfl) (by kernel_rfl) rfl (.pointer (some ⟨sb, 2, none⟩)) (fun _ _ _ h => h) (fun _ _ => by first | rfl | kernel_rfl) hS ?_
  simp only [Act.put, List.setIfInBounds_toArray, List.set_cons_zero, List.set_cons_succ]
  refine any_load_cell 6 rfl (some 33) rfl (by kernel_rfl) (by kernel_rfl) (by kernel_rfl) rfl (.slice a n cap) (fun _ _ _ h => h) 22 (.tmp 32) rfl ⟨sb, 2, none⟩ rfl (fun w h => scn2 h.rs) _ Ybaf.underlying22 rfl hS ?_
  simp only [Act.put, List.setIfInBounds_toArray, List.set_cons_zero, List.set_cons_succ]
  refine any_take 7 rfl (some 34) rfl (by kernel_rfl) (by kernel_rfl) (by kernel_rfl) rfl (.pointer (some ⟨g, 0, none⟩)) (fun _ _ _ h => h) (fun _ _ => rfl) hS ?_
  simp only [Act.put, List.setIfInBounds_toArray, List.set_cons_zero, List.set_cons_succ]
  refine any_take 8 rfl (some 35) rfl (by kernel_rfl) (by kernel_rfl) (by kernel_rfl) rfl (.pointer (some ⟨g, 0, none⟩)) (fun _ _ _ h => h) (fun _ _ => by first | rfl | kernel_rfl) hS ?_
  simp only [Act.put, List.setIfInBounds_toArray, List.set_cons_zero, List.set_cons_succ]
  refine any_take 9 rfl (some 36) rfl (by kernel_rfl) (by kernel_rfl) (by kernel_rfl) rfl (.pointer (some ⟨g, 0, none⟩)) (fun _ _ _ h => h) (fun _ _ => by first | rfl | kernel_rfl) hS ?_
  simp only [Act.put, List.setIfInBounds_toArray, List.set_cons_zero, List.set_cons_succ]
  refine any_load_cell 10 rfl (some 37) rfl (by kernel_rfl) (by kernel_rfl) (by kernel_rfl) rfl (.pointer (some ⟨sb, 0, none⟩)) (fun _ _ _ h => h) 28 (.tmp 36) rfl ⟨g, 0, none⟩ rfl (fun w h => dec0 h.rg) _ Ybaf.underlying28 rfl hS ?_
  simp only [Act.put, List.setIfInBounds_toArray, List.set_cons_zero, List.set_cons_succ]
  refine any_take 11 rfl (some 38) rfl (by kernel_rfl) (by kernel_rfl) (by kernel_rfl) rfl (.pointer (some ⟨sb, 0, none⟩)) (fun _ _ _ h => h) (fun _ _ => by first | rfl | kernel_rfl) hS ?_
  simp only [Act.put, List.setIfInBounds_toArray, List.set_cons_zero, List.set_cons_succ]
  refine any_take 12 rfl (some 39) rfl (by kernel_rfl) (by kernel_rfl) (by kernel_rfl) rfl (.pointer (some ⟨sb, 3, none⟩)) (fun _ _ _ h => h) (fun _ _ => by first | rfl | kernel_rfl) hS ?_
  simp only [Act.put, List.setIfInBounds_toArray, List.set_cons_zero, List.set_cons_succ]
  refine any_load_cell 13 rfl (some 40) rfl (by kernel_rfl) (by kernel_rfl) (by kernel_rfl) rfl (.int .i64 p) (fun _ _ _ h => h) 2 (.tmp 39) rfl ⟨sb, 3, none⟩ rfl (fun w h => scn3 h.rs) _ Ybaf.underlying2 rfl hS ?_
  simp only [Act.put, List.setIfInBounds_toArray, List.set_cons_zero, List.set_cons_succ]
  refine any_take 14 rfl (some 41) rfl (by kernel_rfl) (by kernel_rfl) (by kernel_rfl) rfl (.agg (scn (.slice a n cap) p)) (fun _ _ _ h => h) (fun w _ => exec_build (parts := [(2, .tmp 33), (3, .tmp 40)]) (vs := [(2, .slice a n cap), (3, .int .i64 p)]) rfl rfl (build34 a n cap p w)) hS ?_
  simp only [Act.put, List.setIfInBounds_toArray, List.set_cons_zero, List.set_cons_succ]
  refine any_alloc 15 rfl (by kernel_rfl) rfl 34 rfl (some 5) rfl _ (scn (.slice none 0 0) 0) (zero34 _) rfl ?_
  intro pb w1 e1 F1 r1
  have D1 := hS.keep F1
  refine ⟨D1, ?_⟩
  simp only [Act.put, List.setIfInBounds_toArray, List.set_cons_zero, List.set_cons_succ]
  refine any_store_arr 16 rfl (by kernel_rfl) rfl 34 (.tmp 5) (.tmp 41) rfl pb (scn (.slice a n cap) p) rfl rfl 34 _ r1 size34 rfl (by simp [scn, Value.oneCell']) ?_
  intro w2 F2 r2 z2
  have hpb : Hid (w.heap.size ≤ pb) := by show _ ≤ _; rw [e1.out]; exact Nat.le_refl _
  replace F1 : Fr [] w w1 := (Fr.drew w).trans0 F1
  have D2 : Dc w2 g sb eb a n cap p ao e .nilIface true := D.keep (F1.trans1 F2 (.inr hpb.out))
  refine ⟨D2, ?_⟩
  simp only [Act.put]
  refine any_done (by kernel_rfl) ?_
  have G2 : Fr [] w w2 := F1.trans1 F2 (.inr hpb.out)
  clear hS D1 F1 F2 r1 e1 z2
  have d132 := dec13 D2.rg
  have d42 := dec4 D2.rg
  go_wp2_with (refine wpList_store_cell rfl 2 (.tmp 51) (.tmp 50) rfl pb 3 (.int .i64 ao) rfl rfl rfl 34 _ r2 (show 3 < 9 by decide) size2 ?_; intro w3 F3 r3' z3; have r3 : w3.heap[pb]? = some (.cells (scn (.slice a n cap) ao) 34) := r3'; clear r3' z3)
  have G3 : Fr [] w w3 := G2.trans1 F3 (.inr hpb.out)
  have D3 : Dc w3 g sb eb a n cap p ao e .nilIface true := D.keep G3
  clear F3 r2 G2 D2 d132 d42
  have hS := D3.keep (Fr.drew w3)
  refine any_begin (fun w' => Dc w' g sb eb a n cap p ao e .nilIface true) (by kernel_rfl) hS ?_
  refine any_take 0 rfl (some 52) rfl (by kernel_rfl) (by kernel_rfl) (by kernel_rfl) rfl (.pointer (some ⟨g, 0, none⟩)) (fun _ _ _ h => h) (fun _ _ => rfl) hS ?_
  simp only [Act.put, List.setIfInBounds_toArray, List.set_cons_zero, List.set_cons_succ]
  refine any_take 1 rfl (some 53) rfl (by kernel_rfl) (by kernel_rfl) (by kernel_rfl) rfl (.pointer (some ⟨g, 0, none⟩)) (fun _ _ _ h => h) (fun _ _ => by first | rfl | kernel_rfl) hS ?_
  simp only [Act.put, List.setIfInBounds_toArray, List.set_cons_zero, List.set_cons_succ]
  refine any_take 2 rfl (some 54) rfl (by kernel_rfl) (by kernel_rfl) (by kernel_rfl) rfl (.pointer (some ⟨g, 14, none⟩)) (fun _ _ _ h => h) (fun _ _ => by first | rfl | kernel_rfl) hS ?_
  simp only [Act.put, List.setIfInBounds_toArray, List.set_cons_zero, List.set_cons_succ]
  refine any_take 7 rfl (some 59) rfl (by kernel_rfl) (by kernel_rfl) (by kernel_rfl) rfl (.pointer (some ⟨g, 0, none⟩)) (fun _ _ _ h => h) (fun _ _ => rfl) hS ?_
  simp only [Act.put, List.setIfInBounds_toArray, List.set_cons_zero, List.set_cons_succ]
  refine any_take 8 rfl (some 60) rfl (by kernel_rfl) (by kernel_rfl) (by kernel_rfl) rfl (.pointer (some ⟨g, 0, none⟩)) (fun _ _ _ h => h) (fun _ _ => by first | rfl | kernel_rfl) hS ?_
  simp only [Act.put, List.setIfInBounds_toArray, List.set_cons_zero, List.set_cons_succ]
  refine any_take 9 rfl (some 61) rfl (by kernel_rfl) (by kernel_rfl) (by kernel_rfl) rfl (.pointer (some ⟨g, 0, none⟩)) (fun _ _ _ h => h) (fun _ _ => by first | rfl | kernel_rfl) hS ?_
  simp only [Act.put, List.setIfInBounds_toArray, List.set_cons_zero, List.set_cons_succ]
  refine any_load_cell 10 rfl (some 62) rfl (by kernel_rfl) (by kernel_rfl) (by kernel_rfl) rfl (.pointer (some ⟨sb, 0, none⟩)) (fun _ _ _ h => h) 28 (.tmp 61) rfl ⟨g, 0, none⟩ rfl (fun w h => dec0 h.rg) _ Ybaf.underlying28 rfl hS ?_
  simp only [Act.put, List.setIfInBounds_toArray, List.set_cons_zero, List.set_cons_succ]
  refine any_take 11 rfl (some 63) rfl (by kernel_rfl) (by kernel_rfl) (by kernel_rfl) rfl (.pointer (some ⟨sb, 0, none⟩)) (fun _ _ _ h => h) (fun _ _ => by first | rfl | kernel_rfl) hS ?_
  simp only [Act.put, List.setIfInBounds_toArray, List.set_cons_zero, List.set_cons_succ]
  refine any_take 12 rfl (some 64) rfl (by kernel_rfl) (by kernel_rfl) (by kernel_rfl) rfl (.pointer (some ⟨sb, 2, none⟩)) (fun _ _ _ h => h) (fun _ _ => by first | rfl | kernel_rfl) hS ?_
  simp only [Act.put, List.setIfInBounds_toArray, List.set_cons_zero, List.set_cons_succ]
  refine any_load_cell 13 rfl (some 65) rfl (by kernel_rfl) (by kernel_rfl) (by kernel_rfl) rfl (.slice a n cap) (fun _ _ _ h => h) 22 (.tmp 64) rfl ⟨sb, 2, none⟩ rfl (fun w h => scn2 h.rs) _ Ybaf.underlying22 rfl hS ?_
  simp only [Act.put, List.setIfInBounds_toArray, List.set_cons_zero, List.set_cons_succ]
  refine any_take 14 rfl (some 66) rfl (by kernel_rfl) (by kernel_rfl) (by kernel_rfl) rfl (.int .i64 n) (fun _ _ _ h => h) (fun _ _ => by first | rfl | kernel_rfl) hS ?_
  simp only [Act.put, List.setIfInBounds_toArray, List.set_cons_zero, List.set_cons_succ]
  refine any_call 3 rfl (by kernel_rfl) rfl (some 55) rfl 11 _ _ rfl _ Ybaf.func11 (by kernel_rfl) (by kernel_rfl) [.pointer (some ⟨g, 14, none⟩)] rfl ((top11 g eb _ (dec16 hS.rg)).mono ?_)
  rintro e' w4 ⟨rfl, F4⟩
  have D4 := hS.keep F4
  refine ⟨_, rfl, D4, ?_⟩
  simp only [Act.put, List.setIfInBounds_toArray, List.set_cons_zero, List.set_cons_succ]
  refine any_take 4 rfl (some 56) rfl (by kernel_rfl) (by kernel_rfl) (by kernel_rfl) rfl (.pointer (some ⟨eb, 0, none⟩)) (fun _ _ _ h => h) (fun _ _ => by first | rfl | kernel_rfl) D4 ?_
  simp only [Act.put, List.setIfInBounds_toArray, List.set_cons_zero, List.set_cons_succ]
  refine any_take 5 rfl (some 57) rfl (by kernel_rfl) (by kernel_rfl) (by kernel_rfl) rfl (.pointer (some ⟨eb, 1, none⟩)) (fun _ _ _ h => h) (fun _ _ => by first | rfl | kernel_rfl) D4 ?_
  simp only [Act.put, List.setIfInBounds_toArray, List.set_cons_zero, List.set_cons_succ]
  refine any_load_cell 6 rfl (some 58) rfl (by kernel_rfl) (by kernel_rfl) (by kernel_rfl) rfl (.int .i64 e) (fun _ _ _ h => h) 2 (.tmp 57) rfl ⟨eb, 1, none⟩ rfl (fun w h => h.re1) _ Ybaf.underlying2 rfl D4 ?_
  simp only [Act.put, List.setIfInBounds_toArray, List.set_cons_zero, List.set_cons_succ]
  refine any_take 15 rfl (some 67) rfl (by kernel_rfl) (by kernel_rfl) (by kernel_rfl) rfl (.int .i64 E) (fun _ _ _ h => h) (fun w _ => by rw [hE.out]; exact min2 e n w rfl rfl rfl rfl) D4 ?_
  simp only [Act.put, List.setIfInBounds_toArray, List.set_cons_zero, List.set_cons_succ]
  refine any_take 16 rfl (some 6) rfl (by kernel_rfl) (by kernel_rfl) (by kernel_rfl) rfl (.int .i64 E) (fun _ _ _ h => h) (fun _ _ => rfl) D4 ?_
  simp only [Act.put, List.setIfInBounds_toArray, List.set_cons_zero, List.set_cons_succ]
  refine any_done (by kernel_rfl) ?_
  have G4 : Fr [] w w4 := (G3.trans0 (Fr.drew w3)).trans0 F4
  have r4 := ((Fr.drew w3).trans0 F4).get r3 (by simp)
  clear hS D3 D4 F4 G3 r3
  go_wp2_with (refine wpList_alloc rfl 41 rfl (some 8) rfl _ _ (zero41 _) rfl ?_; intro tb w6 e6 F6 r6 z6)
  have htb : Hid (w.heap.size ≤ tb) := by show _ ≤ _; rw [e6.out]; exact G4.size
  have hpt : pb ≠ tb := by have h1 := e6.out; have h2 := lt_of_get r4; omega
  have G6 := G4.trans0 F6
  have rp6 := F6.get r4 (by simp)
  obtain ⟨ts, hts, r6⟩ : ∃ ts : Array Value, ts.size = 10 ∧ w6.heap[tb]? = some (.cells ts 41) := ⟨_, rfl, r6⟩
  clear e6 F6 z6 r4 G4 hE d12 d13 D
  go_frame
  go_loopw [7] (fun s7 wr => ∃ (c : Int) (q f : Nat) (ts : Array Value), 0 ≤ c ∧ c ≤ q ∧ q ≤ n ∧ s7 = .int .i64 c ∧ Hid (n ≤ f + q) ∧ Hid (cw l E most n ao 0 = cw l E most f q c) ∧ Fr [] w wr ∧ wr.heap[pb]? = some (.cells (scn (.slice a n cap) q) 34) ∧ wr.heap[tb]? = some (.cells ts 41) ∧ ts.size = 10) (fun _ wr => n - posOf wr pb)
  case atStart => exact ⟨0, ao, n, ts, by omega, by omega, by omega, rfl, Nat.le_add_right n _, rfl, G6, rp6, r6, hts⟩
  case round =>
    clear G6 rp6 r6 hts ts
    obtain ⟨c, q, f, ts, hc0, hcq, hq, rfl, hf, hH, G, rp, rt, hts⟩ := hrel
    have cp := scn3 rp
    by_cases hcm : c < most
    · by_cases hqE : (q : Int) < E
      · have hqn : q < n := by omega
        obtain ⟨b, o, rfl, hB⟩ := hb.resolve_left (by intro h; have := hn.out; rw [h] at this; simp at this; omega)
        obtain ⟨f', rfl⟩ : ∃ f', f = f' + 1 := ⟨f - 1, by have := hf.out; omega⟩
        have hbw : b < w.heap.size := by obtain ⟨c0, hc0⟩ := at_lt hn.out hqn; exact block_lt_of_cell (hB q c0 hc0)
        have EN : Env wr pb b o cap n q tb l := ⟨rp, hB.keep G (by simp), hpt, by have := htb.out; omega⟩
        by_cases hind : hk l q
        · have hR : Hid (cw l E most n ao 0 = c) := hH.out.trans (cw_none (hk_none hind))
          replace hind : Hid (hk l q) := hind
          clear hH hf hb
          go_wp2_with (go_at_call 12; refine (head_ind pb b o cap q n tb l ts _ hn hl hqn ho.out EN rt hts hind).mono ?_; rintro e' w7 ⟨rfl, F7, t7⟩)
          go_ret
          rw [hR.out]
          exact ⟨rfl, G.trans1 F7 (.inr htb.out)⟩
        · cases hhd : hd l q with
          | none =>
            have hR : Hid (cw l E most n ao 0 = c) := hH.out.trans (cw_none hhd)
            replace hhd : Hid (hd l q = none) := hhd
            replace hind : Hid (¬ hk l q) := hind
            clear hH hf hb
            go_wp2_with (go_at_call 12; refine (head_bad pb b o cap q n tb l ts _ hn hl hqn ho.out EN rt hts hhd hind).mono ?_; rintro e' w7 ⟨x, rfl, F7⟩)
            go_ret
            rw [hR.out]
            exact ⟨rfl, G.trans1 F7 (.inr htb.out)⟩
          | some xq =>
            obtain ⟨x, q1⟩ := xq
            obtain ⟨hx0, hx1, hx2⟩ := hd_pos ho.out hhd
            rw [hn.out] at hx2
            have hxm : x ≤ 9223372036854775807 := hd_max ho.out hhd
            have hxi : (x == -1) = false := by simp; omega
            by_cases hbig : E - (q : Int) - ((q1 : Int) - q) < x
            · have hR : Hid (cw l E most n ao 0 = c) := hH.out.trans (cw_big hhd hbig)
              replace hhd : Hid (hd l q = some (x, q1)) := hhd
              clear hH hf hb hind
              go_wp2_with (go_at_call 12; refine (head_good pb b o cap q n tb l ts _ hn hl hqn ho.out EN rt hts hhd).mono ?_; rintro e' w7 ⟨rfl, F7, t7, t6, ts7, rt7, hts7⟩; have cp7 := F7.cell cp (by simpa using hpt))
              go_ret
              rw [hR.out]
              exact ⟨rfl, G.trans1 F7 (.inr htb.out)⟩
            · have hR : Hid (cw l E most n ao 0 = cw l E most f' (q1 + x.toNat) (c + 1)) := hH.out.trans (cw_step hcm hqE hhd hbig)
              replace hhd : Hid (hd l q = some (x, q1)) := hhd
              obtain ⟨y, rfl⟩ : ∃ y : Nat, x = y := ⟨x.toNat, by omega⟩
              have hty : ((y : Int)).toNat = y := by omega
              rw [hty] at hR
              clear hH hb hty hind
              go_wp2_with (first
                | (go_at_call 12; refine (head_good pb b o cap q n tb l ts _ hn hl hqn ho.out EN rt hts hhd).mono ?_; rintro e' w7 ⟨rfl, F7, t7, t6, ts7, rt7, hts7⟩; have cp7 := F7.cell cp (by simpa using hpt); have rp7 := F7.get rp (by simpa using hpt))
                | (refine wpList_store_cell rfl 2 (.tmp 104) (.tmp 103) rfl pb 3 (.int .i64 ((q : Int) + ((q1 : Int) - q + y))) rfl rfl rfl 34 _ rp7 (show 3 < 9 by decide) size2 ?_; intro w8 F8 rp8' z8; have rp8 : w8.heap[pb]? = some (.cells (scn (.slice (some ⟨b, o, none⟩) n cap) ((q : Int) + ((q1 : Int) - q + y))) 34) := rp8'; have rt8 := F8.get rt7 (by simpa using hpt.symm); clear rp8' z8))
              have eq : ((q : Int) + ((q1 : Int) - q + y)) = ((q1 + y : Nat) : Int) := by omega
              rw [eq] at rp8
              go_roundw
              case rel => exact ⟨c + 1, q1 + y, f', ts7, by omega, by omega, by omega, rfl, by have := hf.out; show n ≤ _; omega, hR, (G.trans1 F7 (.inr htb.out)).trans1 F8 (.inr hpb.out), rp8, rt8, hts7⟩
              case measure => rw [posOf_eq rp8, posOf_eq rp]; omega
      · have hR : Hid (cw l E most n ao 0 = c) := hH.out.trans (cw_stop (by omega))
        clear hH
        go_wp2
        go_ret
        rw [hR.out]
        exact ⟨rfl, G⟩
    · have hR : Hid (cw l E most n ao 0 = c) := hH.out.trans (cw_stop (by omega))
      clear hH
      go_wp2
      go_ret
      rw [hR.out]
      exact ⟨rfl, G⟩

set_option maxHeartbeats 8000000 in
set_option maxRecDepth 100000 in
theorem count_plain (g sb eb cap p n ao : Nat) (a : Option Addr) (l : List Int) (e most : Int) (er : Value) (w : World) (hn : Hid (l.length = n)) (hl : n ≤ 1048576) (hp : p ≤ n) (ho : Oct l) (hb : Bs w a l) (D : Dc w g sb eb a n cap p ao e er false) (hm0 : -9223372036854775808 ≤ most) (hm1 : most ≤ 9223372036854775807) (he0 : -9223372036854775808 ≤ e) :
    Calls Ybaf.prog 7 #[.pointer (some ⟨g, 0, none⟩), .int .i64 most] w fun e' w' => e' = .returned (.int .i64 (cw l (endOf e n) most n p 0)) ∧ Fr [] w w' := by
  obtain ⟨E, hE⟩ : ∃ E, E = endOf e n := ⟨_, rfl⟩
  have hEn : E ≤ n := by rw [hE]; unfold endOf; split <;> omega
  have hE0 : -9223372036854775808 ≤ E := by rw [hE]; unfold endOf; split <;> omega
  rw [← hE]
  replace hE : Hid (E = endOf e n) := hE
  replace ho : Hid (Oct l) := ho
  have d13 := dec13 D.rg
  go_enter Ybaf.func7, Ybaf.ntmps7
  go_wp2_with (go_at_call 10; refine (len10 g 1 _ (dec15 D.rg)).mono ?_; rintro e w5 ⟨rfl, hw5⟩; have hw6 := hw5.symm; subst hw6)
  have hS := D.keep (Fr.drew w)
  refine any_begin (fun w' => Dc w' g sb eb a n cap p ao e er false) (by kernel_rfl) hS ?_
  refine any_take 0 rfl (some 27) rfl (by kernel_rfl) (by kernel_rfl) (by kernel_rfl) rfl (.pointer (some ⟨g, 0, none⟩)) (fun _ _ _ h => h) (fun _ _ => rfl) hS ?_
  simp only [Act.put, List.setIfInBounds_toArray, List.set_cons_zero, List.set_cons_succ]
  refine any_take 1 rfl (some 28) rfl (by kernel_rfl) (by kernel_rfl) (by kernel_rfl) rfl (.pointer (some ⟨g, 0, none⟩)) (fun _ _ _ h => h) (fun _ _ => by first | rfl | kernel_rfl) hS ?_
  simp only [Act.put, List.setIfInBounds_toArray, List.set_cons_zero, List.set_cons_succ]
  refine any_take 2 rfl (some 29) rfl (by kernel_rfl) (by kernel_rfl) (by kernel_rfl) rfl (.pointer (some ⟨g, 0, none⟩)) (fun _ _ _ h => h) (fun _ _ => by first | rfl | kernel_rfl) hS ?_
  simp only [Act.put, List.setIfInBounds_toArray, List.set_cons_zero, List.set_cons_succ]
  refine any_load_cell 3 rfl (some 30) rfl (by kernel_rfl) (by kernel_rfl) (by kernel_rfl) rfl (.pointer (some ⟨sb, 0, none⟩)) (fun _ _ _ h => h) 28 (.tmp 29) rfl ⟨g, 0, none⟩ rfl (fun w h => dec0 h.rg) _ Ybaf.underlying28 rfl hS ?_
  simp only [Act.put, List.setIfInBounds_toArray, List.set_cons_zero, List.set_cons_succ]
  refine any_take 4 rfl (some 31) rfl (by kernel_rfl) (by kernel_rfl) (by kernel_rfl) rfl (.pointer (some ⟨sb, 0, none⟩)) (fun _ _ _ h => h) (fun _ _ => by first | rfl | kernel_rfl) hS ?_
  simp only [Act.put, List.setIfInBounds_toArray, List.set_cons_zero, List.set_cons_succ]
  refine any_take 5 rfl (some 32) rfl (by kernel_rfl) (by kernel_rfl) (by kernel_rfl) rfl (.pointer (some ⟨sb, 2, none⟩)) (fun _ _ _ h => h) (fun _ _ => by first | rfl | kernel_rfl) hS ?_
  simp only [Act.put, List.setIfInBounds_toArray, List.set_cons_zero, List.set_cons_succ]
  refine any_load_cell 6 rfl (some 33) rfl (by kernel_rfl) (by kernel_rfl) (by kernel_rfl) rfl (.slice a n cap) (fun _ _ _ h => h) 22 (.tmp 32) rfl ⟨sb, 2, none⟩ rfl (fun w h => scn2 h.rs) _ Ybaf.underlying22 rfl hS ?_
  simp only [Act.put, List.setIfInBounds_toArray, List.set_cons_zero, List.set_cons_succ]
  refine any_take 7 rfl (some 34) rfl (by kernel_rfl) (by kernel_rfl) (by kernel_rfl) rfl (.pointer (some ⟨g, 0, none⟩)) (fun _ _ _ h => h) (fun _ _ => rfl) hS ?_
  simp only [Act.put, List.setIfInBounds_toArray, List.set_cons_zero, List.set_cons_succ]
  refine any_take 8 rfl (some 35) rfl (by kernel_rfl) (by kernel_rfl) (by kernel_rfl) rfl (.pointer (some ⟨g, 0, none⟩)) (fun _ _ _ h => h) (fun _ _ => by first | rfl | kernel_rfl) hS ?_
  simp only [Act.put, List.setIfInBounds_toArray, List.set_cons_zero, List.set_cons_succ]
  refine any_take 9 rfl (some 36) rfl (by kernel_rfl) (by kernel_rfl) (by kernel_rfl) rfl (.pointer (some ⟨g, 0, none⟩)) (fun _ _ _ h => h) (fun _ _ => by first | rfl | kernel_rfl) hS ?_
  simp only [Act.put, List.setIfInBounds_toArray, List.set_cons_zero, List.set_cons_succ]
  refine any_load_cell 10 rfl (some 37) rfl (by kernel_rfl) (by kernel_rfl) (by kernel_rfl) rfl (.pointer (some ⟨sb, 0, none⟩)) (fun _ _ _ h => h) 28 (.tmp 36) rfl ⟨g, 0, none⟩ rfl (fun w h => dec0 h.rg) _ Ybaf.underlying28 rfl hS ?_
  simp only [Act.put, List.setIfInBounds_toArray, List.set_cons_zero, List.set_cons_succ]
  refine any_take 11 rfl (some 38) rfl (by kernel_rfl) (by kernel_rfl) (by kernel_rfl) rfl (.pointer (some ⟨sb, 0, none⟩)) (fun _ _ _ h => h) (fun _ _ => by first | rfl | kernel_rfl) hS ?_
  simp only [Act.put, List.setIfInBounds_toArray, List.set_cons_zero, List.set_cons_succ]
  refine any_take 12 rfl (some 39) rfl (by kernel_rfl) (by kernel_rfl) (by kernel_rfl) rfl (.pointer (some ⟨sb, 3, none⟩)) (fun _ _ _ h => h) (fun _ _ => by first | rfl | kernel_rfl) hS ?_
  simp only [Act.put, List.setIfInBounds_toArray, List.set_cons_zero, List.set_cons_succ]
  refine any_load_cell 13 rfl (some 40) rfl (by kernel_rfl) (by kernel_rfl) (by kernel_rfl) rfl (.int .i64 p) (fun _ _ _ h => h) 2 (.tmp 39) rfl ⟨sb, 3, none⟩ rfl (fun w h => scn3 h.rs) _ Ybaf.underlying2 rfl hS ?_
  simp only [Act.put, List.setIfInBounds_toArray, List.set_cons_zero, List.set_cons_succ]
  refine any_take 14 rfl (some 41) rfl (by kernel_rfl) (by kernel_rfl) (by kernel_rfl) rfl (.agg (scn (.slice a n cap) p)) (fun _ _ _ h => h) (fun w _ => exec_build (parts := [(2, .tmp 33), (3, .tmp 40)]) (vs := [(2, .slice a n cap), (3, .int .i64 p)]) rfl rfl (build34 a n cap p w)) hS ?_
  simp only [Act.put, List.setIfInBounds_toArray, List.set_cons_zero, List.set_cons_succ]
  refine any_alloc 15 rfl (by kernel_rfl) rfl 34 rfl (some 5) rfl _ (scn (.slice none 0 0) 0) (zero34 _) rfl ?_
  intro pb w1 e1 F1 r1
  have D1 := hS.keep F1
  refine ⟨D1, ?_⟩
  simp only [Act.put, List.setIfInBounds_toArray, List.set_cons_zero, List.set_cons_succ]
  refine any_store_arr 16 rfl (by kernel_rfl) rfl 34 (.tmp 5) (.tmp 41) rfl pb (scn (.slice a n cap) p) rfl rfl 34 _ r1 size34 rfl (by simp [scn, Value.oneCell']) ?_
  intro w2 F2 r2 z2
  have hpb : Hid (w.heap.size ≤ pb) := by show _ ≤ _; rw [e1.out]; exact Nat.le_refl _
  replace F1 : Fr [] w w1 := (Fr.drew w).trans0 F1
  have D2 : Dc w2 g sb eb a n cap p ao e er false := D.keep (F1.trans1 F2 (.inr hpb.out))
  refine ⟨D2, ?_⟩
  simp only [Act.put]
  refine any_done (by kernel_rfl) ?_
  have G2 : Fr [] w w2 := F1.trans1 F2 (.inr hpb.out)
  clear hS D1 F1 F2 r1 e1 z2
  have d132 := dec13 D2.rg
  go_wp2
  obtain ⟨w3, rfl⟩ : ∃ w3, w3 = w2 := ⟨_, rfl⟩
  have G3 := G2
  have D3 := D2
  have r3 := r2
  clear r2 G2 D2 d132
  have hS := D3.keep (Fr.drew w3)
  refine any_begin (fun w' => Dc w' g sb eb a n cap p ao e er false) (by kernel_rfl) hS ?_
  refine any_take 0 rfl (some 52) rfl (by kernel_rfl) (by kernel_rfl) (by kernel_rfl) rfl (.pointer (some ⟨g, 0, none⟩)) (fun _ _ _ h => h) (fun _ _ => rfl) hS ?_
  simp only [Act.put, List.setIfInBounds_toArray, List.set_cons_zero, List.set_cons_succ]
  refine any_take 1 rfl (some 53) rfl (by kernel_rfl) (by kernel_rfl) (by kernel_rfl) rfl (.pointer (some ⟨g, 0, none⟩)) (fun _ _ _ h => h) (fun _ _ => by first | rfl | kernel_rfl) hS ?_
  simp only [Act.put, List.setIfInBounds_toArray, List.set_cons_zero, List.set_cons_succ]
  refine any_take 2 rfl (some 54) rfl (by kernel_rfl) (by kernel_rfl) (by kernel_rfl) rfl (.pointer (some ⟨g, 14, none⟩)) (fun _ _ _ h => h) (fun _ _ => by first | rfl | kernel_rfl) hS ?_
  simp only [Act.put, List.setIfInBounds_toArray, List.set_cons_zero, List.set_cons_succ]
  refine any_take 7 rfl (some 59) rfl (by kernel_rfl) (by kernel_rfl) (by kernel_rfl) rfl (.pointer (some ⟨g, 0, none⟩)) (fun _ _ _ h => h) (fun _ _ => rfl) hS ?_
  simp only [Act.put, List.setIfInBounds_toArray, List.set_cons_zero, List.set_cons_succ]
  refine any_take 8 rfl (some 60) rfl (by kernel_rfl) (by kernel_rfl) (by kernel_rfl) rfl (.pointer (some ⟨g, 0, none⟩)) (fun _ _ _ h => h) (fun _ _ => by first | rfl | kernel_rfl) hS ?_
  simp only [Act.put, List.setIfInBounds_toArray, List.set_cons_zero, List.set_cons_succ]
  refine any_take 9 rfl (some 61) rfl (by kernel_rfl) (by kernel_rfl) (by kernel_rfl) rfl (.pointer (some ⟨g, 0, none⟩)) (fun _ _ _ h => h) (fun _ _ => by first | rfl | kernel_rfl) hS ?_
  simp only [Act.put, List.setIfInBounds_toArray, List.set_cons_zero, List.set_cons_succ]
  refine any_load_cell 10 rfl (some 62) rfl (by kernel_rfl) (by kernel_rfl) (by kernel_rfl) rfl (.pointer (some ⟨sb, 0, none⟩)) (fun _ _ _ h => h) 28 (.tmp 61) rfl ⟨g, 0, none⟩ rfl (fun w h => dec0 h.rg) _ Ybaf.underlying28 rfl hS ?_
  simp only [Act.put, List.setIfInBounds_toArray, List.set_cons_zero, List.set_cons_succ]
  refine any_take 11 rfl (some 63) rfl (by kernel_rfl) (by kernel_rfl) (by kernel_rfl) rfl (.pointer (some ⟨sb, 0, none⟩)) (fun _ _ _ h => h) (fun _ _ => by first | rfl | kernel_rfl) hS ?_
  simp only [Act.put, List.setIfInBounds_toArray, List.set_cons_zero, List.set_cons_succ]
  refine any_take 12 rfl (some 64) rfl (by kernel_rfl) (by kernel_rfl) (by kernel_rfl) rfl (.pointer (some ⟨sb, 2, none⟩)) (fun _ _ _ h => h) (fun _ _ => by first | rfl | kernel_rfl) hS ?_
  simp only [Act.put, List.setIfInBounds_toArray, List.set_cons_zero, List.set_cons_succ]
  refine any_load_cell 13 rfl (some 65) rfl (by kernel_rfl) (by kernel_rfl) (by kernel_rfl) rfl (.slice a n cap) (fun _ _ _ h => h) 22 (.tmp 64) rfl ⟨sb, 2, none⟩ rfl (fun w h => scn2 h.rs) _ Ybaf.underlying22 rfl hS ?_
  simp only [Act.put, List.setIfInBounds_toArray, List.set_cons_zero, List.set_cons_succ]
  refine any_take 14 rfl (some 66) rfl (by kernel_rfl) (by kernel_rfl) (by kernel_rfl) rfl (.int .i64 n) (fun _ _ _ h => h) (fun _ _ => by first | rfl | kernel_rfl) hS ?_
  simp only [Act.put, List.setIfInBounds_toArray, List.set_cons_zero, List.set_cons_succ]
  refine any_call 3 rfl (by kernel_rfl) rfl (some 55) rfl 11 _ _ rfl _ Ybaf.func11 (by kernel_rfl) (by kernel_rfl) [.pointer (some ⟨g, 14, none⟩)] rfl ((top11 g eb _ (dec16 hS.rg)).mono ?_)
  rintro e' w4 ⟨rfl, F4⟩
  have D4 := hS.keep F4
  refine ⟨_, rfl, D4, ?_⟩
  simp only [Act.put, List.setIfInBounds_toArray, List.set_cons_zero, List.set_cons_succ]
  refine any_take 4 rfl (some 56) rfl (by kernel_rfl) (by kernel_rfl) (by kernel_rfl) rfl (.pointer (some ⟨eb, 0, none⟩)) (fun _ _ _ h => h) (fun _ _ => by first | rfl | kernel_rfl) D4 ?_
  simp only [Act.put, List.setIfInBounds_toArray, List.set_cons_zero, List.set_cons_succ]
  refine any_take 5 rfl (some 57) rfl (by kernel_rfl) (by kernel_rfl) (by kernel_rfl) rfl (.pointer (some ⟨eb, 1, none⟩)) (fun _ _ _ h => h) (fun _ _ => by first | rfl | kernel_rfl) D4 ?_
  simp only [Act.put, List.setIfInBounds_toArray, List.set_cons_zero, List.set_cons_succ]
  refine any_load_cell 6 rfl (some 58) rfl (by kernel_rfl) (by kernel_rfl) (by kernel_rfl) rfl (.int .i64 e) (fun _ _ _ h => h) 2 (.tmp 57) rfl ⟨eb, 1, none⟩ rfl (fun w h => h.re1) _ Ybaf.underlying2 rfl D4 ?_
  simp only [Act.put, List.setIfInBounds_toArray, List.set_cons_zero, List.set_cons_succ]
  refine any_take 15 rfl (some 67) rfl (by kernel_rfl) (by kernel_rfl) (by kernel_rfl) rfl (.int .i64 E) (fun _ _ _ h => h) (fun w _ => by rw [hE.out]; exact min2 e n w rfl rfl rfl rfl) D4 ?_
  simp only [Act.put, List.setIfInBounds_toArray, List.set_cons_zero, List.set_cons_succ]
  refine any_take 16 rfl (some 6) rfl (by kernel_rfl) (by kernel_rfl) (by kernel_rfl) rfl (.int .i64 E) (fun _ _ _ h => h) (fun _ _ => rfl) D4 ?_
  simp only [Act.put, List.setIfInBounds_toArray, List.set_cons_zero, List.set_cons_succ]
  refine any_done (by kernel_rfl) ?_
  have G4 : Fr [] w w4 := (G3.trans0 (Fr.drew w3)).trans0 F4
  have r4 := ((Fr.drew w3).trans0 F4).get r3 (by simp)
  clear hS D3 D4 F4 G3 r3
  go_wp2_with (refine wpList_alloc rfl 41 rfl (some 8) rfl _ _ (zero41 _) rfl ?_; intro tb w6 e6 F6 r6 z6)
  have htb : Hid (w.heap.size ≤ tb) := by show _ ≤ _; rw [e6.out]; exact G4.size
  have hpt : pb ≠ tb := by have h1 := e6.out; have h2 := lt_of_get r4; omega
  have G6 := G4.trans0 F6
  have rp6 := F6.get r4 (by simp)
  obtain ⟨ts, hts, r6⟩ : ∃ ts : Array Value, ts.size = 10 ∧ w6.heap[tb]? = some (.cells ts 41) := ⟨_, rfl, r6⟩
  clear e6 F6 z6 r4 G4 hE d13 D
  go_frame
  go_loopw [7] (fun s7 wr => ∃ (c : Int) (q f : Nat) (ts : Array Value), 0 ≤ c ∧ c ≤ q ∧ q ≤ n ∧ s7 = .int .i64 c ∧ Hid (n ≤ f + q) ∧ Hid (cw l E most n p 0 = cw l E most f q c) ∧ Fr [] w wr ∧ wr.heap[pb]? = some (.cells (scn (.slice a n cap) q) 34) ∧ wr.heap[tb]? = some (.cells ts 41) ∧ ts.size = 10) (fun _ wr => n - posOf wr pb)
  case atStart => exact ⟨0, p, n, ts, by omega, by omega, by omega, rfl, Nat.le_add_right n _, rfl, G6, rp6, r6, hts⟩
  case round =>
    clear G6 rp6 r6 hts ts
    obtain ⟨c, q, f, ts, hc0, hcq, hq, rfl, hf, hH, G, rp, rt, hts⟩ := hrel
    have cp := scn3 rp
    by_cases hcm : c < most
    · by_cases hqE : (q : Int) < E
      · have hqn : q < n := by omega
        obtain ⟨b, o, rfl, hB⟩ := hb.resolve_left (by intro h; have := hn.out; rw [h] at this; simp at this; omega)
        obtain ⟨f', rfl⟩ : ∃ f', f = f' + 1 := ⟨f - 1, by have := hf.out; omega⟩
        have hbw : b < w.heap.size := by obtain ⟨c0, hc0⟩ := at_lt hn.out hqn; exact block_lt_of_cell (hB q c0 hc0)
        have EN : Env wr pb b o cap n q tb l := ⟨rp, hB.keep G (by simp), hpt, by have := htb.out; omega⟩
        by_cases hind : hk l q
        · have hR : Hid (cw l E most n p 0 = c) := hH.out.trans (cw_none (hk_none hind))
          replace hind : Hid (hk l q) := hind
          clear hH hf hb
          go_wp2_with (go_at_call 12; refine (head_ind pb b o cap q n tb l ts _ hn hl hqn ho.out EN rt hts hind).mono ?_; rintro e' w7 ⟨rfl, F7, t7⟩)
          go_ret
          rw [hR.out]
          exact ⟨rfl, G.trans1 F7 (.inr htb.out)⟩
        · cases hhd : hd l q with
          | none =>
            have hR : Hid (cw l E most n p 0 = c) := hH.out.trans (cw_none hhd)
            replace hhd : Hid (hd l q = none) := hhd
            replace hind : Hid (¬ hk l q) := hind
            clear hH hf hb
            go_wp2_with (go_at_call 12; refine (head_bad pb b o cap q n tb l ts _ hn hl hqn ho.out EN rt hts hhd hind).mono ?_; rintro e' w7 ⟨x, rfl, F7⟩)
            go_ret
            rw [hR.out]
            exact ⟨rfl, G.trans1 F7 (.inr htb.out)⟩
          | some xq =>
            obtain ⟨x, q1⟩ := xq
            obtain ⟨hx0, hx1, hx2⟩ := hd_pos ho.out hhd
            rw [hn.out] at hx2
            have hxm : x ≤ 9223372036854775807 := hd_max ho.out hhd
            have hxi : (x == -1) = false := by simp; omega
            by_cases hbig : E - (q : Int) - ((q1 : Int) - q) < x
            · have hR : Hid (cw l E most n p 0 = c) := hH.out.trans (cw_big hhd hbig)
              replace hhd : Hid (hd l q = some (x, q1)) := hhd
              clear hH hf hb hind
              go_wp2_with (go_at_call 12; refine (head_good pb b o cap q n tb l ts _ hn hl hqn ho.out EN rt hts hhd).mono ?_; rintro e' w7 ⟨rfl, F7, t7, t6, ts7, rt7, hts7⟩; have cp7 := F7.cell cp (by simpa using hpt))
              go_ret
              rw [hR.out]
              exact ⟨rfl, G.trans1 F7 (.inr htb.out)⟩
            · have hR : Hid (cw l E most n p 0 = cw l E most f' (q1 + x.toNat) (c + 1)) := hH.out.trans (cw_step hcm hqE hhd hbig)
              replace hhd : Hid (hd l q = some (x, q1)) := hhd
              obtain ⟨y, rfl⟩ : ∃ y : Nat, x = y := ⟨x.toNat, by omega⟩
              have hty : ((y : Int)).toNat = y := by omega
              rw [hty] at hR
              clear hH hb hty hind
              go_wp2_with (first
                | (go_at_call 12; refine (head_good pb b o cap q n tb l ts _ hn hl hqn ho.out EN rt hts hhd).mono ?_; rintro e' w7 ⟨rfl, F7, t7, t6, ts7, rt7, hts7⟩; have cp7 := F7.cell cp (by simpa using hpt); have rp7 := F7.get rp (by simpa using hpt))
                | (refine wpList_store_cell rfl 2 (.tmp 104) (.tmp 103) rfl pb 3 (.int .i64 ((q : Int) + ((q1 : Int) - q + y))) rfl rfl rfl 34 _ rp7 (show 3 < 9 by decide) size2 ?_; intro w8 F8 rp8' z8; have rp8 : w8.heap[pb]? = some (.cells (scn (.slice (some ⟨b, o, none⟩) n cap) ((q : Int) + ((q1 : Int) - q + y))) 34) := rp8'; have rt8 := F8.get rt7 (by simpa using hpt.symm); clear rp8' z8))
              have eq : ((q : Int) + ((q1 : Int) - q + y)) = ((q1 + y : Nat) : Int) := by omega
              rw [eq] at rp8
              go_roundw
              case rel => exact ⟨c + 1, q1 + y, f', ts7, by omega, by omega, by omega, rfl, by have := hf.out; show n ≤ _; omega, hR, (G.trans1 F7 (.inr htb.out)).trans1 F8 (.inr hpb.out), rp8, rt8, hts7⟩
              case measure => rw [posOf_eq rp8, posOf_eq rp]; omega
      · have hR : Hid (cw l E most n p 0 = c) := hH.out.trans (cw_stop (by omega))
        clear hH
        go_wp2
        go_ret
        rw [hR.out]
        exact ⟨rfl, G⟩
    · have hR : Hid (cw l E most n p 0 = c) := hH.out.trans (cw_stop (by omega))
      clear hH
      go_wp2
      go_ret
      rw [hR.out]
      exact ⟨rfl, G⟩
end Go.Proofs.YbulkdusoFmt
