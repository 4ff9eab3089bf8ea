/-
  'Rows.LawS6070AWholeSaid': the walk (YbulkdurmWalkE) and the row's step.
-/
import Derived.Test.YbulkdurmRows
import Derived.Test.YbulkdurmWalkE
import Derived.ProofKit
import Derived.OpenShut
import Derived.ShutString
import Derived.ChangeOld
namespace Go.Proofs.Ybulkdurm.lawS6070AWhole
open Go.ChangeShapes Go.WideShapes Go.ChangeAt Go.RowKit Base
open Go.ChangeMaps (open_string shut_string)
set_option linter.unusedVariables false

theorem own : ownKnob Yba.prog.godebug = none := by kernel_rfl
theorem bytes5 : Yba.prog.bytesOf 5 = 1 := by kernel_rfl
theorem bytes2 : Yba.prog.bytesOf 2 = 8 := by kernel_rfl

theorem cell_plain {w : World} {x : Addr} {n : Nat} {k : IntKind} {zs : List Int} (hn : 0 < n) (h : ∀ i, i < n → w.cell? (x.add i) = some (.int k (zs.getD i 0))) :
    ∃ b o, x = ⟨b, o, none⟩ ∧ ∀ i, i < n → w.cell? ⟨b, o + i, none⟩ = some (.int k (zs.getD i 0)) := by
  obtain ⟨b, o, spot⟩ := x
  have hspot : spot = none := by simpa [Addr.add] using World.cell?_spot (h 0 hn)
  subst hspot
  exact ⟨b, o, rfl, fun i hi => by rw [← Addr.add_lit]; exact h i hi⟩

/-- a slice of bytes, a slice of numbers that came in: what its cells hold; how long it is -/
theorem open8 {H : Type} {enc : TypeId × Value → H} {W : World} {a : Option Addr} {len cap : Nat} {d : DataW H} {p : List MemPlace} (h : DataW.Trod enc Yba.prog W 0 (fun _ => true) true 22 (.slice a len cap) d p) :
    Row8 W a len ∧ (len = 0 ∨ ∃ el sp, d = .slice el sp ∧ len ≤ el.length + sp.length) := by
  obtain ⟨fuel, hf⟩ := h
  rcases open_ints Yba.underlying22 Yba.underlying5 (by kernel_rfl) hf with ⟨hcs, _⟩ | ⟨x, l, c, zs, hcs, _, hl, hm, hz, hx, hcell, hwz⟩
  · simp [Value.cells] at hcs
    obtain ⟨rfl, rfl, rfl⟩ := hcs
    exact ⟨.inl rfl, .inl rfl⟩
  · simp [Value.cells] at hcs
    obtain ⟨rfl, rfl, rfl⟩ := hcs
    simp only [if_true] at hz
    by_cases h0 : len = 0
    · exact ⟨.inl h0, .inl h0⟩
    · obtain ⟨b, o, rfl, hc⟩ := cell_plain (n := zs.length) (by omega) hcell
      refine ⟨.inr ⟨b, o, rfl, fun j hj => ?_⟩, .inr ?_⟩
      · have hjz : j < zs.length := by omega
        have hw := hwz (zs.getD j 0) (by simp [hjz])
        have hb := bounds_u8 hw
        exact ⟨(zs.getD j 0).toNat, by omega, by rw [hc j hjz, Int.toNat_of_nonneg hb.1]⟩
      · simp only [Prod.mk.injEq] at hx
        exact ⟨_, _, hx.1, by simp [lits]; omega⟩
theorem open64 {H : Type} {enc : TypeId × Value → H} {W : World} {a : Option Addr} {len cap : Nat} {d : DataW H} {p : List MemPlace} (h : DataW.Trod enc Yba.prog W 0 (fun _ => true) true 23 (.slice a len cap) d p) :
    Row64 W a len ∧ (len = 0 ∨ ∃ el sp, d = .slice el sp ∧ len ≤ el.length + sp.length) := by
  obtain ⟨fuel, hf⟩ := h
  rcases open_ints Yba.underlying23 Yba.underlying2 (by kernel_rfl) hf with ⟨hcs, _⟩ | ⟨x, l, c, zs, hcs, _, hl, hm, hz, hx, hcell, hwz⟩
  · simp [Value.cells] at hcs
    obtain ⟨rfl, rfl, rfl⟩ := hcs
    exact ⟨.inl rfl, .inl rfl⟩
  · simp [Value.cells] at hcs
    obtain ⟨rfl, rfl, rfl⟩ := hcs
    simp only [if_true] at hz
    by_cases h0 : len = 0
    · exact ⟨.inl h0, .inl h0⟩
    · obtain ⟨b, o, rfl, hc⟩ := cell_plain (n := zs.length) (by omega) hcell
      refine ⟨.inr ⟨b, o, rfl, fun j hj => ?_⟩, .inr ?_⟩
      · have hjz : j < zs.length := by omega
        exact ⟨zs.getD j 0, hwz _ (by simp [hjz]), hc j hjz⟩
      · simp only [Prod.mk.injEq] at hx
        exact ⟨_, _, hx.1, by simp [lits]; omega⟩

theorem walk (a0 : Option Addr) (len0 cap0 : Nat) (a1 : Option Addr) (len1 cap1 : Nat) (a2 : Bool) (a3 : Option Addr) (len3 cap3 : Nat) (a4 : Option Addr) (len4 cap4 : Nat) (a5 : Bool) (w : World) (w0 : Row8 w a0 len0) (w1 : Row64 w a1 len1) (w3 : Row8 w a3 len3) (w4 : Row64 w a4 len4)
    (s0 : len0 ≤ 140737488355328) (s1 : len1 ≤ 140737488355328) (s3 : len3 ≤ 140737488355328) (s4 : len4 ≤ 140737488355328) :
    Calls Yba.prog 3 #[.slice a0 len0 cap0, .slice a1 len1 cap1, .bool a2, .slice a3 len3 cap3, .slice a4 len4 cap4, .bool a5] w fun e w' => e = .returned (.bool true) ∧ Below w.heap.size w w' := by
  by_cases h : len0 + len1 + len3 + len4 ≤ 1048576
  · exact (whole_near a0 a1 a3 a4 len0 cap0 len1 cap1 len3 cap3 len4 cap4 a2 a5 w w0 w1 w3 w4 h).mono fun e w' ⟨he, hF⟩ => ⟨he, hF.below (Nat.le_refl _) (by simp)⟩
  · exact (whole_far a0 a1 a3 a4 len0 cap0 len1 cap1 len3 cap3 len4 cap4 a2 a5 w s0 s1 s3 s4 (by omega)).mono fun e w' ⟨he, hw⟩ => ⟨he, by rw [hw]; exact Below.refl _ _⟩

/-! ### THE ROW's STEP: WRITTEN OUT: LEAVE IT -/
set_option maxRecDepth 100000 in
theorem lifted (os : Os) (started : os.Started) (H : Type) (enc : TypeId × Value → H) :
    ReturnsInHanded {} Yba.checked os 3 .any (Rows.lawS6070AWholeSpec.pre6 enc Yba.prog Yba.f3 Rows.lawS6070AWholeRow.domain false) (Rows.lawS6070AWholeSpec.post enc Yba.prog Yba.f3 false true false false) := by
  refine returnsInHanded_of_change_sized (C := Yba.checked) own started (by kernel_rfl) Yba.func3
    (ChangeSpec.witness6 (enc := enc) (C := Yba.checked) false ⟨#[], #[.slice none 0 0, .slice none 0 0, .bool false, .slice none 0 0, .slice none 0 0, .bool false], []⟩ 8 (by kernel_rfl) (by kernel_rfl) (by kernel_rfl) (by kernel_rfl)) ?_
  intro W base args ds gs before hval0 hW hcnd hsz0 _
  have hsz : (DataW.weightsEach Yba.prog (Yba.f3.params.toList ++ Rows.lawS6070AWholeSpec.plain.varTypes Yba.prog) (ds ++ gs)).all (· ≤ reachBytes) = true := hsz0
  clear hsz0
  have hval : ∀ (j : Nat) t v, Yba.f3.params[j]? = some t → args[j]? = some v → Value.okWide Yba.prog W .any base t v := hval0
  have hW' := hW
  obtain ⟨p, q, hA0, hV, rfl, hfz, hnd⟩ := hW
  have hA : DataW.TrodAll enc Yba.prog W 0 (fun _ => true) true Yba.f3.params.toList args.toList ds p := hA0
  rw [Yba.params3] at hA hval hsz
  obtain ⟨v0, vs0, d0, ds0, p0, q0, hargs, rfl, rfl, h0, r0⟩ := trodAll_cons hA
  obtain ⟨v1, vs1, d1, ds1, p1, q1, rfl, rfl, rfl, h1, r1⟩ := trodAll_cons r0
  obtain ⟨v2, vs2, d2, ds2, p2, q2, rfl, rfl, rfl, h2, r2⟩ := trodAll_cons r1
  obtain ⟨v3, vs3, d3, ds3, p3, q3, rfl, rfl, rfl, h3, r3⟩ := trodAll_cons r2
  obtain ⟨v4, vs4, d4, ds4, p4, q4, rfl, rfl, rfl, h4, r4⟩ := trodAll_cons r3
  obtain ⟨v5, vs5, d5, ds5, p5, q5, rfl, rfl, rfl, h5, r5⟩ := trodAll_cons r4
  obtain ⟨rfl, rfl, rfl⟩ := trodAll_nil r5
  obtain rfl : args = #[v0, v1, v2, v3, v4, v5] := by cases args; simp_all
  obtain ⟨rfl, rfl⟩ := trodVars_none hV
  obtain ⟨a0, len0, cap0, rfl⟩ := okWide_slice Yba.underlying22 (hval 0 22 v0 rfl rfl)
  have k0 := h0
  have lt0 : ∀ x ∈ p0, x.block < W.heap.size := by obtain ⟨m, hm⟩ := k0; exact DataW.trod_lt m _ _ _ hm
  obtain ⟨w0, s0⟩ := open8 h0
  obtain ⟨a1, len1, cap1, rfl⟩ := okWide_slice Yba.underlying23 (hval 1 23 v1 rfl rfl)
  have k1 := h1
  have lt1 : ∀ x ∈ p1, x.block < W.heap.size := by obtain ⟨m, hm⟩ := k1; exact DataW.trod_lt m _ _ _ hm
  obtain ⟨w1, s1⟩ := open64 h1
  obtain ⟨a2, rfl, rfl, rfl⟩ := open_bool Yba.underlying4 (hval 2 4 v2 rfl rfl) h2
  obtain ⟨a3, len3, cap3, rfl⟩ := okWide_slice Yba.underlying22 (hval 3 22 v3 rfl rfl)
  have k3 := h3
  have lt3 : ∀ x ∈ p3, x.block < W.heap.size := by obtain ⟨m, hm⟩ := k3; exact DataW.trod_lt m _ _ _ hm
  obtain ⟨w3, s3⟩ := open8 h3
  obtain ⟨a4, len4, cap4, rfl⟩ := okWide_slice Yba.underlying23 (hval 4 23 v4 rfl rfl)
  have k4 := h4
  have lt4 : ∀ x ∈ p4, x.block < W.heap.size := by obtain ⟨m, hm⟩ := k4; exact DataW.trod_lt m _ _ _ hm
  obtain ⟨w4, s4⟩ := open64 h4
  obtain ⟨a5, rfl, rfl, rfl⟩ := open_bool Yba.underlying4 (hval 5 4 v5 rfl rfl) h5
  have b0 : len0 ≤ 140737488355328 := by
    rcases s0 with s | ⟨el, sp, rfl, s⟩
    · omega
    · have := sized_slice hsz (j := 0) (t := 22) (e := 5) rfl rfl Yba.underlying22
      rw [bytes5] at this
      simp only [reachBytes] at this
      omega
  have b1 : len1 ≤ 140737488355328 := by
    rcases s1 with s | ⟨el, sp, rfl, s⟩
    · omega
    · have := sized_slice hsz (j := 1) (t := 23) (e := 2) rfl rfl Yba.underlying23
      rw [bytes2] at this
      simp only [reachBytes] at this
      omega
  have b3 : len3 ≤ 140737488355328 := by
    rcases s3 with s | ⟨el, sp, rfl, s⟩
    · omega
    · have := sized_slice hsz (j := 3) (t := 22) (e := 5) rfl rfl Yba.underlying22
      rw [bytes5] at this
      simp only [reachBytes] at this
      omega
  have b4 : len4 ≤ 140737488355328 := by
    rcases s4 with s | ⟨el, sp, rfl, s⟩
    · omega
    · have := sized_slice hsz (j := 4) (t := 23) (e := 2) rfl rfl Yba.underlying23
      rw [bytes2] at this
      simp only [reachBytes] at this
      omega
  clear hA0 hval0
  refine (walk a0 len0 cap0 a1 len1 cap1 a2 a3 len3 cap3 a4 len4 cap4 a5 W w0 w1 w3 w4 b0 b1 b3 b4).mono fun e W' ⟨he, bel⟩ => ?_
  subst he
  exact ⟨_, rfl, _, _, _, [], _, [], hW', trodAll_mk1 (shut_bool Yba.underlying4 _), (trodAll_cons_mk (Below.trod laidOut (by kernel_rfl) (of_decide_eq_true (by kernel_rfl)) k0 bel lt0) (trodAll_cons_mk (Below.trod laidOut (by kernel_rfl) (of_decide_eq_true (by kernel_rfl)) k1 bel lt1) (trodAll_cons_mk (shut_bool Yba.underlying4 _) (trodAll_cons_mk (Below.trod laidOut (by kernel_rfl) (of_decide_eq_true (by kernel_rfl)) k3 bel lt3) (trodAll_cons_mk (Below.trod laidOut (by kernel_rfl) (of_decide_eq_true (by kernel_rfl)) k4 bel lt4) (trodAll_cons_mk (shut_bool Yba.underlying4 _) trodAll_mk0)))))), rfl, bel.frame _, fun h => by cases h⟩

theorem over : Rows.lawS6070AWholeRow.holds Yba.pinned (OpenSpec.ofChange Rows.lawS6070AWholeSpec) :=
  OpenClaim.holds_of_wide 3 Yba.f3 rfl rfl rfl rfl rfl rfl rfl ⟨rfl, rfl, rfl, rfl, rfl⟩ rfl rfl rfl rfl rfl (by kernel_rfl) Yba.func3 (by kernel_rfl)
    (of_decide_eq_true (by kernel_rfl)) (by unfold Func.isWrapper; first | (rw [if_pos (by decide +kernel)]; kernel_rfl) | (rw [if_neg (by decide +kernel)]; exact ⟨rfl, rfl⟩))
    (fun os started H enc _ => lifted os started H enc)

theorem proved : Rows.LawS6070AWholeSaid := over
end Go.Proofs.Ybulkdurm.lawS6070AWhole
