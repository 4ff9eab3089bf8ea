/-
  'Rows.LawS6078BWholeSaid': the walk (YbulkduvuMn) and the row's step.
-/
import Derived.Test.YbulkduvuRows
import Derived.Test.YbulkduvuMn
import Derived.ProofKit
import Derived.OpenShut
import Derived.ShutString
import Derived.ChangeOld
import Derived.Deep.Slices
namespace Go.Proofs.Ybulkduvu.lawS6078BWhole
open Go.ChangeShapes Go.WideShapes Go.ChangeAt Go.RowKit Base

theorem laidOut : laidOutB Yba.prog = true := by kernel_rfl
theorem own : ownKnob Yba.prog.godebug = none := by kernel_rfl
theorem cells73 : Yba.prog.cellsOf 73 = 3 := by kernel_rfl
theorem cells5 : Yba.prog.cellsOf 5 = 1 := by kernel_rfl
theorem cells2 : Yba.prog.cellsOf 3 = 1 := by kernel_rfl

theorem cells3 {w : World} {base : Nat} {a : Addr} {c0 c1 c2 : Value} (h : w.cells? base a 3 = some [c0, c1, c2]) : w.cell? (a.add 0) = some c0 ∧ w.cell? (a.add 1) = some c1 ∧ w.cell? (a.add 2) = some c2 := by
  have r3 : List.range 3 = [0, 1, 2] := rfl
  unfold World.cells? at h
  split at h
  · rw [r3] at h
    cases h0 : w.cell? (a.add 0) with
    | none => simp [h0] at h
    | some v0 =>
      cases h1 : w.cell? (a.add 1) with
      | none => simp [h0, h1] at h
      | some v1 =>
        cases h2 : w.cell? (a.add 2) with
        | none => simp [h0, h1, h2] at h
        | some v2 =>
          simp [h0, h1, h2] at h
          simp [h]
  · cases h

set_option maxRecDepth 100000 in
/-- one step of the script, as it is read -/
theorem open_step {H : Type} {enc : TypeId × Value → H} {W : World} {fuel : Nat} {cs : List Value} {x : DataW H × List MemPlace} (h : DataW.trod enc Yba.prog W 0 (fun _ => true) true fuel 73 cs = some x) :
    ∃ (op k : Nat) (s : Int), op < 256 ∧ k < 256 ∧ I64 s ∧ cs = [.int .u8 op, .int .u8 k, .int .i64 s] := by
  obtain ⟨xs, n, _, _, hl, hxl, hf⟩ := DataW.trod_struct Yba.underlying73 h
  rw [cells73] at hl
  match cs, hl with
  | [c0, c1, c2], _ =>
    have f0 := hf 0 _ rfl
    have f1 := hf 1 _ rfl
    have f2 := hf 2 _ rfl
    simp [cells5, cells2] at f0 f1 f2 hxl
    match xs, hxl with
    | [y0, y1, y2], _ =>
      simp at f0 f1 f2
      obtain ⟨op, e0, _, w0⟩ := DataW.trod_int Yba.underlying5 f0
      obtain ⟨k, e1, _, w1⟩ := DataW.trod_int Yba.underlying5 f1
      obtain ⟨s, e2, _, w2⟩ := DataW.trod_int Yba.underlying3 f2
      simp at e0 e1 e2
      subst e0 e1 e2
      have b0 := bounds_u8 w0
      have b1 := bounds_u8 w1
      exact ⟨op.toNat, k.toNat, s, by omega, by omega, w2, by rw [Int.toNat_of_nonneg b0.1, Int.toNat_of_nonneg b1.1]⟩

theorem open_steps {H : Type} {enc : TypeId × Value → H} {W : World} {a : Option Addr} {len cap : Nat} {d : DataW H} {p : List MemPlace} (h : DataW.Trod enc Yba.prog W 0 (fun _ => true) true 35 (.slice a len cap) d p) : Steps W a len := by
  obtain ⟨fuel, hf⟩ := h
  rcases Go.Deep.open_slice Yba.underlying35 hf with ⟨hcs, _⟩ | ⟨x, l, c, m, n, D, Pl, hcs, _, hl, hm, hmm, _, hel⟩
  · simp [Value.cells] at hcs
    obtain ⟨rfl, rfl, rfl⟩ := hcs
    exact .inl rfl
  · simp [Value.cells] at hcs
    obtain ⟨rfl, rfl, rfl⟩ := hcs
    simp only [if_true] at hmm
    subst hmm
    by_cases h0 : len = 0
    · exact .inl h0
    · have each : ∀ i, i < len → ∃ (op k : Nat) (s : Int), op < 256 ∧ k < 256 ∧ I64 s ∧ W.cell? ((x.add (i * 3)).add 0) = some (.int .u8 op) ∧ W.cell? ((x.add (i * 3)).add 1) = some (.int .u8 k) ∧ W.cell? ((x.add (i * 3)).add 2) = some (.int .i64 s) := by
        intro i hi
        obtain ⟨cs', h1, h2⟩ := hel i (by omega)
        obtain ⟨op, k, s, b0, b1, hs, rfl⟩ := open_step h2
        rw [cells73] at h1
        exact ⟨op, k, s, b0, b1, hs, cells3 h1⟩
      obtain ⟨b, o, spot⟩ := x
      have hspot : spot = none := by
        obtain ⟨op, k, s, _, _, _, c0, _⟩ := each 0 (by omega)
        simpa [Addr.add] using World.cell?_spot c0
      subst hspot
      refine .inr ⟨b, o, rfl, fun j hj => ?_⟩
      obtain ⟨op, k, s, b0, b1, hs, c0, c1, c2⟩ := each j hj
      rw [Go.Deep.add_add, Addr.add_lit] at c0 c1 c2
      exact ⟨op, k, s, b0, b1, hs, c0, c1, c2⟩

set_option maxHeartbeats 1000000 in
set_option maxRecDepth 100000 in
theorem main_far (a0 : Option Addr) (l0 c0 : Nat) (conn client : Int) (w : World) (hl : 1024 < l0) : Calls Yba.prog 4 #[.slice a0 l0 c0, .int .u8 conn, .int .i64 client] w fun e w' => e = .returned (.bool true) ∧ w' = w := by
  go_enter Yba.func4, Yba.ntmps4
  go_wp2
  go_ret
  exact ⟨rfl, rfl⟩

theorem walk (a0 : Option Addr) (l0 c0 : Nat) (conn client : Int) (w : World) (hs : Steps w a0 l0) (h0 : 0 ≤ conn) (h1 : conn < 256) (hc : I64 client) : Calls Yba.prog 4 #[.slice a0 l0 c0, .int .u8 conn, .int .i64 client] w fun e w' => e = .returned (.bool true) ∧ Below w.heap.size w w' := by
  by_cases hl : l0 ≤ 1024
  · obtain ⟨cn, rfl⟩ : ∃ cn : Nat, conn = cn := ⟨conn.toNat, by omega⟩
    exact (main_near a0 l0 c0 cn client w hs hl (by omega) hc).mono fun e w' ⟨he, hF⟩ => ⟨he, hF.below (Nat.le_refl _) (by simp)⟩
  · exact (main_far a0 l0 c0 conn client w (by omega)).mono fun e w' ⟨he, hw⟩ => ⟨he, by rw [hw]; exact Below.refl _ _⟩

set_option maxRecDepth 100000 in
theorem lifted (os : Os) (started : os.Started) (H : Type) (enc : TypeId × Value → H) :
    ReturnsInHanded {} Yba.checked os 4 .any (Rows.lawS6078BWholeSpec.pre6 enc Yba.prog Yba.f4 Rows.lawS6078BWholeRow.domain false) (Rows.lawS6078BWholeSpec.post enc Yba.prog Yba.f4 false true false false) := by
  refine returnsInHanded_of_change (C := Yba.checked) own started (by kernel_rfl) Yba.func4
    (ChangeSpec.witness6 (enc := enc) (C := Yba.checked) false ⟨#[], #[.slice none 0 0, .int .u8 0, .int .i64 0], []⟩ 8 (by kernel_rfl) (by kernel_rfl) (by kernel_rfl) (by kernel_rfl)) ?_
  intro W base args ds gs before hval0 hW _ _
  have hval : ∀ (j : Nat) t v, Yba.f4.params[j]? = some t → args[j]? = some v → Value.okWide Yba.prog W .any base t v := hval0
  have hW' := hW
  obtain ⟨p, q, hA0, hV, rfl, hfz, hnd⟩ := hW
  have hA : DataW.TrodAll enc Yba.prog W 0 (fun _ => true) true Yba.f4.params.toList args.toList ds p := hA0
  rw [Yba.params4] at hA hval
  obtain ⟨v0, vs0, d0, ds0, p0, q0, hargs, rfl, rfl, h0, r0⟩ := trodAll_cons hA
  obtain ⟨v1, vs1, d1, ds1, p1, q1, rfl, rfl, rfl, h1, r1⟩ := trodAll_cons r0
  obtain ⟨v2, vs2, d2, ds2, p2, q2, rfl, rfl, rfl, h2, r2⟩ := trodAll_cons r1
  obtain ⟨rfl, rfl, rfl⟩ := trodAll_nil r2
  obtain rfl : args = #[v0, v1, v2] := by cases args; simp_all
  obtain ⟨rfl, rfl⟩ := trodVars_none hV
  obtain ⟨a0, len0, cap0, rfl⟩ := okWide_slice Yba.underlying35 (hval 0 35 v0 rfl rfl)
  have k0 := h0
  have lt0 : ∀ x ∈ p0, x.block < W.heap.size := by obtain ⟨m, hm⟩ := k0; exact DataW.trod_lt m _ _ _ hm
  have w0 := open_steps h0
  obtain ⟨n1, rfl, rfl, rfl, f1⟩ := open_int Yba.underlying5 (hval 1 5 v1 rfl rfl) h1
  obtain ⟨n2, rfl, rfl, rfl, f2⟩ := open_int Yba.underlying3 (hval 2 3 v2 rfl rfl) h2
  clear hA0 hval0
  have b1 := bounds_u8 f1
  refine (walk a0 len0 cap0 n1 n2 W w0 b1.1 (by omega) f2).mono fun e W' ⟨he, bel⟩ => ?_
  subst he
  exact ⟨_, rfl, _, _, _, [], _, [], hW', trodAll_mk1 (shut_bool Yba.underlying4 _), (trodAll_cons_mk (Below.trod laidOut (by kernel_rfl) (of_decide_eq_true (by kernel_rfl)) k0 bel lt0) (trodAll_cons_mk (shut_int Yba.underlying5 f1) (trodAll_cons_mk (shut_int Yba.underlying3 f2) trodAll_mk0))), rfl, bel.frame _, fun h => by cases h⟩

theorem over : Rows.lawS6078BWholeRow.holds Yba.pinned (OpenSpec.ofChange Rows.lawS6078BWholeSpec) :=
  OpenClaim.holds_of_wide 4 Yba.f4 rfl rfl rfl rfl rfl rfl rfl ⟨rfl, rfl, rfl, rfl, rfl⟩ rfl rfl rfl rfl rfl (by kernel_rfl) Yba.func4 (by kernel_rfl)
    (of_decide_eq_true (by kernel_rfl)) (by unfold Func.isWrapper; first | (rw [if_pos (by decide +kernel)]; kernel_rfl) | (rw [if_neg (by decide +kernel)]; exact ⟨rfl, rfl⟩))
    (fun os started H enc _ => lifted os started H enc)

theorem proved : Rows.LawS6078BWholeSaid := over
end Go.Proofs.Ybulkduvu.lawS6078BWhole
