/-
  'Rows.LawS6071BWholeSaid': the walk (YbulkdusaMain) and the row's step.
-/
import Derived.Test.YbulkdusaRows
import Derived.Test.YbulkdusaMain
import Derived.ProofKit
import Derived.OpenShut
import Derived.ShutString
import Derived.ChangeOld
import Derived.Deep.Slices
namespace Go.Proofs.Ybulkdusa.lawS6071BWhole
open Go.ChangeShapes Go.WideShapes Go.ChangeAt Go.RowKit Base

theorem laidOut : laidOutB Yba.prog = true := by kernel_rfl
theorem own : ownKnob Yba.prog.godebug = none := by kernel_rfl
theorem cells54 : Yba.prog.cellsOf 54 = 4 := by kernel_rfl
theorem cells5 : Yba.prog.cellsOf 5 = 1 := by kernel_rfl
theorem cells22 : Yba.prog.cellsOf 22 = 1 := by kernel_rfl
theorem cells4' : Yba.prog.cellsOf 4 = 1 := by kernel_rfl

theorem cells4 {w : World} {base : Nat} {a : Addr} {c0 c1 c2 c3 : Value} (h : w.cells? base a 4 = some [c0, c1, c2, c3]) : w.cell? (a.add 0) = some c0 ∧ w.cell? (a.add 1) = some c1 ∧ w.cell? (a.add 2) = some c2 ∧ w.cell? (a.add 3) = some c3 := by
  have r4 : List.range 4 = [0, 1, 2, 3] := rfl
  unfold World.cells? at h
  split at h
  · rw [r4] at h
    cases h0 : w.cell? (a.add 0) with
    | none => simp [h0] at h
    | some v0 =>
      cases h1 : w.cell? (a.add 1) with
      | none => simp [h0, h1] at h
      | some v1 =>
        cases h2 : w.cell? (a.add 2) with
        | none => simp [h0, h1, h2] at h
        | some v2 =>
          cases h3 : w.cell? (a.add 3) with
          | none => simp [h0, h1, h2, h3] at h
          | some v3 =>
            simp [h0, h1, h2, h3] at h
            simp [h]
  · cases h

set_option maxRecDepth 100000 in
/-- one step of the script, as it is read -/
theorem open_step {H : Type} {enc : TypeId × Value → H} {W : World} {fuel : Nat} {cs : List Value} {x : DataW H × List MemPlace} (h : DataW.trod enc Yba.prog W 0 (fun _ => true) true fuel 54 cs = some x) :
    ∃ (k : Nat) (t : Int) (d : Bool) (v : Int), k < 256 ∧ 0 ≤ v ∧ v < 256 ∧ cs = [.int .u8 k, .int .u64 t, .bool d, .int .u8 v] := by
  obtain ⟨xs, n, _, _, hl, hxl, hf⟩ := DataW.trod_struct Yba.underlying54 h
  rw [cells54] at hl
  match cs, hl with
  | [c0, c1, c2, c3], _ =>
    have f0 := hf 0 _ rfl
    have f1 := hf 1 _ rfl
    have f2 := hf 2 _ rfl
    have f3 := hf 3 _ rfl
    simp [cells5, cells22, cells4'] at f0 f1 f2 f3 hxl
    match xs, hxl with
    | [y0, y1, y2, y3], _ =>
      simp at f0 f1 f2 f3
      obtain ⟨k, e0, _, w0⟩ := DataW.trod_int Yba.underlying5 f0
      obtain ⟨t, e1, _, w1⟩ := DataW.trod_int Yba.underlying22 f1
      obtain ⟨d, e2, _⟩ := DataW.trod_bool Yba.underlying4 f2
      obtain ⟨v, e3, _, w3⟩ := DataW.trod_int Yba.underlying5 f3
      simp at e0 e1 e2 e3
      subst e0 e1 e2 e3
      have b0 := bounds_u8 w0
      have b3 := bounds_u8 w3
      exact ⟨k.toNat, t, d, v, by omega, b3.1, by omega, by rw [Int.toNat_of_nonneg b0.1]⟩

theorem open_steps {H : Type} {enc : TypeId × Value → H} {W : World} {a : Option Addr} {len cap : Nat} {d : DataW H} {p : List MemPlace} (h : DataW.Trod enc Yba.prog W 0 (fun _ => true) true 23 (.slice a len cap) d p) : Steps W a len := by
  obtain ⟨fuel, hf⟩ := h
  rcases Go.Deep.open_slice Yba.underlying23 hf with ⟨hcs, _⟩ | ⟨x, l, c, m, n, D, Pl, hcs, _, hl, hm, hmm, _, hel⟩
  · simp [Value.cells] at hcs
    obtain ⟨rfl, rfl, rfl⟩ := hcs
    exact .inl rfl
  · simp [Value.cells] at hcs
    obtain ⟨rfl, rfl, rfl⟩ := hcs
    simp only [if_true] at hmm
    subst hmm
    by_cases h0 : len = 0
    · exact .inl h0
    · have each : ∀ i, i < len → ∃ (k : Nat) (t : Int) (d : Bool) (v : Int), k < 256 ∧ 0 ≤ v ∧ v < 256 ∧ W.cell? ((x.add (i * 4)).add 0) = some (.int .u8 k) ∧ W.cell? ((x.add (i * 4)).add 1) = some (.int .u64 t) ∧ W.cell? ((x.add (i * 4)).add 2) = some (.bool d) ∧ W.cell? ((x.add (i * 4)).add 3) = some (.int .u8 v) := by
        intro i hi
        obtain ⟨cs', h1, h2⟩ := hel i (by omega)
        obtain ⟨k, t, d, v, b0, b1, b2, rfl⟩ := open_step h2
        rw [cells54] at h1
        exact ⟨k, t, d, v, b0, b1, b2, cells4 h1⟩
      obtain ⟨b, o, spot⟩ := x
      have hspot : spot = none := by
        obtain ⟨k, t, d, v, _, _, _, c0, _⟩ := each 0 (by omega)
        simpa [Addr.add] using World.cell?_spot c0
      subst hspot
      refine .inr ⟨b, o, rfl, fun j hj => ?_⟩
      obtain ⟨k, t, d, v, b0, b1, b2, c0, c1, c2, c3⟩ := each j hj
      rw [Go.Deep.add_add, Addr.add_lit] at c0 c1 c2 c3
      exact ⟨k, t, d, v, b0, b1, b2, c0, c1, c2, c3⟩

set_option maxHeartbeats 1000000 in
set_option maxRecDepth 100000 in
theorem main_far (a0 : Option Addr) (l0 c0 : Nat) (h0 h : Int) (w : World) (hl : 4096 < l0) : Calls Yba.prog 3 #[.int .u64 h0, .slice a0 l0 c0, .int .u64 h] w fun e w' => e = .returned (.bool true) ∧ w' = w := by
  go_enter Yba.func3, Yba.ntmps3
  go_wp2
  go_ret
  exact ⟨rfl, rfl⟩

theorem walk (a0 : Option Addr) (l0 c0 : Nat) (h0 h : Int) (w : World) (hs : Steps w a0 l0) : Calls Yba.prog 3 #[.int .u64 h0, .slice a0 l0 c0, .int .u64 h] w fun e w' => e = .returned (.bool true) ∧ Below w.heap.size w w' := by
  by_cases hl : l0 ≤ 4096
  · exact (main_near a0 l0 c0 h0 h w hs hl).mono fun e w' ⟨he, hF⟩ => ⟨he, hF.below (Nat.le_refl _) (by simp)⟩
  · exact (main_far a0 l0 c0 h0 h w (by omega)).mono fun e w' ⟨he, hw⟩ => ⟨he, by rw [hw]; exact Below.refl _ _⟩

set_option maxRecDepth 100000 in
theorem lifted (os : Os) (started : os.Started) (H : Type) (enc : TypeId × Value → H) :
    ReturnsInHanded {} Yba.checked os 3 .any (Rows.lawS6071BWholeSpec.pre6 enc Yba.prog Yba.f3 Rows.lawS6071BWholeRow.domain false) (Rows.lawS6071BWholeSpec.post enc Yba.prog Yba.f3 false true false false) := by
  refine returnsInHanded_of_change (C := Yba.checked) own started (by kernel_rfl) Yba.func3
    (ChangeSpec.witness6 (enc := enc) (C := Yba.checked) false ⟨#[], #[.int .u64 0, .slice none 0 0, .int .u64 0], []⟩ 8 (by kernel_rfl) (by kernel_rfl) (by kernel_rfl) (by kernel_rfl)) ?_
  intro W base args ds gs before hval0 hW _ _
  have hval : ∀ (j : Nat) t v, Yba.f3.params[j]? = some t → args[j]? = some v → Value.okWide Yba.prog W .any base t v := hval0
  have hW' := hW
  obtain ⟨p, q, hA0, hV, rfl, hfz, hnd⟩ := hW
  have hA : DataW.TrodAll enc Yba.prog W 0 (fun _ => true) true Yba.f3.params.toList args.toList ds p := hA0
  rw [Yba.params3] at hA hval
  obtain ⟨v0, vs0, d0, ds0, p0, q0, hargs, rfl, rfl, h0, r0⟩ := trodAll_cons hA
  obtain ⟨v1, vs1, d1, ds1, p1, q1, rfl, rfl, rfl, h1, r1⟩ := trodAll_cons r0
  obtain ⟨v2, vs2, d2, ds2, p2, q2, rfl, rfl, rfl, h2, r2⟩ := trodAll_cons r1
  obtain ⟨rfl, rfl, rfl⟩ := trodAll_nil r2
  obtain rfl : args = #[v0, v1, v2] := by cases args; simp_all
  obtain ⟨rfl, rfl⟩ := trodVars_none hV
  obtain ⟨n0, rfl, rfl, rfl, f0⟩ := open_int Yba.underlying22 (hval 0 22 v0 rfl rfl) h0
  obtain ⟨a1, len1, cap1, rfl⟩ := okWide_slice Yba.underlying23 (hval 1 23 v1 rfl rfl)
  have k1 := h1
  have lt1 : ∀ x ∈ p1, x.block < W.heap.size := by obtain ⟨m, hm⟩ := k1; exact DataW.trod_lt m _ _ _ hm
  have w1 := open_steps h1
  obtain ⟨n2, rfl, rfl, rfl, f2⟩ := open_int Yba.underlying22 (hval 2 22 v2 rfl rfl) h2
  clear hA0 hval0
  refine (walk a1 len1 cap1 n0 n2 W w1).mono fun e W' ⟨he, bel⟩ => ?_
  subst he
  exact ⟨_, rfl, _, _, _, [], _, [], hW', trodAll_mk1 (shut_bool Yba.underlying4 _), (trodAll_cons_mk (shut_int Yba.underlying22 f0) (trodAll_cons_mk (Below.trod laidOut (by kernel_rfl) (of_decide_eq_true (by kernel_rfl)) k1 bel lt1) (trodAll_cons_mk (shut_int Yba.underlying22 f2) trodAll_mk0))), rfl, bel.frame _, fun h => by cases h⟩

theorem over : Rows.lawS6071BWholeRow.holds Yba.pinned (OpenSpec.ofChange Rows.lawS6071BWholeSpec) :=
  OpenClaim.holds_of_wide 3 Yba.f3 rfl rfl rfl rfl rfl rfl rfl ⟨rfl, rfl, rfl, rfl, rfl⟩ rfl rfl rfl rfl rfl (by kernel_rfl) Yba.func3 (by kernel_rfl)
    (of_decide_eq_true (by kernel_rfl)) (by unfold Func.isWrapper; first | (rw [if_pos (by decide +kernel)]; kernel_rfl) | (rw [if_neg (by decide +kernel)]; exact ⟨rfl, rfl⟩))
    (fun os started H enc _ => lifted os started H enc)

theorem proved : Rows.LawS6071BWholeSaid := over
end Go.Proofs.Ybulkdusa.lawS6071BWhole
