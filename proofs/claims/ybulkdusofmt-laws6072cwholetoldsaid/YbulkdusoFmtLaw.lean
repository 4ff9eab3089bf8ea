/-
  'Rows.LawS6072CWholeToldSaid': the walk (YbulkdusoFmtMain0, 1, 2) and the row's step. fmt.Sprintf's text goes into an error that nobody reads: any text serves.
-/
import Derived.Test.YbulkdusoFmtCards
import Derived.Test.YbulkdusoFmtMain0
import Derived.Test.YbulkdusoFmtMain1
import Derived.Test.YbulkdusoFmtMain2
import Derived.ProofKit
import Derived.OpenShut
import Derived.ShutString
import Derived.ChangeOld
import Derived.Deep.Slices
import Derived.Stop.JoinedAt
import Derived.Stop.JoinedTold
import Derived.SevenToldRow
namespace Go.Proofs.YbulkdusoFmt.lawS6072CWhole
open Go.ChangeShapes Go.WideShapes Go.ChangeAt Go.RowKit Go.Kit Base
open Go.Extern.Stop Go.Stop Go.Extern

theorem laidOut : laidOutB Ybaf.pinned.checked.prog = true := by kernel_rfl
theorem own : ownKnob Ybaf.prog.godebug = none := by kernel_rfl
theorem cells5 : Ybaf.prog.cellsOf 5 = 1 := by kernel_rfl
theorem stops : Ybaf.pinned.checked.prog.stops = ["fmt.Sprintf"] := by kernel_rfl
theorem stopKnobs : Ybaf.pinned.checked.prog.stopKnobs = [] := by kernel_rfl
theorem quiet (os : Os) : Stop.quiet Ybaf.pinned.checked.prog os := by
  intro k hk
  rw [stopKnobs] at hk
  cases hk

theorem cells1 {w : World} {base : Nat} {a : Addr} {c0 : Value} (h : w.cells? base a 1 = some [c0]) : w.cell? (a.add 0) = some c0 := by
  have r1 : List.range 1 = [0] := rfl
  unfold World.cells? at h
  split at h
  · rw [r1] at h
    cases h0 : w.cell? (a.add 0) with
    | none => simp [h0] at h
    | some v0 => simp [h0] at h; simp [h]
  · cases h

theorem get_ofFn {n : Nat} (f : Nat → Int) {i : Nat} (h : i < n) : ((List.range n).map f)[i]? = some (f i) := by simp [h]

theorem open_bytes {H : Type} {enc : TypeId × Value → H} {W : World} {a : Option Addr} {len cap : Nat} {d : DataW H} {p : List MemPlace} (h : DataW.Trod enc Ybaf.prog W 0 (fun _ => true) true 22 (.slice a len cap) d p) :
    ∃ l : List Int, l.length = len ∧ Oct l ∧ Bs W a l ∧ (a = none → len = 0) := by
  obtain ⟨fuel, hf⟩ := h
  rcases Go.Deep.open_slice Ybaf.underlying22 hf with ⟨hcs, _⟩ | ⟨x, l, c, m, n, D, Pl, hcs, _, hl, hm, hmm, _, hel⟩
  · simp [Value.cells] at hcs
    obtain ⟨rfl, rfl, rfl⟩ := hcs
    exact ⟨[], rfl, fun i c hc => by simp at hc, .inl rfl, fun _ => rfl⟩
  · simp [Value.cells] at hcs
    obtain ⟨rfl, rfl, rfl⟩ := hcs
    simp only [if_true] at hmm
    subst hmm
    have each : ∀ i, i < len → ∃ c : Int, 0 ≤ c ∧ c < 256 ∧ W.cell? ((x.add (i * 1)).add 0) = some (.int .u8 c) := by
      intro i hi
      obtain ⟨cs', h1, h2⟩ := hel i (by omega)
      rw [cells5] at h1
      obtain ⟨c, e0, _, w0⟩ := DataW.trod_int Ybaf.underlying5 h2
      subst e0
      have b0 := bounds_u8 w0
      exact ⟨c, b0.1, by omega, cells1 h1⟩
    by_cases h0 : len = 0
    · subst h0
      exact ⟨[], rfl, fun i c hc => by simp at hc, .inl rfl, fun _ => rfl⟩
    · have hx : ∃ f : Nat → Int, ∀ i, i < len → 0 ≤ f i ∧ f i < 256 ∧ W.cell? ((x.add (i * 1)).add 0) = some (.int .u8 (f i)) :=
        ⟨fun i => if hi : i < len then Classical.choose (each i hi) else 0, fun i hi => by simp only [dif_pos hi]; exact Classical.choose_spec (each i hi)⟩
      obtain ⟨f, hf'⟩ := hx
      obtain ⟨b, o, spot⟩ := x
      have hspot : spot = none := by
        have := (hf' 0 (by omega)).2.2
        simpa [Addr.add] using World.cell?_spot this
      subst hspot
      refine ⟨(List.range len).map f, by simp, fun i c hc => ?_, .inr ⟨b, o, rfl, fun i c hc => ?_⟩, fun h => by cases h⟩
      · have hi : i < len := by have := (List.getElem?_eq_some_iff.1 hc).1; simpa using this
        rw [get_ofFn f hi] at hc
        cases hc
        exact ⟨(hf' i hi).1, (hf' i hi).2.1⟩
      · have hi : i < len := by have := (List.getElem?_eq_some_iff.1 hc).1; simpa using this
        rw [get_ofFn f hi] at hc
        cases hc
        have := (hf' i hi).2.2
        rw [Go.Deep.add_add, Addr.add_lit] at this
        simpa using this

set_option maxHeartbeats 1000000 in
set_option maxRecDepth 100000 in
theorem main_far (a : Option Addr) (n cap : Nat) (pos ao : Int) (pk fail opn : Bool) (em en most : Int) (w : World) (hl : 1048576 < n) :
    Calls Ybaf.prog 3 #[.slice a n cap, .int .i64 pos, .bool pk, .int .i64 ao, .bool fail, .bool opn, .int .u8 em, .int .i64 en, .int .i64 most] w fun e w' => e = .returned (.bool true) ∧ w' = w := by
  go_enter Ybaf.func3, Ybaf.ntmps3
  go_wp2
  go_ret
  exact ⟨rfl, rfl⟩

theorem near (a : Option Addr) (n cap : Nat) (l : List Int) (pos ao : Int) (pk fail opn : Bool) (em en most : Int) (w : World) (hn : l.length = n) (hl : n ≤ 1048576) (ho : Oct l) (hb : Bs w a l) (hnil : a = none → n = 0) (hem0 : 0 ≤ em) (hem1 : em < 256) (hm0 : -9223372036854775808 ≤ most) (hm1 : most ≤ 9223372036854775807) (he0 : -9223372036854775808 ≤ en) (he1 : en ≤ 9223372036854775807) :
    Calls Ybaf.prog 3 #[.slice a n cap, .int .i64 pos, .bool pk, .int .i64 ao, .bool fail, .bool opn, .int .u8 em, .int .i64 en, .int .i64 most] w fun e w' => e = .returned (.bool true) ∧ Fr [] w w' := by
  have h3 : em % 3 = 0 ∨ em % 3 = 1 ∨ em % 3 = 2 := by omega
  rcases h3 with h | h | h
  · cases fail
    · cases opn
      · exact main_0_ff a n cap l pos ao pk em en most w hn hl ho hb hnil hem0 hem1 h hm0 hm1 he0 he1
      · cases pk
        · exact main_0_ftf a n cap l pos ao em en most w hn hl ho hb hnil hem0 hem1 h hm0 hm1 he0 he1
        · exact main_0_ftt a n cap l pos ao em en most w hn hl ho hb hnil hem0 hem1 h hm0 hm1 he0 he1
    · cases opn
      · exact main_0_tf a n cap l pos ao pk em en most w hn hl ho hb hnil hem0 hem1 h hm0 hm1 he0 he1
      · cases pk
        · exact main_0_ttf a n cap l pos ao em en most w hn hl ho hb hnil hem0 hem1 h hm0 hm1 he0 he1
        · exact main_0_ttt a n cap l pos ao em en most w hn hl ho hb hnil hem0 hem1 h hm0 hm1 he0 he1
  · cases fail
    · cases opn
      · exact main_1_ff a n cap l pos ao pk em en most w hn hl ho hb hnil hem0 hem1 h hm0 hm1 he0 he1
      · cases pk
        · exact main_1_ftf a n cap l pos ao em en most w hn hl ho hb hnil hem0 hem1 h hm0 hm1 he0 he1
        · exact main_1_ftt a n cap l pos ao em en most w hn hl ho hb hnil hem0 hem1 h hm0 hm1 he0 he1
    · cases opn
      · exact main_1_tf a n cap l pos ao pk em en most w hn hl ho hb hnil hem0 hem1 h hm0 hm1 he0 he1
      · cases pk
        · exact main_1_ttf a n cap l pos ao em en most w hn hl ho hb hnil hem0 hem1 h hm0 hm1 he0 he1
        · exact main_1_ttt a n cap l pos ao em en most w hn hl ho hb hnil hem0 hem1 h hm0 hm1 he0 he1
  · cases fail
    · cases opn
      · exact main_2_ff a n cap l pos ao pk em en most w hn hl ho hb hnil hem0 hem1 h hm0 hm1 he0 he1
      · cases pk
        · exact main_2_ftf a n cap l pos ao em en most w hn hl ho hb hnil hem0 hem1 h hm0 hm1 he0 he1
        · exact main_2_ftt a n cap l pos ao em en most w hn hl ho hb hnil hem0 hem1 h hm0 hm1 he0 he1
    · cases opn
      · exact main_2_tf a n cap l pos ao pk em en most w hn hl ho hb hnil hem0 hem1 h hm0 hm1 he0 he1
      · cases pk
        · exact main_2_ttf a n cap l pos ao em en most w hn hl ho hb hnil hem0 hem1 h hm0 hm1 he0 he1
        · exact main_2_ttt a n cap l pos ao em en most w hn hl ho hb hnil hem0 hem1 h hm0 hm1 he0 he1

theorem walk (a : Option Addr) (n cap : Nat) (l : List Int) (pos ao : Int) (pk fail opn : Bool) (em en most : Int) (w : World) (hn : l.length = n) (ho : Oct l) (hb : Bs w a l) (hnil : a = none → n = 0) (hem0 : 0 ≤ em) (hem1 : em < 256) (hm0 : -9223372036854775808 ≤ most) (hm1 : most ≤ 9223372036854775807) (he0 : -9223372036854775808 ≤ en) (he1 : en ≤ 9223372036854775807) :
    Calls Ybaf.prog 3 #[.slice a n cap, .int .i64 pos, .bool pk, .int .i64 ao, .bool fail, .bool opn, .int .u8 em, .int .i64 en, .int .i64 most] w fun e w' => e = .returned (.bool true) ∧ Below w.heap.size w w' := by
  by_cases hl : n ≤ 1048576
  · exact (near a n cap l pos ao pk fail opn em en most w hn hl ho hb hnil hem0 hem1 hm0 hm1 he0 he1).mono fun e w' ⟨he, hF⟩ => ⟨he, hF.below (Nat.le_refl _) (by simp)⟩
  · exact (main_far a n cap pos ao pk fail opn em en most w (by omega)).mono fun e w' ⟨he, hw⟩ => ⟨he, by rw [hw]; exact Below.refl _ _⟩

theorem i64_bounds {n : Int} (h : (Lit.int .i64 n).wf = true) : -9223372036854775808 ≤ n ∧ n ≤ 9223372036854775807 := by
  have := h
  simp [Lit.wf, IntKind.min, IntKind.max, IntKind.signed, IntKind.bits] at this
  omega

set_option maxRecDepth 100000 in
theorem lifted (os : Os) (started : os.Started) (H : Type) (enc : TypeId × Value → H) :
    ReturnsInTold none {} Ybaf.checked os 3 .any Input.okWide ((OpenSpec.ofChange Rows.lawS6072CWholeSpec).preRow enc Ybaf.prog Ybaf.f3 [] false []) (fun F => ((OpenSpec.ofChange Rows.lawS6072CWholeSpec).at F).post enc Ybaf.prog Ybaf.f3 false true false false) (aloneAtReturn Ybaf.prog) nothingAlways := by
  refine returnsInTold_of_row (C := Ybaf.checked) (s := OpenSpec.ofChange Rows.lawS6072CWholeSpec) (by kernel_rfl) own started (by kernel_rfl) Ybaf.func3
    (OpenSpec.witness_stopped (enc := enc) (C := Ybaf.checked) false ⟨#[], #[.slice none 0 0, .int .i64 0, .bool false, .int .i64 0, .bool false, .bool false, .int .u8 0, .int .i64 0, .int .i64 0], []⟩ 8 (by kernel_rfl) (by kernel_rfl) (by kernel_rfl) (by kernel_rfl)) ?_
  intro F W base args ds gs before _ _ hval0 hW _ _ _ _ _
  have hval : ∀ (j : Nat) t v, Ybaf.f3.params[j]? = some t → args[j]? = some v → Value.okWide Ybaf.prog W .any base t v := hval0
  have hW' := hW
  obtain ⟨p, q, hA0, hV, rfl, hfz, hnd⟩ := hW
  have hA : DataW.TrodAll enc Ybaf.prog W 0 (fun _ => true) true Ybaf.f3.params.toList args.toList ds p := hA0
  rw [Ybaf.params3] at hA hval
  obtain ⟨v0, vs0, d0, ds0, p0, q0, hargs, rfl, rfl, h0, r0⟩ := trodAll_cons hA
  obtain ⟨v1, vs1, d1, ds1, p1, q1, rfl, rfl, rfl, h1, r1⟩ := trodAll_cons r0
  obtain ⟨v2, vs2, d2, ds2, p2, q2, rfl, rfl, rfl, h2, r2⟩ := trodAll_cons r1
  obtain ⟨v3, vs3, d3, ds3, p3, q3, rfl, rfl, rfl, h3, r3⟩ := trodAll_cons r2
  obtain ⟨v4, vs4, d4, ds4, p4, q4, rfl, rfl, rfl, h4, r4⟩ := trodAll_cons r3
  obtain ⟨v5, vs5, d5, ds5, p5, q5, rfl, rfl, rfl, h5, r5⟩ := trodAll_cons r4
  obtain ⟨v6, vs6, d6, ds6, p6, q6, rfl, rfl, rfl, h6, r6⟩ := trodAll_cons r5
  obtain ⟨v7, vs7, d7, ds7, p7, q7, rfl, rfl, rfl, h7, r7⟩ := trodAll_cons r6
  obtain ⟨v8, vs8, d8, ds8, p8, q8, rfl, rfl, rfl, h8, r8⟩ := trodAll_cons r7
  obtain ⟨rfl, rfl, rfl⟩ := trodAll_nil r8
  obtain rfl : args = #[v0, v1, v2, v3, v4, v5, v6, v7, v8] := by cases args; simp_all
  obtain ⟨rfl, rfl⟩ := trodVars_none hV
  obtain ⟨a0, len0, cap0, rfl⟩ := okWide_slice Ybaf.underlying22 (hval 0 22 v0 rfl rfl)
  have k0 := h0
  have lt0 : ∀ x ∈ p0, x.block < W.heap.size := by obtain ⟨m, hm⟩ := k0; exact DataW.trod_lt m _ _ _ hm
  obtain ⟨l, hlen, ho, hb, hnil⟩ := open_bytes h0
  obtain ⟨n1, rfl, rfl, rfl, f1⟩ := open_int Ybaf.underlying2 (hval 1 2 v1 rfl rfl) h1
  obtain ⟨n2, rfl, rfl, rfl⟩ := open_bool Ybaf.underlying4 (hval 2 4 v2 rfl rfl) h2
  obtain ⟨n3, rfl, rfl, rfl, f3⟩ := open_int Ybaf.underlying2 (hval 3 2 v3 rfl rfl) h3
  obtain ⟨n4, rfl, rfl, rfl⟩ := open_bool Ybaf.underlying4 (hval 4 4 v4 rfl rfl) h4
  obtain ⟨n5, rfl, rfl, rfl⟩ := open_bool Ybaf.underlying4 (hval 5 4 v5 rfl rfl) h5
  obtain ⟨n6, rfl, rfl, rfl, f6⟩ := open_int Ybaf.underlying5 (hval 6 5 v6 rfl rfl) h6
  obtain ⟨n7, rfl, rfl, rfl, f7⟩ := open_int Ybaf.underlying2 (hval 7 2 v7 rfl rfl) h7
  obtain ⟨n8, rfl, rfl, rfl, f8⟩ := open_int Ybaf.underlying3 (hval 8 3 v8 rfl rfl) h8
  clear hA0 hval0
  have b8 := i64_bounds f8
  have b7 := i64_bounds f7
  have b6 := bounds_u8 f6
  refine (walk a0 len0 cap0 l n1 n3 n2 n4 n5 n6 n7 n8 W hlen ho hb hnil b6.1 (by omega) b8.1 b8.2 b7.1 b7.2).mono fun e W' ⟨he, bel⟩ => ?_
  subst he
  exact ⟨_, rfl, _, _, _, [], _, [], hW', trodAll_mk1 (shut_bool Ybaf.underlying4 _), (trodAll_cons_mk (Below.trod laidOut (by kernel_rfl) (of_decide_eq_true (by kernel_rfl)) k0 bel lt0) (trodAll_cons_mk (shut_int Ybaf.underlying2 f1) (trodAll_cons_mk (shut_bool Ybaf.underlying4 _) (trodAll_cons_mk (shut_int Ybaf.underlying2 f3) (trodAll_cons_mk (shut_bool Ybaf.underlying4 _) (trodAll_cons_mk (shut_bool Ybaf.underlying4 _) (trodAll_cons_mk (shut_int Ybaf.underlying5 f6) (trodAll_cons_mk (shut_int Ybaf.underlying2 f7) (trodAll_cons_mk (shut_int Ybaf.underlying3 f8) trodAll_mk0))))))))), rfl, bel.frame _, fun h => by cases h⟩

theorem proved : Rows.LawS6072CWholeToldSaid :=
  Claim7.holds_of_told_any 3 Ybaf.f3 "fmt.Sprintf" [] [] _ _ _ (by kernel_rfl) rfl rfl rfl laidOut (by kernel_rfl) rfl ⟨rfl, rfl, rfl, rfl, rfl, rfl, rfl⟩ rfl rfl (by kernel_rfl) (by kernel_rfl) Ybaf.func3 (by kernel_rfl)
    (of_decide_eq_true (by kernel_rfl)) (of_decide_eq_true (by kernel_rfl)) stops.symm rfl stopKnobs.symm (by kernel_rfl)
    (by kernel_rfl) (by kernel_rfl) (by kernel_rfl) (by kernel_rfl) (by kernel_rfl) (by kernel_rfl) (by kernel_rfl) (by kernel_rfl) (by kernel_rfl) rfl (by kernel_rfl) rfl rfl
    rfl rfl
    rfl (by kernel_rfl) (by kernel_rfl) (by kernel_rfl) (by decide) (by kernel_rfl)
    (OpenClaim.moreEntering_of (by kernel_rfl) (by kernel_rfl) (by kernel_rfl) (by kernel_rfl) (by kernel_rfl) (by kernel_rfl) (by kernel_rfl) (by kernel_rfl) (by kernel_rfl) (by kernel_rfl))
    ⟨_, WideRow.started_initial, quiet _⟩
    (fun os started _ H enc _ => lifted os started H enc)
end Go.Proofs.YbulkdusoFmt.lawS6072CWhole
