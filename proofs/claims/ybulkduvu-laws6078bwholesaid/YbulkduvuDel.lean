/-
  slices.IndexFunc and slices.DeleteFunc over the connections, the closure 'x == c'.
-/
import Derived.Test.YbulkduvuMap
import Derived.Test.YbulkduvuAnyB
import Derived.LaidEqlPtr
import Derived.LoopN
namespace Go.Proofs.Ybulkduvu
open Go.RowKit Base

/-- a connection's cells -/
def cRow (c : Int) : Array Value := #[.nilIface, .chan none, .chan none, .int .u32 0, .int .i32 0, .int .u32 0, .int .i64 c]
/-- a connection's pointer -/
def cp (g : Nat → Nat) (i : Nat) : Value := .pointer (some ⟨g i, 0, none⟩)
def cps (g : Nat → Nat) (L : List Nat) : List Value := L.map (cp g)

/-- five connections, each in a block of its own -/
structure Cn (w : World) (g : Nat → Nat) : Prop where
  row : ∀ i, i < 5 → ∃ c, w.heap[g i]? = some (.cells (cRow c) 60)
  inj : ∀ i j, i < 5 → j < 5 → g i = g j → i = j

theorem size60 : (Yba.prog.info? 60).map (·.size) = some 7 := by kernel_rfl
theorem ptr_eq {w : World} {g : Nat → Nat} (h : Cn w g) {i j : Nat} (hi : i < 5) (hj : j < 5) : (binOp .eql 36 (cp g i) (cp g j)).run Yba.prog w = .ok (.bool (decide (i = j))) w := by
  have hz := size60
  cases hq : Yba.prog.info? 60 with
  | none => simp [hq] at hz
  | some t =>
    by_cases e : i = j
    · subst e
      have := run_eql_ptr_same (P := Yba.prog) w ⟨g i, 0, none⟩ Yba.underlying36 hq
      simpa [cp] using this
    · obtain ⟨c1, h1⟩ := h.row i hi
      obtain ⟨c2, h2⟩ := h.row j hj
      have hs : t.size ≠ 0 := by simp [hq] at hz; omega
      have := run_eql_ptr_other (P := Yba.prog) w (a := ⟨g i, 0, none⟩) (b := ⟨g j, 0, none⟩) Yba.underlying36 hq hs (by intro he; exact e (h.inj i j hi hj (by simpa using he))) h1 h2
      simpa [cp, e] using this

set_option maxHeartbeats 400000 in
theorem clos_any (g : Nat → Nat) (i c bx : Nat) (w : World) (h : Cn w g) (hi : i < 5) (hc : c < 5) (rx : w.heap[bx]? = some (.cells #[cp g c] 36)) :
    Calls Yba.prog 18 #[cp g i, .pointer (some ⟨bx, 0, none⟩)] w fun e w' => e = .returned (.bool (decide (i = c))) ∧ w' = w := by
  have hq := ptr_eq h hi hc
  have hx : w.cell? ⟨bx, 0, none⟩ = some (cp g c) := by rw [cell_of_row w bx 0 _ _ _ rx]; rfl
  generalize decide (i = c) = d at hq ⊢
  simp only [cp] at hq hx ⊢
  go_enter Yba.func18, Yba.ntmps18
  go_wp2
  go_ret
  exact ⟨rfl, rfl⟩

theorem idx88 {b o n cap i : Nat} (h : i < n) (w : World) : (Instr.indexAt 88 (.slice (some ⟨b, o, none⟩) n cap) (.int .i64 i)).run Yba.prog w = .ok (.pointer (some ⟨b, o + i, none⟩)) w := by
  have e : Yba.prog.elem 88 = 36 := by kernel_rfl
  rw [run_indexAt_slice w 88 ⟨b, o, none⟩ n cap .i64 i (by rw [e]; exact Yba.underlying88), if_pos (by omega), e, Yba.sizeOf36]
  simp [Addr.add_lit]

set_option maxHeartbeats 1000000 in
/-- the index of c, where it stands -/
theorem idx_some (g : Nat → Nat) (c bx b o n cap k : Nat) (L : List Nat) (cs : Array Value) (w : World) (h : Cn w g) (hc : c < 5) (hL : ∀ i ∈ L, i < 5) (rx : w.heap[bx]? = some (.cells #[cp g c] 36))
    (rb : w.heap[b]? = some (.cells cs 36)) (hat : At cs o (cps g L)) (hn : Hid (L.length = n)) (hn1 : n ≤ 1000000) (hk : k < n) (hkc : Hid (L[k]? = some c)) (hbe : Hid (∀ j, j < k → L[j]? ≠ some c)) :
    Calls Yba.prog 21 #[.slice (some ⟨b, o, none⟩) n cap, .func (.func 18) #[] #[.pointer (some ⟨bx, 0, none⟩)]] w fun e w' => e = .returned (.int .i64 k) ∧ w' = w := by
  replace hL : Hid (∀ i ∈ L, i < 5) := hL
  go_enter Yba.func21, Yba.ntmps21
  go_wp2
  go_loopw [8] (fun i wr => ∃ j : Nat, j ≤ k ∧ i = .int .i64 j ∧ wr = w) (fun i _ => n - (intOf i).toNat)
  case atStart => exact ⟨0, by omega, rfl, rfl⟩
  case round =>
    obtain ⟨j, hj, rfl, rfl⟩ := hrel
    have hjn : j < n := by omega
    obtain ⟨i, hi⟩ : ∃ i, L[j]? = some i := ⟨L[j]'(by have := hn.out; omega), by rw [List.getElem?_eq_getElem]⟩
    have hi5 : i < 5 := hL.out i (List.mem_of_getElem? hi)
    have cj : wr.cell? ⟨b, o + j, none⟩ = some (cp g i) := by
      rw [cell_of_row wr b _ cs 36 _ rb, hat j (by simp [cps, hn.out]; omega)]; simp [cps, hi]
    by_cases hjk : j < k
    · have hne : i ≠ c := fun e => hbe.out j hjk (by rw [hi, e])
      have hd : decide (i = c) = false := by simpa using hne
      clear hi
      generalize hv : cp g i = vi at cj
      replace hv : Hid (cp g i = vi) := hv
      go_wp2_with (go_at_call 18; rw [← hv.out]; refine (clos_any g i c bx _ h hi5 hc rx).mono ?_; rintro e w1 ⟨rfl, hw1⟩; have hw2 := hw1.symm; subst hw2; rw [hd])
      go_roundw
      case rel => exact ⟨j + 1, by omega, by go_num, (by first | rfl | trivial)⟩
      case measure => simp [intOf]; omega
    · obtain rfl : j = k := by omega
      have hd : decide (i = c) = true := by have := hkc.out; rw [hi] at this; simpa using this
      clear hi
      generalize hv : cp g i = vi at cj
      replace hv : Hid (cp g i = vi) := hv
      go_wp2_with (go_at_call 18; rw [← hv.out]; refine (clos_any g i c bx _ h hi5 hc rx).mono ?_; rintro e w1 ⟨rfl, hw1⟩; have hw2 := hw1.symm; subst hw2; rw [hd])
      go_ret
      exact ⟨rfl, rfl⟩

set_option maxHeartbeats 1000000 in
theorem idx_none (g : Nat → Nat) (c bx b o n cap : Nat) (L : List Nat) (cs : Array Value) (w : World) (h : Cn w g) (hc : c < 5) (hL : ∀ i ∈ L, i < 5) (rx : w.heap[bx]? = some (.cells #[cp g c] 36))
    (rb : w.heap[b]? = some (.cells cs 36)) (hat : At cs o (cps g L)) (hn : Hid (L.length = n)) (hn1 : n ≤ 1000000) (hbe : Hid (c ∉ L)) :
    Calls Yba.prog 21 #[.slice (some ⟨b, o, none⟩) n cap, .func (.func 18) #[] #[.pointer (some ⟨bx, 0, none⟩)]] w fun e w' => e = .returned (.int .i64 (-1)) ∧ w' = w := by
  replace hL : Hid (∀ i ∈ L, i < 5) := hL
  go_enter Yba.func21, Yba.ntmps21
  go_wp2
  go_loopw [8] (fun i wr => ∃ j : Nat, j ≤ n ∧ i = .int .i64 j ∧ wr = w) (fun i _ => n - (intOf i).toNat)
  case atStart => exact ⟨0, by omega, rfl, rfl⟩
  case round =>
    obtain ⟨j, hj, rfl, rfl⟩ := hrel
    by_cases hjn : j < n
    · obtain ⟨i, hi⟩ : ∃ i, L[j]? = some i := ⟨L[j]'(by have := hn.out; omega), by rw [List.getElem?_eq_getElem]⟩
      have hi5 : i < 5 := hL.out i (List.mem_of_getElem? hi)
      have cj : wr.cell? ⟨b, o + j, none⟩ = some (cp g i) := by
        rw [cell_of_row wr b _ cs 36 _ rb, hat j (by simp [cps, hn.out]; omega)]; simp [cps, hi]
      have hne : i ≠ c := fun e => hbe.out (by rw [← e]; exact List.mem_of_getElem? hi)
      have hd : decide (i = c) = false := by simpa using hne
      clear hi
      generalize hv : cp g i = vi at cj
      replace hv : Hid (cp g i = vi) := hv
      go_wp2_with (go_at_call 18; rw [← hv.out]; refine (clos_any g i c bx _ h hi5 hc rx).mono ?_; rintro e w1 ⟨rfl, hw1⟩; have hw2 := hw1.symm; subst hw2; rw [hd])
      go_roundw
      case rel => exact ⟨j + 1, by omega, by go_num, (by first | rfl | trivial)⟩
      case measure => simp [intOf]; omega
    · obtain rfl : j = n := by omega
      go_wp2
      go_ret
      exact ⟨rfl, rfl⟩

set_option maxHeartbeats 400000 in
theorem idx_nil (f : Value) (w : World) : Calls Yba.prog 21 #[.slice none 0 0, f] w fun e w' => e = .returned (.int .i64 (-1)) ∧ w' = w := by
  go_enter Yba.func21, Yba.ntmps21
  go_wp2
  go_loopw [8] (fun i wr => i = .int .i64 0 ∧ wr = w) (fun _ _ => 0)
  case atStart => exact ⟨rfl, rfl⟩
  case round =>
    obtain ⟨rfl, rfl⟩ := hrel
    go_wp2
    go_ret
    exact ⟨rfl, rfl⟩
end Go.Proofs.Ybulkduvu
