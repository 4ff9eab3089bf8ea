import Derived.Test.YbulkduvuMod
namespace Go.Proofs.Ybulkduvu
open Go.RowKit Base

theorem m5 {w : World} {mb : Nat} {cl : Nat → Int} {K Ls : Value} (h : w.heap[mb]? = some (.cells (mRow cl K Ls) 43)) : w.cell? ⟨mb, 5, none⟩ = some K := by rw [cell_of_row w mb 5 _ _ _ h]; rfl
theorem m6 {w : World} {mb : Nat} {cl : Nat → Int} {K Ls : Value} (h : w.heap[mb]? = some (.cells (mRow cl K Ls) 43)) : w.cell? ⟨mb, 6, none⟩ = some Ls := by rw [cell_of_row w mb 6 _ _ _ h]; rfl
theorem mc {w : World} {mb c : Nat} {cl : Nat → Int} {K Ls : Value} (h : w.heap[mb]? = some (.cells (mRow cl K Ls) 43)) (hc : c < 5) : w.cell? ⟨mb, c, none⟩ = some (.int .i64 (cl c)) := by rw [cell_of_row w mb c _ _ _ h]; exact mRow_cl hc

/-- an element of a slice of one cell each -/
theorem Seg.at {w : World} {v : Value} {t : TypeId} {n : Nat} {ys : List Value} (h : Seg w v t 1 n ys) {j : Nat} (hj : j < n) : ∃ b o cap, v = .slice (some ⟨b, o, none⟩) n cap ∧ ∀ y, ys[j]? = some y → w.cell? ⟨b, o + j, none⟩ = some y := by
  rcases h with ⟨_, rfl, _⟩ | ⟨b, o, cap, cs, rfl, hr, _, _, hl, hat⟩
  · omega
  · exact ⟨b, o, cap, rfl, fun y hy => by rw [cell_of_row w b _ cs t _ hr, hat j (by omega)]; exact hy⟩

theorem kis_at {ks : List Int} {j : Nat} {k : Int} (h : ks[j]? = some k) : (kis ks)[j]? = some (.int .i64 k) := by simp [kis, h]
theorem nis_at {l : List Nat} {j i : Nat} (h : l[j]? = some i) : (nis l)[j]? = some (.int .i64 (i : Int)) := by simp [nis, h]

section
variable {w : World} {base mb n : Nat} {cl : Nat → Int} {ks : List Int} {L : Int → List Nat} {K Ls : Value} {W : Int → Value} {ox : List Nat}

set_option maxHeartbeats 1000000 in
theorem find_in (h : Md w base mb n cl ks L K Ls W ox) (hn1 : n ≤ 1000000) {k : Int} {i m : Nat} (hm : Hid (ks.length = m)) (hi : Hid (ks[i]? = some k)) (him : i < m) :
    Calls Yba.prog 16 #[.pointer (some ⟨mb, 0, none⟩), .int .i64 k] w fun e w' => e = .returned (.int .i64 i) ∧ w' = w := by
  have hks := h.kseg
  have hmn : m ≤ n := by rw [← hm.out]; exact h.kn
  have hnd := h.nd
  rw [hm.out] at hks
  obtain ⟨ka, kc, rfl⟩ := Seg.form hks
  have c5 := m5 h.rm
  clear h
  replace hnd : Hid ks.Nodup := hnd
  replace hks : Hid _ := hks
  go_enter Yba.func16, Yba.ntmps16
  go_wp2
  go_loopw [5] (fun s5 wr => ∃ j : Nat, j ≤ i ∧ s5 = .int .i64 j ∧ wr = w) (fun s5 _ => m - (intOf s5).toNat)
  case atStart => exact ⟨0, by omega, rfl, rfl⟩
  case round =>
    obtain ⟨j, hj, rfl, rfl⟩ := hrel
    have hjm : j < m := by omega
    obtain ⟨b, o, cap, he, hel⟩ := Seg.at hks.out hjm
    cases he
    obtain ⟨x, hx⟩ : ∃ x, ks[j]? = some x := ⟨ks[j]'(by have := hm.out; omega), by rw [List.getElem?_eq_getElem]⟩
    have cj := hel _ (kis_at hx)
    clear hel
    by_cases hji : j = i
    · subst hji
      obtain rfl : x = k := by have := hi.out; rw [hx] at this; cases this; rfl
      clear hx
      go_wp2
      go_ret
      exact ⟨rfl, rfl⟩
    · have hne : (x == k) = false := by
        simp
        intro e
        subst e
        exact hji ((List.getElem?_inj (by have := hm.out; omega) hnd.out).1 (hx.trans hi.out.symm))
      clear hx
      go_wp2
      go_roundw
      case rel => exact ⟨j + 1, by omega, by go_num, (by first | rfl | trivial)⟩
      case measure => simp [intOf]; omega

set_option maxHeartbeats 1000000 in
theorem find_out (h : Md w base mb n cl ks L K Ls W ox) (hn1 : n ≤ 1000000) {k : Int} {m : Nat} (hm : Hid (ks.length = m)) (hi : Hid (k ∉ ks)) :
    Calls Yba.prog 16 #[.pointer (some ⟨mb, 0, none⟩), .int .i64 k] w fun e w' => e = .returned (.int .i64 (-1)) ∧ w' = w := by
  have hks := h.kseg
  have hmn : m ≤ n := by rw [← hm.out]; exact h.kn
  rw [hm.out] at hks
  obtain ⟨ka, kc, rfl⟩ := Seg.form hks
  have c5 := m5 h.rm
  clear h
  replace hks : Hid _ := hks
  go_enter Yba.func16, Yba.ntmps16
  go_wp2
  go_loopw [5] (fun s5 wr => ∃ j : Nat, j ≤ m ∧ s5 = .int .i64 j ∧ wr = w) (fun s5 _ => m - (intOf s5).toNat)
  case atStart => exact ⟨0, by omega, rfl, rfl⟩
  case round =>
    obtain ⟨j, hj, rfl, rfl⟩ := hrel
    by_cases hjm : j < m
    · obtain ⟨b, o, cap, he, hel⟩ := Seg.at hks.out hjm
      cases he
      obtain ⟨x, hx⟩ : ∃ x, ks[j]? = some x := ⟨ks[j]'(by have := hm.out; omega), by rw [List.getElem?_eq_getElem]⟩
      have cj := hel _ (kis_at hx)
      have hne : (x == k) = false := by
        simp
        intro e
        subst e
        exact hi.out (List.mem_of_getElem? hx)
      clear hel hx
      go_wp2
      go_roundw
      case rel => exact ⟨j + 1, by omega, by go_num, (by first | rfl | trivial)⟩
      case measure => simp [intOf]; omega
    · obtain rfl : j = m := by omega
      go_wp2
      go_ret
      exact ⟨rfl, rfl⟩
end
end Go.Proofs.Ybulkduvu
