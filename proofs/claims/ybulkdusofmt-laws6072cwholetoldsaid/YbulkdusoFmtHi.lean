import Derived.Test.YbulkdusoFmtHdr
namespace Go.Proofs.YbulkdusoFmt
open Go.RowKit Base

/-- a Scanner over the slice v at p -/
def scn (v : Value) (p : Int) : Array Value := #[.int .i64 0, .bool false, v, .int .i64 p, .slice none 0 0, .int .i64 0, .slice none 0 0, .int .i64 0, .nilIface]

theorem scn1 {w : World} {s : Nat} {v : Value} {p : Int} (h : w.heap[s]? = some (.cells (scn v p) 34)) : w.cell? ⟨s, 1, none⟩ = some (.bool false) := by rw [cell_of_row w s 1 _ _ _ h]; rfl
theorem scn2 {w : World} {s : Nat} {v : Value} {p : Int} (h : w.heap[s]? = some (.cells (scn v p) 34)) : w.cell? ⟨s, 2, none⟩ = some v := by rw [cell_of_row w s 2 _ _ _ h]; rfl
theorem scn3 {w : World} {s : Nat} {v : Value} {p : Int} (h : w.heap[s]? = some (.cells (scn v p) 34)) : w.cell? ⟨s, 3, none⟩ = some (.int .i64 p) := by rw [cell_of_row w s 3 _ _ _ h]; rfl

def hiRes (R : Option (Int × Nat)) (e : Ending) : Prop :=
  match R with
  | none => ∃ x, e = .returned (.tuple #[.int .u64 0, .int .i64 0, .iface 77 x])
  | some (m, q) => e = .returned (.tuple #[.int .u64 m, .int .i64 q, .nilIface])

set_option maxHeartbeats 4000000 in
theorem high_any (s b o cap p n : Nat) (l : List Int) (P : Int) (w : World) (hn : Hid (l.length = n)) (hl : n ≤ 1048576) (hp : p ≤ n) (ho : Oct l) (hb : Bts w b o l) (hs : w.heap[s]? = some (.cells (scn (.slice (some ⟨b, o, none⟩) n cap) P) 34)) :
    Calls Ybaf.prog 14 #[.pointer (some ⟨s, 0, none⟩), .int .i64 p] w fun e w' => Fr [] w w' ∧ hiRes (hi (l.drop p) 0 true p) e := by
  have s2 := scn2 hs
  go_enter Ybaf.func14, Ybaf.ntmps14
  go_wp2
  go_loopw [1, 8] (fun i num wr => ∃ (q : Nat) (m : Int), p ≤ q ∧ q ≤ n ∧ 0 ≤ m ∧ m < 9223372036854775808 ∧ i = .int .i64 q ∧ num = .int .u64 m ∧ Hid (hi (l.drop p) 0 true p = hi (l.drop q) m (decide (q = p)) q) ∧ wr = w) (fun i _ _ => n - (intOf i).toNat)
  case atStart => exact ⟨p, 0, by omega, by omega, by omega, by omega, rfl, rfl, by simp [Hid], rfl⟩
  case round =>
    obtain ⟨q, m, hpq, hq, hm0, hm, rfl, rfl, hH, rfl⟩ := hrel
    by_cases hlt : q < n
    · obtain ⟨y, hly⟩ := at_lt hn.out hlt
      have cy := hb q y hly
      obtain ⟨hy0, hy1⟩ := ho q y hly
      replace hH : Hid (hi (l.drop p) 0 true p = if decide (q = p) = true ∧ y = 128 then none else if 72057594037927935 < m then none else if y < 128 then some (m * 128 + y % 128, q + 1) else hi (l.drop (q + 1)) (m * 128 + y % 128) false (q + 1)) := by show hi _ _ _ _ = _; rw [hH.out, drop_at hly]; rfl
      clear hly
      have hne : (q : Int) ≠ n := by omega
      by_cases h8 : q = p ∧ y = 128
      · obtain ⟨rfl, rfl⟩ := h8
        replace hH : Hid (hi (l.drop q) 0 true q = none) := by show hi _ _ _ _ = _; rw [hH.out]; simp
        go_wp2_with (refine wpList_box rfl 80 _ rfl (some 38) rfl _ _ rfl rfl ?_; intro g w1 e1 F1 rg z1)
        go_ret3
        rw [hH.out]
        exact ⟨F1, _, rfl⟩
      · replace hH : Hid (hi (l.drop p) 0 true p = if 72057594037927935 < m then none else if y < 128 then some (m * 128 + y % 128, q + 1) else hi (l.drop (q + 1)) (m * 128 + y % 128) false (q + 1)) := by show hi _ _ _ _ = _; rw [hH.out, if_neg (by simpa using h8)]
        have e1 : decide (q + 1 = p) = false := by simp; omega
        have h8' : (q = p ∧ y ≠ 128) ∨ q ≠ p := by omega
        clear h8
        by_cases hov : 72057594037927935 < m
        · replace hH : Hid (hi (l.drop p) 0 true p = none) := by show hi _ _ _ _ = _; rw [hH.out, if_pos hov]
          rcases h8' with ⟨rfl, h8⟩ | h8
          · have h9 : (y == 128) = false := by simpa using h8
            go_wp2_with (refine wpList_box rfl 80 _ rfl (some 45) rfl _ _ rfl rfl ?_; intro g w1 e1 F1 rg z1)
            go_ret3
            rw [hH.out]
            exact ⟨F1, _, rfl⟩
          · have h9 : ((q : Int) == (p : Int)) = false := by simp; omega
            go_wp2_with (refine wpList_box rfl 80 _ rfl (some 45) rfl _ _ rfl rfl ?_; intro g w1 e1 F1 rg z1)
            go_ret3
            rw [hH.out]
            exact ⟨F1, _, rfl⟩
        · replace hH : Hid (hi (l.drop p) 0 true p = if y < 128 then some (m * 128 + y % 128, q + 1) else hi (l.drop (q + 1)) (m * 128 + y % 128) false (q + 1)) := by show hi _ _ _ _ = _; rw [hH.out, if_neg hov]
          have a1 := and127 hy0 hy1
          have a3 := or7 hm0 (by omega) (show 0 ≤ y % 128 by omega) (by omega)
          have a5 := wraps_u64 (y % 128) (by omega) (by omega)
          have hm2 : 0 ≤ m * 128 + y % 128 := by omega
          have hm3 : m * 128 + y % 128 < 9223372036854775808 := by omega
          by_cases h7 : y < 128
          · replace hH : Hid (hi (l.drop p) 0 true p = some (m * 128 + y % 128, q + 1)) := by show hi _ _ _ _ = _; rw [hH.out, if_pos h7]
            have a4 := and128_lo hy0 h7
            rcases h8' with ⟨rfl, h8⟩ | h8
            · have h9 : (y == 128) = false := by simpa using h8
              go_wp2
              go_ret3
              rw [hH.out]
              exact ⟨Fr.refl _ _, rfl⟩
            · have h9 : ((q : Int) == (p : Int)) = false := by simp; omega
              go_wp2
              go_ret3
              rw [hH.out]
              exact ⟨Fr.refl _ _, rfl⟩
          · replace hH : Hid (hi (l.drop p) 0 true p = hi (l.drop (q + 1)) (m * 128 + y % 128) false (q + 1)) := by show hi _ _ _ _ = _; rw [hH.out, if_neg h7]
            have a4 := and128_hi (show 128 ≤ y by omega) hy1
            rcases h8' with ⟨rfl, h8⟩ | h8
            · have h9 : (y == 128) = false := by simpa using h8
              go_wp2
              go_roundw
              case rel => exact ⟨q + 1, m * 128 + y % 128, by omega, by omega, hm2, hm3, by go_num, rfl, by rw [e1]; exact hH, (by first | rfl | trivial)⟩
              case measure => simp [intOf]; omega
            · have h9 : ((q : Int) == (p : Int)) = false := by simp; omega
              go_wp2
              go_roundw
              case rel => exact ⟨q + 1, m * 128 + y % 128, by omega, by omega, hm2, hm3, by go_num, rfl, by rw [e1]; exact hH, (by first | rfl | trivial)⟩
              case measure => simp [intOf]; omega
    · obtain rfl : q = n := by omega
      replace hH : Hid (hi (l.drop p) 0 true p = none) := by
        have hh := hH.out
        have hnil : l.drop q = [] := List.drop_eq_nil_of_le (by rw [hn.out]; omega)
        rw [hnil] at hh
        show hi _ _ _ _ = _; rw [hh]; rfl
      go_wp2_with (refine wpList_box rfl 80 _ rfl (some 20) rfl _ _ rfl rfl ?_; intro g w1 e1 F1 rg z1)
      go_ret3
      rw [hH.out]
      exact ⟨F1, _, rfl⟩
end Go.Proofs.YbulkdusoFmt
