import Derived.Test.YbulkdusoFmtRows
import Derived.Test.YbulkdusoFmtPlain
import Derived.Test.YbulkdusoFmtAnyB
import Derived.LoopN
namespace Go.Proofs.YbulkdusoFmt
open Go.RowKit Base

/-- the octets l lie in the block b from o on -/
def Bts (w : World) (b o : Nat) (l : List Int) : Prop := ∀ (i : Nat) (c : Int), l[i]? = some c → w.cell? ⟨b, o + i, none⟩ = some (.int .u8 c)

theorem at_lt {l : List Int} {n q : Nat} (hn : l.length = n) (h : q < n) : ∃ c, l[q]? = some c := ⟨l[q]'(by omega), by simp [List.getElem?_eq_getElem (show q < l.length by omega)]⟩
theorem at_ge {l : List Int} {n q : Nat} (hn : l.length = n) (h : ¬ q < n) : l[q]? = none := List.getElem?_eq_none (by omega)

def hres (p : Nat) : Option (Int × Nat) → Value
  | none => .tuple #[.int .i64 0, .int .i64 0, .bool false]
  | some (x, q) => .tuple #[.int .i64 ((q : Int) - p), .int .i64 x, .bool true]

set_option maxHeartbeats 4000000 in
theorem hdr_any (b o cap p n : Nat) (l : List Int) (w : World) (hn : l.length = n) (hl : n ≤ 1048576) (hp : p < n) (ho : Oct l) (hb : Bts w b o l) :
    Calls Ybaf.prog 13 #[.slice (some ⟨b, o, none⟩) n cap, .int .i64 p] w fun e w' => e = .returned (hres p (hd l p)) ∧ w' = w := by
  obtain ⟨x, hlx⟩ := at_lt hn hp
  have cx := hb p x hlx
  obtain ⟨hx0, hx1⟩ := ho p x hlx
  replace hn : Hid (l.length = n) := hn
  by_cases hx : x % 32 = 31
  · have hT0 : Hid (tg l p = tgR (hi (l.drop (p + 1)) 0 true (p + 1))) := by show tg l p = _; unfold tg; rw [hlx]; simp only [if_pos hx]
    clear hlx
    go_enter Ybaf.func13, Ybaf.ntmps13
    go_wp2
    go_loopw [8, 10, 11] (fun i num fst wr => ∃ (q : Nat) (m : Int) (f : Bool), p < q ∧ q ≤ n ∧ 0 ≤ m ∧ m < 9223372036854775808 ∧ i = .int .i64 q ∧ num = .int .u64 m ∧ fst = .bool f ∧ Hid (hi (l.drop (p + 1)) 0 true (p + 1) = hi (l.drop q) m f q) ∧ wr = w) (fun i _ _ _ => n - (intOf i).toNat)
    case atStart => exact ⟨p + 1, 0, true, by omega, by omega, by omega, by omega, rfl, rfl, rfl, rfl, rfl⟩
    case round =>
      obtain ⟨q, m, f, hpq, hq, hm0, hm, rfl, rfl, rfl, hH, rfl⟩ := hrel
      by_cases hlt : q < n
      · obtain ⟨y, hly⟩ := at_lt hn.out hlt
        have cy := hb q y hly
        obtain ⟨hy0, hy1⟩ := ho q y hly
        replace hH : Hid (hi (l.drop (p + 1)) 0 true (p + 1) = if f = true ∧ y = 128 then none else if 72057594037927935 < m then none else if y < 128 then some (m * 128 + y % 128, q + 1) else hi (l.drop (q + 1)) (m * 128 + y % 128) false (q + 1)) := by show hi _ _ _ _ = _; rw [hH.out, drop_at hly]; rfl
        clear hly
        by_cases h8 : f = true ∧ y = 128
        · have hE : Hid (hd l p = none) := by show hd l p = _; unfold hd; rw [hT0.out, hH.out, if_pos h8]; rfl
          obtain ⟨rfl, rfl⟩ := h8
          clear hH
          go_wp2
          go_ret3
          rw [hE.out]
          exact ⟨rfl, rfl⟩
        · rw [if_neg h8] at hH
          by_cases hov : 72057594037927935 < m
          · have hE : Hid (hd l p = none) := by show hd l p = _; unfold hd; rw [hT0.out, hH.out, if_pos hov]; rfl
            clear hH
            cases f with
            | false =>
              clear h8
              go_wp2
              go_ret3
              rw [hE.out]
              exact ⟨rfl, rfl⟩
            | true =>
              have h8' : (y == 128) = false := by simpa using h8
              clear h8
              go_wp2
              go_ret3
              rw [hE.out]
              exact ⟨rfl, rfl⟩
          · rw [if_neg hov] at hH
            have a1 := and127 hy0 hy1
            have a3 := or7 hm0 (by omega) (show 0 ≤ y % 128 by omega) (by omega)
            have a5 := wraps_u64 (y % 128) (by omega) (by omega)
            have hm2 : 0 ≤ m * 128 + y % 128 := by omega
            have hm3 : m * 128 + y % 128 < 9223372036854775808 := by omega
            by_cases h7 : y < 128
            · rw [if_pos h7] at hH
              have a4 := and128_lo hy0 h7
              obtain ⟨z, hz⟩ : ∃ z, z = m * 128 + y % 128 := ⟨_, rfl⟩
              rw [← hz] at a3 hm2 hm3 hH
              replace hz : Hid (z = m * 128 + y % 128) := hz
              by_cases hz31 : z < 31
              · have hE : Hid (hd l p = none) := by show hd l p = _; unfold hd; rw [hT0.out, hH.out]; simp only [tgR, if_pos hz31]
                clear hH
                cases f with
                | false =>
                  clear h8
                  go_wp2
                  go_ret3
                  rw [hE.out]
                  exact ⟨rfl, rfl⟩
                | true =>
                  have h8' : (y == 128) = false := by simpa using h8
                  clear h8
                  go_wp2
                  go_ret3
                  rw [hE.out]
                  exact ⟨rfl, rfl⟩
              · have hT1 : Hid (tg l p = some (q + 1)) := by show tg l p = _; rw [hT0.out, hH.out]; simp only [tgR, if_neg hz31]
                clear hH hT0
                cases f with
                | false =>
                  clear h8
                  have hT : Hid (tg l p = some (q + 1)) := hT1
                  clear hT1
                  have hD : Hid (hd l p = le l (q + 1)) := by show hd l p = _; unfold hd; rw [hT.out]
                  by_cases hlt : (q + 1) < n
                  · obtain ⟨c, hlc⟩ := at_lt hn.out hlt
                    have cc := hb (q + 1) c hlc
                    obtain ⟨hc0, hc1⟩ := ho (q + 1) c hlc
                    replace hlc : Hid (l[(q + 1)]? = some c) := hlc
                    by_cases h7 : c < 128
                    · have hE : Hid (hd l p = some (c, (q + 1) + 1)) := by show hd l p = _; rw [hD.out]; unfold le; rw [hlc.out]; simp only [if_pos h7]
                      clear hD
                      go_wp2
                      go_ret3
                      rw [hE.out]
                      exact ⟨by simp [hres], rfl⟩
                    · by_cases h8 : c = 128
                      · subst h8
                        have hE : Hid (hd l p = none) := by show hd l p = _; rw [hD.out]; unfold le; rw [hlc.out]; simp
                        clear hD
                        go_wp2
                        go_ret3
                        rw [hE.out]
                        exact ⟨rfl, rfl⟩
                      · by_cases h9 : c = 255
                        · subst h9
                          have hE : Hid (hd l p = none) := by show hd l p = _; rw [hD.out]; unfold le; rw [hlc.out]; simp
                          clear hD
                          go_wp2
                          go_ret3
                          rw [hE.out]
                          exact ⟨rfl, rfl⟩
                        · have hE : Hid (hd l p = ln (l.drop ((q + 1) + 1)) (c % 128).toNat 0 ((q + 1) + 1)) := by show hd l p = _; rw [hD.out]; unfold le; rw [hlc.out]; simp only [if_neg h7, if_neg (show ¬ (c = 128 ∨ c = 255) by omega)]
                          have a1 := and127 hc0 hc1
                          have h8' : (c == 128) = false := by simpa using h8
                          have h9' : (c == 255) = false := by simpa using h9
                          obtain ⟨k, hk⟩ : ∃ k : Nat, c % 128 = k := ⟨(c % 128).toNat, by omega⟩
                          rw [hk] at a1
                          have hkk : (c % 128).toNat = k := by omega
                          rw [hkk] at hE
                          have hk128 : k < 128 := by omega
                          clear hD
                          replace hk : Hid (c % 128 = k) := hk
                          clear hkk
                          go_wp2
                          go_loopw [8, 15, 16] (fun i s15 s16 wz => ∃ (q1 : Nat) (x : Int) (j : Nat), (q + 1) < q1 ∧ q1 ≤ n ∧ j ≤ k ∧ 0 ≤ x ∧ x < 9223372036854775808 ∧ i = .int .i64 q1 ∧ s15 = .int .i64 x ∧ s16 = .int .i64 j ∧ Hid (hd l p = ln (l.drop q1) (k - j) x q1) ∧ wz = wr) (fun _ _ s16 _ => k - (intOf s16).toNat)
                          case atStart => exact ⟨(q + 1) + 1, 0, 0, by omega, by omega, by omega, by omega, by omega, by go_num, rfl, rfl, hE, rfl⟩
                          case round =>
                            clear hE
                            obtain ⟨q1, x, j, hq1, hq1n, hj, hx0, hx1, rfl, rfl, rfl, hE, rfl⟩ := hrel
                            by_cases hjk : j < k
                            · obtain ⟨k', hk'⟩ : ∃ k', k - j = k' + 1 := ⟨k - j - 1, by omega⟩
                              have hk'' : k - (j + 1) = k' := by omega
                              rw [hk'] at hE
                              replace hk' : Hid (k - j = k' + 1) := hk'
                              replace hk'' : Hid (k - (j + 1) = k') := hk''
                              by_cases hl1 : q1 < n
                              · obtain ⟨d, hld⟩ := at_lt hn.out hl1
                                have cd := hb q1 d hld
                                obtain ⟨hd0, hd1⟩ := ho q1 d hld
                                replace hE : Hid (hd l p = if 36028797018963967 < x then none else ln (l.drop (q1 + 1)) k' (x * 256 + d) (q1 + 1)) := by show hd l p = _; rw [hE.out, drop_at hld]; rfl
                                clear hld
                                by_cases hov : 36028797018963967 < x
                                · replace hE : Hid (hd l p = none) := by show hd l p = _; rw [hE.out, if_pos hov]
                                  go_wp2
                                  go_ret3
                                  rw [hE.out]
                                  exact ⟨rfl, rfl⟩
                                · replace hE : Hid (hd l p = ln (l.drop (q1 + 1)) k' (x * 256 + d) (q1 + 1)) := by show hd l p = _; rw [hE.out, if_neg hov]
                                  have a2 := or8 hx0 (by omega) hd0 hd1
                                  go_wp2
                                  go_roundw
                                  case rel => exact ⟨q1 + 1, x * 256 + d, j + 1, by omega, by omega, by omega, by omega, by omega, by go_num, rfl, by go_num, by rw [hk''.out]; exact hE, (by first | rfl | trivial)⟩
                                  case measure => simp [intOf]; omega
                              · replace hE : Hid (hd l p = none) := by show hd l p = _; have hnil : l.drop q1 = [] := List.drop_eq_nil_of_le (by rw [hn.out]; omega); rw [hE.out, hnil]; rfl
                                go_wp2
                                go_ret3
                                rw [hE.out]
                                exact ⟨rfl, rfl⟩
                            · replace hE : Hid (hd l p = some (x, q1)) := by show hd l p = _; rw [hE.out, show k - j = 0 by omega]; cases (l.drop q1) <;> rfl
                              go_wp2
                              go_ret3
                              rw [hE.out]
                              exact ⟨rfl, rfl⟩
                  · have hE : Hid (hd l p = none) := by show hd l p = _; rw [hD.out]; unfold le; rw [at_ge hn.out hlt]
                    clear hD
                    go_wp2
                    go_ret3
                    rw [hE.out]
                    exact ⟨rfl, rfl⟩
                | true =>
                  have h8' : (y == 128) = false := by simpa using h8
                  clear h8
                  have hT : Hid (tg l p = some (q + 1)) := hT1
                  clear hT1
                  have hD : Hid (hd l p = le l (q + 1)) := by show hd l p = _; unfold hd; rw [hT.out]
                  by_cases hlt : (q + 1) < n
                  · obtain ⟨c, hlc⟩ := at_lt hn.out hlt
                    have cc := hb (q + 1) c hlc
                    obtain ⟨hc0, hc1⟩ := ho (q + 1) c hlc
                    replace hlc : Hid (l[(q + 1)]? = some c) := hlc
                    by_cases h7 : c < 128
                    · have hE : Hid (hd l p = some (c, (q + 1) + 1)) := by show hd l p = _; rw [hD.out]; unfold le; rw [hlc.out]; simp only [if_pos h7]
                      clear hD
                      go_wp2
                      go_ret3
                      rw [hE.out]
                      exact ⟨by simp [hres], rfl⟩
                    · by_cases h8 : c = 128
                      · subst h8
                        have hE : Hid (hd l p = none) := by show hd l p = _; rw [hD.out]; unfold le; rw [hlc.out]; simp
                        clear hD
                        go_wp2
                        go_ret3
                        rw [hE.out]
                        exact ⟨rfl, rfl⟩
                      · by_cases h9 : c = 255
                        · subst h9
                          have hE : Hid (hd l p = none) := by show hd l p = _; rw [hD.out]; unfold le; rw [hlc.out]; simp
                          clear hD
                          go_wp2
                          go_ret3
                          rw [hE.out]
                          exact ⟨rfl, rfl⟩
                        · have hE : Hid (hd l p = ln (l.drop ((q + 1) + 1)) (c % 128).toNat 0 ((q + 1) + 1)) := by show hd l p = _; rw [hD.out]; unfold le; rw [hlc.out]; simp only [if_neg h7, if_neg (show ¬ (c = 128 ∨ c = 255) by omega)]
                          have a1 := and127 hc0 hc1
                          have h8' : (c == 128) = false := by simpa using h8
                          have h9' : (c == 255) = false := by simpa using h9
                          obtain ⟨k, hk⟩ : ∃ k : Nat, c % 128 = k := ⟨(c % 128).toNat, by omega⟩
                          rw [hk] at a1
                          have hkk : (c % 128).toNat = k := by omega
                          rw [hkk] at hE
                          have hk128 : k < 128 := by omega
                          clear hD
                          replace hk : Hid (c % 128 = k) := hk
                          clear hkk
                          go_wp2
                          go_loopw [8, 15, 16] (fun i s15 s16 wz => ∃ (q1 : Nat) (x : Int) (j : Nat), (q + 1) < q1 ∧ q1 ≤ n ∧ j ≤ k ∧ 0 ≤ x ∧ x < 9223372036854775808 ∧ i = .int .i64 q1 ∧ s15 = .int .i64 x ∧ s16 = .int .i64 j ∧ Hid (hd l p = ln (l.drop q1) (k - j) x q1) ∧ wz = wr) (fun _ _ s16 _ => k - (intOf s16).toNat)
                          case atStart => exact ⟨(q + 1) + 1, 0, 0, by omega, by omega, by omega, by omega, by omega, by go_num, rfl, rfl, hE, rfl⟩
                          case round =>
                            clear hE
                            obtain ⟨q1, x, j, hq1, hq1n, hj, hx0, hx1, rfl, rfl, rfl, hE, rfl⟩ := hrel
                            by_cases hjk : j < k
                            · obtain ⟨k', hk'⟩ : ∃ k', k - j = k' + 1 := ⟨k - j - 1, by omega⟩
                              have hk'' : k - (j + 1) = k' := by omega
                              rw [hk'] at hE
                              replace hk' : Hid (k - j = k' + 1) := hk'
                              replace hk'' : Hid (k - (j + 1) = k') := hk''
                              by_cases hl1 : q1 < n
                              · obtain ⟨d, hld⟩ := at_lt hn.out hl1
                                have cd := hb q1 d hld
                                obtain ⟨hd0, hd1⟩ := ho q1 d hld
                                replace hE : Hid (hd l p = if 36028797018963967 < x then none else ln (l.drop (q1 + 1)) k' (x * 256 + d) (q1 + 1)) := by show hd l p = _; rw [hE.out, drop_at hld]; rfl
                                clear hld
                                by_cases hov : 36028797018963967 < x
                                · replace hE : Hid (hd l p = none) := by show hd l p = _; rw [hE.out, if_pos hov]
                                  go_wp2
                                  go_ret3
                                  rw [hE.out]
                                  exact ⟨rfl, rfl⟩
                                · replace hE : Hid (hd l p = ln (l.drop (q1 + 1)) k' (x * 256 + d) (q1 + 1)) := by show hd l p = _; rw [hE.out, if_neg hov]
                                  have a2 := or8 hx0 (by omega) hd0 hd1
                                  go_wp2
                                  go_roundw
                                  case rel => exact ⟨q1 + 1, x * 256 + d, j + 1, by omega, by omega, by omega, by omega, by omega, by go_num, rfl, by go_num, by rw [hk''.out]; exact hE, (by first | rfl | trivial)⟩
                                  case measure => simp [intOf]; omega
                              · replace hE : Hid (hd l p = none) := by show hd l p = _; have hnil : l.drop q1 = [] := List.drop_eq_nil_of_le (by rw [hn.out]; omega); rw [hE.out, hnil]; rfl
                                go_wp2
                                go_ret3
                                rw [hE.out]
                                exact ⟨rfl, rfl⟩
                            · replace hE : Hid (hd l p = some (x, q1)) := by show hd l p = _; rw [hE.out, show k - j = 0 by omega]; cases (l.drop q1) <;> rfl
                              go_wp2
                              go_ret3
                              rw [hE.out]
                              exact ⟨rfl, rfl⟩
                  · have hE : Hid (hd l p = none) := by show hd l p = _; rw [hD.out]; unfold le; rw [at_ge hn.out hlt]
                    clear hD
                    go_wp2
                    go_ret3
                    rw [hE.out]
                    exact ⟨rfl, rfl⟩
            · rw [if_neg h7] at hH
              have a4 := and128_hi (show 128 ≤ y by omega) hy1
              cases f with
              | false =>
                clear h8
                go_wp2
                go_roundw
                case rel => exact ⟨q + 1, m * 128 + y % 128, false, by omega, by omega, hm2, hm3, by go_num, rfl, rfl, hH, (by first | rfl | trivial)⟩
                case measure => simp [intOf]; omega
              | true =>
                have h8' : (y == 128) = false := by simpa using h8
                clear h8
                go_wp2
                go_roundw
                case rel => exact ⟨q + 1, m * 128 + y % 128, false, by omega, by omega, hm2, hm3, by go_num, rfl, rfl, hH, (by first | rfl | trivial)⟩
                case measure => simp [intOf]; omega
      · have hE : Hid (hd l p = none) := by
          have hh := hH.out
          have hnil : l.drop q = [] := List.drop_eq_nil_of_le (by rw [hn.out]; omega)
          rw [hnil] at hh
          show hd l p = _; unfold hd; rw [hT0.out, hh]; rfl
        go_wp2
        go_ret3
        rw [hE.out]
        exact ⟨rfl, rfl⟩
  · have hT1 : Hid (tg l p = some (p + 1)) := by show tg l p = _; unfold tg; rw [hlx]; simp only [if_neg hx]
    clear hlx
    have hT : Hid (tg l p = some (p + 1)) := hT1
    clear hT1
    have hD : Hid (hd l p = le l (p + 1)) := by show hd l p = _; unfold hd; rw [hT.out]
    by_cases hlt : (p + 1) < n
    · obtain ⟨c, hlc⟩ := at_lt hn.out hlt
      have cc := hb (p + 1) c hlc
      obtain ⟨hc0, hc1⟩ := ho (p + 1) c hlc
      replace hlc : Hid (l[(p + 1)]? = some c) := hlc
      by_cases h7 : c < 128
      · have hE : Hid (hd l p = some (c, (p + 1) + 1)) := by show hd l p = _; rw [hD.out]; unfold le; rw [hlc.out]; simp only [if_pos h7]
        clear hD
        go_enter Ybaf.func13, Ybaf.ntmps13; go_wp2
        go_ret3
        rw [hE.out]
        exact ⟨by simp [hres], rfl⟩
      · by_cases h8 : c = 128
        · subst h8
          have hE : Hid (hd l p = none) := by show hd l p = _; rw [hD.out]; unfold le; rw [hlc.out]; simp
          clear hD
          go_enter Ybaf.func13, Ybaf.ntmps13; go_wp2
          go_ret3
          rw [hE.out]
          exact ⟨rfl, rfl⟩
        · by_cases h9 : c = 255
          · subst h9
            have hE : Hid (hd l p = none) := by show hd l p = _; rw [hD.out]; unfold le; rw [hlc.out]; simp
            clear hD
            go_enter Ybaf.func13, Ybaf.ntmps13; go_wp2
            go_ret3
            rw [hE.out]
            exact ⟨rfl, rfl⟩
          · have hE : Hid (hd l p = ln (l.drop ((p + 1) + 1)) (c % 128).toNat 0 ((p + 1) + 1)) := by show hd l p = _; rw [hD.out]; unfold le; rw [hlc.out]; simp only [if_neg h7, if_neg (show ¬ (c = 128 ∨ c = 255) by omega)]
            have a1 := and127 hc0 hc1
            have h8' : (c == 128) = false := by simpa using h8
            have h9' : (c == 255) = false := by simpa using h9
            obtain ⟨k, hk⟩ : ∃ k : Nat, c % 128 = k := ⟨(c % 128).toNat, by omega⟩
            rw [hk] at a1
            have hkk : (c % 128).toNat = k := by omega
            rw [hkk] at hE
            have hk128 : k < 128 := by omega
            clear hD
            replace hk : Hid (c % 128 = k) := hk
            clear hkk
            go_enter Ybaf.func13, Ybaf.ntmps13; go_wp2
            go_loopw [8, 15, 16] (fun i s15 s16 wz => ∃ (q1 : Nat) (x : Int) (j : Nat), (p + 1) < q1 ∧ q1 ≤ n ∧ j ≤ k ∧ 0 ≤ x ∧ x < 9223372036854775808 ∧ i = .int .i64 q1 ∧ s15 = .int .i64 x ∧ s16 = .int .i64 j ∧ Hid (hd l p = ln (l.drop q1) (k - j) x q1) ∧ wz = w) (fun _ _ s16 _ => k - (intOf s16).toNat)
            case atStart => exact ⟨(p + 1) + 1, 0, 0, by omega, by omega, by omega, by omega, by omega, by go_num, rfl, rfl, hE, rfl⟩
            case round =>
              clear hE
              obtain ⟨q1, x, j, hq1, hq1n, hj, hx0, hx1, rfl, rfl, rfl, hE, rfl⟩ := hrel
              by_cases hjk : j < k
              · obtain ⟨k', hk'⟩ : ∃ k', k - j = k' + 1 := ⟨k - j - 1, by omega⟩
                have hk'' : k - (j + 1) = k' := by omega
                rw [hk'] at hE
                replace hk' : Hid (k - j = k' + 1) := hk'
                replace hk'' : Hid (k - (j + 1) = k') := hk''
                by_cases hl1 : q1 < n
                · obtain ⟨d, hld⟩ := at_lt hn.out hl1
                  have cd := hb q1 d hld
                  obtain ⟨hd0, hd1⟩ := ho q1 d hld
                  replace hE : Hid (hd l p = if 36028797018963967 < x then none else ln (l.drop (q1 + 1)) k' (x * 256 + d) (q1 + 1)) := by show hd l p = _; rw [hE.out, drop_at hld]; rfl
                  clear hld
                  by_cases hov : 36028797018963967 < x
                  · replace hE : Hid (hd l p = none) := by show hd l p = _; rw [hE.out, if_pos hov]
                    go_wp2
                    go_ret3
                    rw [hE.out]
                    exact ⟨rfl, rfl⟩
                  · replace hE : Hid (hd l p = ln (l.drop (q1 + 1)) k' (x * 256 + d) (q1 + 1)) := by show hd l p = _; rw [hE.out, if_neg hov]
                    have a2 := or8 hx0 (by omega) hd0 hd1
                    go_wp2
                    go_roundw
                    case rel => exact ⟨q1 + 1, x * 256 + d, j + 1, by omega, by omega, by omega, by omega, by omega, by go_num, rfl, by go_num, by rw [hk''.out]; exact hE, (by first | rfl | trivial)⟩
                    case measure => simp [intOf]; omega
                · replace hE : Hid (hd l p = none) := by show hd l p = _; have hnil : l.drop q1 = [] := List.drop_eq_nil_of_le (by rw [hn.out]; omega); rw [hE.out, hnil]; rfl
                  go_wp2
                  go_ret3
                  rw [hE.out]
                  exact ⟨rfl, rfl⟩
              · replace hE : Hid (hd l p = some (x, q1)) := by show hd l p = _; rw [hE.out, show k - j = 0 by omega]; cases (l.drop q1) <;> rfl
                go_wp2
                go_ret3
                rw [hE.out]
                exact ⟨rfl, rfl⟩
    · have hE : Hid (hd l p = none) := by show hd l p = _; rw [hD.out]; unfold le; rw [at_ge hn.out hlt]
      clear hD
      go_enter Ybaf.func13, Ybaf.ntmps13; go_wp2
      go_ret3
      rw [hE.out]
      exact ⟨rfl, rfl⟩
end Go.Proofs.YbulkdusoFmt
