import Derived.Test.YbulkdusoFmtHi
namespace Go.Proofs.YbulkdusoFmt
open Go.RowKit Base

def leRes (i : Prop) (R : Option (Int × Nat)) (e : Ending) : Prop :=
  match R with
  | none => (¬ i ∧ ∃ x, e = .returned (.tuple #[.int .i64 0, .int .i64 0, .iface 77 x])) ∨ (i ∧ ∃ q : Nat, q ≤ 1048576 ∧ e = .returned (.tuple #[.int .i64 (-1), .int .i64 q, .nilIface]))
  | some (x, q) => e = .returned (.tuple #[.int .i64 x, .int .i64 q, .nilIface])

set_option maxHeartbeats 4000000 in
theorem len_any (s b o cap q n : Nat) (l : List Int) (P : Int) (w : World) (hn : Hid (l.length = n)) (hl : n ≤ 1048576) (hq : q ≤ n) (ho : Oct l) (hb : Bts w b o l) (hs : w.heap[s]? = some (.cells (scn (.slice (some ⟨b, o, none⟩) n cap) P) 34)) :
    Calls Ybaf.prog 16 #[.pointer (some ⟨s, 0, none⟩), .int .i64 q] w fun e w' => Fr [] w w' ∧ leRes (l[q]? = some 128) (le l q) e := by
  have s2 := scn2 hs
  clear hs
  by_cases hlt : q < n
  · obtain ⟨c, hlc⟩ := at_lt hn.out hlt
    have cc := hb q c hlc
    obtain ⟨hc0, hc1⟩ := ho q c hlc
    have hne : ((q : Int) == (n : Int)) = false := by simp; omega
    replace hlc : Hid (l[q]? = some c) := hlc
    by_cases h7 : c < 128
    · have hE : Hid (le l q = some (c, q + 1)) := by show le l q = _; unfold le; rw [hlc.out]; simp only [if_pos h7]
      go_enter Ybaf.func16, Ybaf.ntmps16
      go_wp2
      go_ret3
      rw [hE.out]
      exact ⟨Fr.refl _ _, rfl⟩
    · by_cases h8 : c = 128
      · subst h8
        have hE : Hid (le l q = none) := by show le l q = _; unfold le; rw [hlc.out]; simp
        go_enter Ybaf.func16, Ybaf.ntmps16
        go_wp2
        go_ret3
        rw [hE.out]
        exact ⟨Fr.refl _ _, .inr ⟨hlc, q + 1, by omega, rfl⟩⟩
      · by_cases h9 : c = 255
        · subst h9
          have hni : Hid (¬ (l[q]? = some 128)) := by show ¬ _; rw [hlc.out]; simp
          have hE : Hid (le l q = none) := by show le l q = _; unfold le; rw [hlc.out]; simp
          go_enter Ybaf.func16, Ybaf.ntmps16
          go_wp2_with (refine wpList_box rfl 80 _ rfl (some 46) rfl _ _ rfl rfl ?_; intro g w1 e1 F1 rg z1)
          go_ret3
          rw [hE.out]
          exact ⟨F1, .inl ⟨hni.out, _, rfl⟩⟩
        · have hni : Hid (¬ (l[q]? = some 128)) := by show ¬ _; rw [hlc.out]; simpa using h8
          have hE : Hid (le l q = ln (l.drop (q + 1)) (c % 128).toNat 0 (q + 1)) := by show le l q = _; unfold le; rw [hlc.out]; simp only [if_neg h7, if_neg (show ¬ (c = 128 ∨ c = 255) by omega)]
          have a1 := and127 hc0 hc1
          have h8' : (c == 128) = false := by simpa using h8
          have h9' : (c == 255) = false := by simpa using h9
          obtain ⟨k, hk⟩ : ∃ k : Nat, c % 128 = k := ⟨(c % 128).toNat, by omega⟩
          rw [hk] at a1
          have hkk : (c % 128).toNat = k := by omega
          rw [hkk] at hE
          have hk128 : k < 128 := by omega
          replace hk : Hid (c % 128 = k) := hk
          clear hkk
          go_enter Ybaf.func16, Ybaf.ntmps16
          go_wp2
          go_loopw [1, 9, 51] (fun i s15 s16 wz => ∃ (q1 : Nat) (x : Int) (j : Nat), q < q1 ∧ q1 ≤ n ∧ j ≤ k ∧ 0 ≤ x ∧ x < 9223372036854775808 ∧ i = .int .i64 q1 ∧ s15 = .int .i64 x ∧ s16 = .int .i64 j ∧ Hid (le l q = ln (l.drop q1) (k - j) x q1) ∧ wz = w) (fun _ _ s16 _ => k - (intOf s16).toNat)
          case atStart => exact ⟨q + 1, 0, 0, by omega, by omega, by omega, by omega, by omega, by go_num, rfl, rfl, hE, rfl⟩
          case round =>
            clear hE
            obtain ⟨q1, x, j, hq1, hq1n, hj, hx0, hx1, rfl, rfl, rfl, hE, rfl⟩ := hrel
            by_cases hjk : j < k
            · obtain ⟨k', hk'⟩ : ∃ k', k - j = k' + 1 := ⟨k - j - 1, by omega⟩
              have hk'' : k - (j + 1) = k' := by omega
              rw [hk'] at hE
              replace hk' : Hid (k - j = k' + 1) := hk'
              replace hk'' : Hid (k - (j + 1) = k') := hk''
              by_cases hl1 : q1 < n
              · obtain ⟨d, hld⟩ := at_lt hn.out hl1
                have cd := hb q1 d hld
                obtain ⟨hd0, hd1⟩ := ho q1 d hld
                have hne1 : ((q1 : Int) == (n : Int)) = false := by simp; omega
                replace hE : Hid (le l q = if 36028797018963967 < x then none else ln (l.drop (q1 + 1)) k' (x * 256 + d) (q1 + 1)) := by show le l q = _; rw [hE.out, drop_at hld]; rfl
                clear hld
                by_cases hov : 36028797018963967 < x
                · replace hE : Hid (le l q = none) := by show le l q = _; rw [hE.out, if_pos hov]
                  go_wp2_with (refine wpList_box rfl 80 _ rfl (some 68) rfl _ _ rfl rfl ?_; intro g w1 e1 F1 rg z1)
                  go_ret3
                  rw [hE.out]
                  exact ⟨F1, .inl ⟨hni.out, _, rfl⟩⟩
                · replace hE : Hid (le l q = ln (l.drop (q1 + 1)) k' (x * 256 + d) (q1 + 1)) := by show le l q = _; rw [hE.out, if_neg hov]
                  have a2 := or8 hx0 (by omega) hd0 hd1
                  go_wp2
                  go_roundw
                  case rel => exact ⟨q1 + 1, x * 256 + d, j + 1, by omega, by omega, by omega, by omega, by omega, by go_num, rfl, by go_num, by rw [hk''.out]; exact hE, (by first | rfl | trivial)⟩
                  case measure => simp [intOf]; omega
              · obtain rfl : q1 = n := by omega
                replace hE : Hid (le l q = none) := by show le l q = _; have hnil : l.drop q1 = [] := List.drop_eq_nil_of_le (by rw [hn.out]; omega); rw [hE.out, hnil]; rfl
                go_wp2_with (refine wpList_box rfl 80 _ rfl (some 62) rfl _ _ rfl rfl ?_; intro g w1 e1 F1 rg z1)
                go_ret3
                rw [hE.out]
                exact ⟨F1, .inl ⟨hni.out, _, rfl⟩⟩
            · replace hE : Hid (le l q = some (x, q1)) := by show le l q = _; rw [hE.out, show k - j = 0 by omega]; cases (l.drop q1) <;> rfl
              go_wp2
              go_ret3
              rw [hE.out]
              exact ⟨Fr.refl _ _, rfl⟩
  · obtain rfl : q = n := by omega
    have hE : Hid (le l q = none) := by show le l q = _; unfold le; rw [at_ge hn.out hlt]
    have hni : Hid (¬ (l[q]? = some 128)) := by show ¬ _; rw [at_ge hn.out hlt]; simp
    go_enter Ybaf.func16, Ybaf.ntmps16
    go_wp2_with (refine wpList_box rfl 80 _ rfl (some 20) rfl _ _ rfl rfl ?_; intro g w1 e1 F1 rg z1)
    go_ret3
    rw [hE.out]
    exact ⟨F1, .inl ⟨hni.out, _, rfl⟩⟩

theorem len_bad (s b o cap q n : Nat) (qi : Int) (hqi : qi = q) (l : List Int) (P : Int) (w : World) (hn : Hid (l.length = n)) (hl : n ≤ 1048576) (hq : q ≤ n) (ho : Oct l) (hb : Bts w b o l) (hs : w.heap[s]? = some (.cells (scn (.slice (some ⟨b, o, none⟩) n cap) P) 34)) (h : Hid (le l q = none)) (hi : Hid (¬ (l[q]? = some 128))) :
    Calls Ybaf.prog 16 #[.pointer (some ⟨s, 0, none⟩), .int .i64 qi] w fun e w' => ∃ x, e = .returned (.tuple #[.int .i64 0, .int .i64 0, .iface 77 x]) ∧ Fr [] w w' := by
  subst hqi
  refine (len_any s b o cap q n l P w hn hl hq ho hb hs).mono ?_
  rintro e w' ⟨F, hR⟩
  rw [h.out] at hR
  rcases hR with ⟨_, x, hx⟩ | ⟨hi', _⟩
  · exact ⟨x, hx, F⟩
  · exact absurd hi' hi.out

theorem len_ind (s b o cap q n : Nat) (qi : Int) (hqi : qi = q) (l : List Int) (P : Int) (w : World) (hn : Hid (l.length = n)) (hl : n ≤ 1048576) (hq : q ≤ n) (ho : Oct l) (hb : Bts w b o l) (hs : w.heap[s]? = some (.cells (scn (.slice (some ⟨b, o, none⟩) n cap) P) 34)) (hi : Hid (l[q]? = some 128)) :
    Calls Ybaf.prog 16 #[.pointer (some ⟨s, 0, none⟩), .int .i64 qi] w fun e w' => ∃ q1 : Nat, q1 ≤ 1048576 ∧ e = .returned (.tuple #[.int .i64 (-1), .int .i64 q1, .nilIface]) ∧ Fr [] w w' := by
  subst hqi
  refine (len_any s b o cap q n l P w hn hl hq ho hb hs).mono ?_
  rintro e w' ⟨F, hR⟩
  have h : le l q = none := by unfold le; rw [hi.out]; simp
  rw [h] at hR
  rcases hR with ⟨hi', _⟩ | ⟨_, q1, hq1, hx⟩
  · exact absurd hi.out hi'
  · exact ⟨q1, hq1, hx, F⟩

theorem len_good (s b o cap q n : Nat) (qi : Int) (hqi : qi = q) (l : List Int) (P : Int) (w : World) (hn : Hid (l.length = n)) (hl : n ≤ 1048576) (hq : q ≤ n) (ho : Oct l) (hb : Bts w b o l) (hs : w.heap[s]? = some (.cells (scn (.slice (some ⟨b, o, none⟩) n cap) P) 34)) {x : Int} {q1 : Nat} (h : Hid (le l q = some (x, q1))) :
    Calls Ybaf.prog 16 #[.pointer (some ⟨s, 0, none⟩), .int .i64 qi] w fun e w' => e = .returned (.tuple #[.int .i64 x, .int .i64 q1, .nilIface]) ∧ Fr [] w w' := by
  subst hqi
  refine (len_any s b o cap q n l P w hn hl hq ho hb hs).mono ?_
  rintro e w' ⟨F, hR⟩
  rw [h.out] at hR
  exact ⟨hR, F⟩

theorem high_bad (s b o cap p n : Nat) (qi : Int) (hqi : qi = p) (l : List Int) (P : Int) (w : World) (hn : Hid (l.length = n)) (hl : n ≤ 1048576) (hp : p ≤ n) (ho : Oct l) (hb : Bts w b o l) (hs : w.heap[s]? = some (.cells (scn (.slice (some ⟨b, o, none⟩) n cap) P) 34)) (h : Hid (hi (l.drop p) 0 true p = none)) :
    Calls Ybaf.prog 14 #[.pointer (some ⟨s, 0, none⟩), .int .i64 qi] w fun e w' => ∃ x, e = .returned (.tuple #[.int .u64 0, .int .i64 0, .iface 77 x]) ∧ Fr [] w w' := by
  subst hqi
  refine (high_any s b o cap p n l P w hn hl hp ho hb hs).mono ?_
  rintro e w' ⟨F, hR⟩
  rw [h.out] at hR
  obtain ⟨x, hx⟩ := hR
  exact ⟨x, hx, F⟩

theorem high_good (s b o cap p n : Nat) (qi : Int) (hqi : qi = p) (l : List Int) (P : Int) (w : World) (hn : Hid (l.length = n)) (hl : n ≤ 1048576) (hp : p ≤ n) (ho : Oct l) (hb : Bts w b o l) (hs : w.heap[s]? = some (.cells (scn (.slice (some ⟨b, o, none⟩) n cap) P) 34)) {m : Int} {q : Nat} (h : Hid (hi (l.drop p) 0 true p = some (m, q))) :
    Calls Ybaf.prog 14 #[.pointer (some ⟨s, 0, none⟩), .int .i64 qi] w fun e w' => e = .returned (.tuple #[.int .u64 m, .int .i64 q, .nilIface]) ∧ Fr [] w w' := by
  subst hqi
  refine (high_any s b o cap p n l P w hn hl hp ho hb hs).mono ?_
  rintro e w' ⟨F, hR⟩
  rw [h.out] at hR
  exact ⟨hR, F⟩
end Go.Proofs.YbulkdusoFmt
