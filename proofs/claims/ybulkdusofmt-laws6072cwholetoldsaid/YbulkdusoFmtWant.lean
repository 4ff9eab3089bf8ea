import Derived.Test.YbulkdusoFmtTop
namespace Go.Proofs.YbulkdusoFmt
open Go.RowKit Base

/-- the whole values from p on, up to E, at most 'most' -/
def cw (l : List Int) (E most : Int) : Nat → Nat → Int → Int
  | 0, _, n => n
  | f + 1, p, n => if n < most ∧ (p : Int) < E then (match hd l p with | none => n | some (x, q) => if E - (p : Int) - ((q : Int) - p) < x then n else cw l E most f (q + x.toNat) (n + 1)) else n

theorem cw_stop {l : List Int} {E most : Int} {f p : Nat} {n : Int} (h : ¬ (n < most ∧ (p : Int) < E)) : cw l E most f p n = n := by
  cases f with
  | zero => rfl
  | succ f => unfold cw; rw [if_neg h]
theorem cw_none {l : List Int} {E most : Int} {f p : Nat} {n : Int} (h : hd l p = none) : cw l E most f p n = n := by
  cases f with
  | zero => rfl
  | succ f => unfold cw; rw [h]; simp
theorem cw_big {l : List Int} {E most : Int} {f p q : Nat} {n x : Int} (h : hd l p = some (x, q)) (hx : E - (p : Int) - ((q : Int) - p) < x) : cw l E most f p n = n := by
  cases f with
  | zero => rfl
  | succ f => unfold cw; rw [h]; simp only [if_pos hx]; simp
theorem cw_step {l : List Int} {E most : Int} {f p q : Nat} {n x : Int} (h1 : n < most) (h2 : (p : Int) < E) (h : hd l p = some (x, q)) (hx : ¬ (E - (p : Int) - ((q : Int) - p) < x)) : cw l E most (f + 1) p n = cw l E most f (q + x.toNat) (n + 1) := by
  rw [cw, if_pos ⟨h1, h2⟩, h]; simp only [if_neg hx]

/-- the slice's address a holds the octets l -/
def Bs (w : World) (a : Option Addr) (l : List Int) : Prop := l = [] ∨ ∃ b o, a = some ⟨b, o, none⟩ ∧ Bts w b o l

/-- the end, as both reckon it -/
def endOf (e : Int) (n : Nat) : Int := if (n : Int) < e then n else e

set_option maxHeartbeats 4000000 in
theorem want_loop (a : Option Addr) (cap p n : Nat) (l : List Int) (e most : Int) (w : World) (hn : Hid (l.length = n)) (hl : n ≤ 1048576) (hp : p ≤ n) (ho : Oct l) (hb : Bs w a l) (hm0 : -9223372036854775808 ≤ most) (hm1 : most ≤ 9223372036854775807) (he0 : -9223372036854775808 ≤ e) (he1 : e ≤ 9223372036854775807) :
    Calls Ybaf.prog 8 #[.slice a n cap, .int .i64 p, .int .i64 e, .int .i64 most] w fun e' w' => e' = .returned (.int .i64 (cw l (endOf e n) most n p 0)) ∧ w' = w := by
  obtain ⟨E, hE⟩ : ∃ E, E = endOf e n := ⟨_, rfl⟩
  have hEn : E ≤ n := by rw [hE]; unfold endOf; split <;> omega
  have hE0 : -9223372036854775808 ≤ E := by rw [hE]; unfold endOf; split <;> omega
  rw [← hE]
  replace ho : Hid (Oct l) := ho
  by_cases hlt : (n : Int) < e
  · obtain rfl : E = n := by rw [hE]; unfold endOf; rw [if_pos hlt]
    clear hE
    go_enter Ybaf.func8, Ybaf.ntmps8
    go_wp2
    go_loopw [9, 10] (fun s9 s10 wr => ∃ (c : Int) (q f : Nat), 0 ≤ c ∧ c ≤ q ∧ q ≤ n ∧ s9 = .int .i64 c ∧ s10 = .int .i64 q ∧ Hid (n ≤ f + q) ∧ Hid (cw l (n : Int) most n p 0 = cw l (n : Int) most f q c) ∧ wr = w) (fun _ s10 _ => n - (intOf s10).toNat)
    case atStart => exact ⟨0, p, n, by omega, by omega, by omega, rfl, rfl, Nat.le_add_right n p, rfl, rfl⟩
    case round =>
      obtain ⟨c, q, f, hc0, hcq, hq, rfl, rfl, hf, hH, rfl⟩ := hrel
      by_cases hcm : c < most
      · by_cases hqE : (q : Int) < (n : Int)
        · have hqn : q < n := by omega
          obtain ⟨b, o, rfl, hB⟩ := hb.resolve_left (by intro h; have := hn.out; rw [h] at this; simp at this; omega)
          obtain ⟨f', rfl⟩ : ∃ f', f = f' + 1 := ⟨f - 1, by have := hf.out; omega⟩
          cases hhd : hd l q with
          | none =>
            have hR : Hid (cw l (n : Int) most n p 0 = c) := hH.out.trans (cw_none hhd)
            have hres : hres q (hd l q) = .tuple #[.int .i64 0, .int .i64 0, .bool false] := by rw [hhd]; rfl
            clear hhd hH hf hb
            go_wp2_with (go_at_call 13; refine (hdr_any b o cap q n l _ hn.out hl hqn ho.out hB).mono ?_; rintro e w5 ⟨rfl, rfl⟩; rw [hres])
            go_ret
            rw [hR.out]
            exact ⟨rfl, rfl⟩
          | some xq =>
            obtain ⟨x, q1⟩ := xq
            obtain ⟨hx0, hx1, hx2⟩ := hd_pos ho.out hhd
            rw [hn.out] at hx2
            have hres : hres q (hd l q) = .tuple #[.int .i64 ((q1 : Int) - q), .int .i64 x, .bool true] := by rw [hhd]; rfl
            have hxm : x ≤ 9223372036854775807 := hd_max ho.out hhd
            by_cases hbig : (n : Int) - (q : Int) - ((q1 : Int) - q) < x
            · have hR : Hid (cw l (n : Int) most n p 0 = c) := hH.out.trans (cw_big hhd hbig)
              clear hhd hH hf hb
              go_wp2_with (go_at_call 13; refine (hdr_any b o cap q n l _ hn.out hl hqn ho.out hB).mono ?_; rintro e w5 ⟨rfl, rfl⟩; rw [hres])
              go_ret
              rw [hR.out]
              exact ⟨rfl, rfl⟩
            · have hR : Hid (cw l (n : Int) most n p 0 = cw l (n : Int) most f' (q1 + x.toNat) (c + 1)) := hH.out.trans (cw_step hcm hqE hhd hbig)
              obtain ⟨y, rfl⟩ : ∃ y : Nat, x = y := ⟨x.toNat, by omega⟩
              have hty : ((y : Int)).toNat = y := by omega
              rw [hty] at hR
              clear hhd hH hb hty
              go_wp2_with (go_at_call 13; refine (hdr_any b o cap q n l _ hn.out hl hqn ho.out hB).mono ?_; rintro e w5 ⟨rfl, rfl⟩; rw [hres])
              go_roundw
              case rel => exact ⟨c + 1, q1 + y, f', by omega, by omega, by omega, rfl, by go_num, by have := hf.out; show n ≤ _; omega, hR, (by first | rfl | trivial)⟩
              case measure => simp [intOf]; omega
        · have hR : Hid (cw l (n : Int) most n p 0 = c) := hH.out.trans (cw_stop (by omega))
          clear hH
          go_wp2
          go_ret
          rw [hR.out]
          exact ⟨rfl, rfl⟩
      · have hR : Hid (cw l (n : Int) most n p 0 = c) := hH.out.trans (cw_stop (by omega))
        clear hH
        go_wp2
        go_ret
        rw [hR.out]
        exact ⟨rfl, rfl⟩
  · obtain rfl : E = e := by rw [hE]; unfold endOf; rw [if_neg hlt]
    clear hE
    go_enter Ybaf.func8, Ybaf.ntmps8
    go_wp2
    go_loopw [9, 10] (fun s9 s10 wr => ∃ (c : Int) (q f : Nat), 0 ≤ c ∧ c ≤ q ∧ q ≤ n ∧ s9 = .int .i64 c ∧ s10 = .int .i64 q ∧ Hid (n ≤ f + q) ∧ Hid (cw l E most n p 0 = cw l E most f q c) ∧ wr = w) (fun _ s10 _ => n - (intOf s10).toNat)
    case atStart => exact ⟨0, p, n, by omega, by omega, by omega, rfl, rfl, Nat.le_add_right n p, rfl, rfl⟩
    case round =>
      obtain ⟨c, q, f, hc0, hcq, hq, rfl, rfl, hf, hH, rfl⟩ := hrel
      by_cases hcm : c < most
      · by_cases hqE : (q : Int) < E
        · have hqn : q < n := by omega
          obtain ⟨b, o, rfl, hB⟩ := hb.resolve_left (by intro h; have := hn.out; rw [h] at this; simp at this; omega)
          obtain ⟨f', rfl⟩ : ∃ f', f = f' + 1 := ⟨f - 1, by have := hf.out; omega⟩
          cases hhd : hd l q with
          | none =>
            have hR : Hid (cw l E most n p 0 = c) := hH.out.trans (cw_none hhd)
            have hres : hres q (hd l q) = .tuple #[.int .i64 0, .int .i64 0, .bool false] := by rw [hhd]; rfl
            clear hhd hH hf hb
            go_wp2_with (go_at_call 13; refine (hdr_any b o cap q n l _ hn.out hl hqn ho.out hB).mono ?_; rintro e w5 ⟨rfl, rfl⟩; rw [hres])
            go_ret
            rw [hR.out]
            exact ⟨rfl, rfl⟩
          | some xq =>
            obtain ⟨x, q1⟩ := xq
            obtain ⟨hx0, hx1, hx2⟩ := hd_pos ho.out hhd
            rw [hn.out] at hx2
            have hres : hres q (hd l q) = .tuple #[.int .i64 ((q1 : Int) - q), .int .i64 x, .bool true] := by rw [hhd]; rfl
            have hxm : x ≤ 9223372036854775807 := hd_max ho.out hhd
            by_cases hbig : E - (q : Int) - ((q1 : Int) - q) < x
            · have hR : Hid (cw l E most n p 0 = c) := hH.out.trans (cw_big hhd hbig)
              clear hhd hH hf hb
              go_wp2_with (go_at_call 13; refine (hdr_any b o cap q n l _ hn.out hl hqn ho.out hB).mono ?_; rintro e w5 ⟨rfl, rfl⟩; rw [hres])
              go_ret
              rw [hR.out]
              exact ⟨rfl, rfl⟩
            · have hR : Hid (cw l E most n p 0 = cw l E most f' (q1 + x.toNat) (c + 1)) := hH.out.trans (cw_step hcm hqE hhd hbig)
              obtain ⟨y, rfl⟩ : ∃ y : Nat, x = y := ⟨x.toNat, by omega⟩
              have hty : ((y : Int)).toNat = y := by omega
              rw [hty] at hR
              clear hhd hH hb hty
              go_wp2_with (go_at_call 13; refine (hdr_any b o cap q n l _ hn.out hl hqn ho.out hB).mono ?_; rintro e w5 ⟨rfl, rfl⟩; rw [hres])
              go_roundw
              case rel => exact ⟨c + 1, q1 + y, f', by omega, by omega, by omega, rfl, by go_num, by have := hf.out; show n ≤ _; omega, hR, (by first | rfl | trivial)⟩
              case measure => simp [intOf]; omega
        · have hR : Hid (cw l E most n p 0 = c) := hH.out.trans (cw_stop (by omega))
          clear hH
          go_wp2
          go_ret
          rw [hR.out]
          exact ⟨rfl, rfl⟩
      · have hR : Hid (cw l E most n p 0 = c) := hH.out.trans (cw_stop (by omega))
        clear hH
        go_wp2
        go_ret
        rw [hR.out]
        exact ⟨rfl, rfl⟩
end Go.Proofs.YbulkdusoFmt
