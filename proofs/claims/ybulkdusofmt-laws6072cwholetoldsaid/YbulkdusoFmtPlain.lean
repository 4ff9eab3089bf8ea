/-
  The identifier and length octets, with no Go in sight.
-/
import Derived.Laws.BitsLemmas
import Derived.Laws.BitsAllLaws
namespace Go.Proofs.YbulkdusoFmt
open Go

/-- the subsequent identifier octets: the number and the position past them -/
def hi : List Int → Int → Bool → Nat → Option (Int × Nat)
  | [], _, _, _ => none
  | c :: r, m, f, q => if f = true ∧ c = 128 then none else if 72057594037927935 < m then none else if c < 128 then some (m * 128 + c % 128, q + 1) else hi r (m * 128 + c % 128) false (q + 1)

/-- k length octets: the length and the position past them -/
def ln : List Int → Nat → Int → Nat → Option (Int × Nat)
  | _, 0, n, q => some (n, q)
  | [], _ + 1, _, _ => none
  | c :: r, k + 1, n, q => if 36028797018963967 < n then none else ln r k (n * 256 + c) (q + 1)

def tgR : Option (Int × Nat) → Option Nat
  | none => none
  | some (m, q) => if m < 31 then none else some q

def tg (l : List Int) (p : Nat) : Option Nat :=
  match l[p]? with
  | none => none
  | some x => if x % 32 = 31 then tgR (hi (l.drop (p + 1)) 0 true (p + 1)) else some (p + 1)

def le (l : List Int) (q : Nat) : Option (Int × Nat) :=
  match l[q]? with
  | none => none
  | some c => if c < 128 then some (c, q + 1) else if c = 128 ∨ c = 255 then none else ln (l.drop (q + 1)) (c % 128).toNat 0 (q + 1)

/-- the definite length and the position past the header -/
def hd (l : List Int) (p : Nat) : Option (Int × Nat) :=
  match tg l p with
  | none => none
  | some q => le l q

def Oct (l : List Int) : Prop := ∀ (i : Nat) (c : Int), l[i]? = some c → 0 ≤ c ∧ c < 256

theorem Oct.tail {c : Int} {r : List Int} (h : Oct (c :: r)) : Oct r := fun i d hd => h (i + 1) d (by simpa using hd)
theorem Oct.drop {l : List Int} (h : Oct l) (k : Nat) : Oct (l.drop k) := fun i d hd => h (k + i) d (by simpa using hd)

theorem drop_at {l : List Int} {q : Nat} {c : Int} (h : l[q]? = some c) : l.drop q = c :: l.drop (q + 1) := by
  obtain ⟨h1, h2⟩ := List.getElem?_eq_some_iff.1 h
  rw [List.drop_eq_getElem_cons h1, h2]

theorem hi_pos : ∀ (r : List Int) (m : Int) (f : Bool) (q : Nat) (x : Int) (q' : Nat), hi r m f q = some (x, q') → q < q' ∧ q' ≤ q + r.length
  | [], _, _, _, _, _, h => by simp [hi] at h
  | c :: r, m, f, q, x, q', h => by
    unfold hi at h
    split at h
    · cases h
    · split at h
      · cases h
      · split at h
        · simp at h; simp; omega
        · have := hi_pos r _ _ _ _ _ h; simp; omega

theorem ln_pos : ∀ (r : List Int) (k : Nat) (n : Int) (q : Nat) (x : Int) (q' : Nat), Oct r → 0 ≤ n → ln r k n q = some (x, q') → 0 ≤ x ∧ q ≤ q' ∧ q' ≤ q + r.length
  | r, 0, n, q, x, q', _, hn, h => by cases r <;> simp [ln] at h <;> omega
  | [], k + 1, _, _, _, _, _, _, h => by simp [ln] at h
  | c :: r, k + 1, n, q, x, q', ho, hn, h => by
    unfold ln at h
    have hc := ho 0 c (by simp)
    split at h
    · cases h
    · have := ln_pos r k _ _ _ _ ho.tail (by omega) h; simp; omega

theorem tg_pos {l : List Int} {p q : Nat} (h : tg l p = some q) : p < q ∧ q ≤ l.length := by
  unfold tg at h
  split at h
  · cases h
  · next x hx =>
    have hl : p < l.length := (List.getElem?_eq_some_iff.1 hx).1
    split at h
    · unfold tgR at h
      split at h
      · cases h
      · next m q' hh =>
        have := hi_pos _ _ _ _ _ _ hh
        split at h
        · cases h
        · simp at h this; omega
    · simp at h; omega

theorem le_pos {l : List Int} {q q' : Nat} {x : Int} (ho : Oct l) (h : le l q = some (x, q')) : 0 ≤ x ∧ q < q' ∧ q' ≤ l.length := by
  unfold le at h
  split at h
  · cases h
  · next c hc =>
    have hl : q < l.length := (List.getElem?_eq_some_iff.1 hc).1
    have hb := ho q c hc
    split at h
    · simp at h; omega
    · split at h
      · cases h
      · have := ln_pos _ _ _ _ _ _ (ho.drop _) (by omega) h
        simp at this; omega

theorem hd_pos {l : List Int} {p q : Nat} {x : Int} (ho : Oct l) (h : hd l p = some (x, q)) : 0 ≤ x ∧ p < q ∧ q ≤ l.length := by
  unfold hd at h
  split at h
  · cases h
  · next q' hq => have := tg_pos hq; have := le_pos ho h; omega

theorem ln_max : ∀ (r : List Int) (k : Nat) (n : Int) (q : Nat) (x : Int) (q' : Nat), Oct r → n ≤ 9223372036854775807 → ln r k n q = some (x, q') → x ≤ 9223372036854775807
  | r, 0, n, q, x, q', _, hn, h => by cases r <;> simp [ln] at h <;> omega
  | [], k + 1, _, _, _, _, _, _, h => by simp [ln] at h
  | c :: r, k + 1, n, q, x, q', ho, hn, h => by
    unfold ln at h
    have hc := ho 0 c (by simp)
    split at h
    · cases h
    · exact ln_max r k _ _ _ _ ho.tail (by omega) h

theorem hd_max {l : List Int} {p q : Nat} {x : Int} (ho : Oct l) (h : hd l p = some (x, q)) : x ≤ 9223372036854775807 := by
  unfold hd at h
  split at h
  · cases h
  · next q' hq =>
    unfold le at h
    split at h
    · cases h
    · next c hc =>
      have hb := ho q' c hc
      split at h
      · simp at h; omega
      · split at h
        · cases h
        · exact ln_max _ _ _ _ _ _ (ho.drop _) (by omega) h

/-! ### the bits -/
theorem and127 {y : Int} (h0 : 0 ≤ y) (h1 : y < 256) : bits .and .u8 y 127 = y % 128 := bits_mask .u8 8 (by decide) wraps_u8 7 (by decide) y h0 h1
theorem and31 {y : Int} (h0 : 0 ≤ y) (h1 : y < 256) : bits .and .u8 y 31 = y % 32 := u8_and31 y h0 h1
theorem and128_all : ∀ y : Fin 256, bits .and .u8 (y.val : Int) 128 = if y.val < 128 then 0 else 128 := by decide +kernel
theorem and128_lo {y : Int} (h0 : 0 ≤ y) (h1 : y < 128) : bits .and .u8 y 128 = 0 := by
  have := and128_all ⟨y.toNat, by omega⟩
  simp only [Int.toNat_of_nonneg h0] at this
  rw [this, if_pos (by omega)]
theorem and128_hi {y : Int} (h0 : 128 ≤ y) (h1 : y < 256) : bits .and .u8 y 128 = 128 := by
  have := and128_all ⟨y.toNat, by omega⟩
  simp only [Int.toNat_of_nonneg (show 0 ≤ y by omega)] at this
  rw [this, if_neg (by omega)]
theorem wraps_u64 (n : Int) (h₀ : 0 ≤ n) (h₁ : n < 2 ^ 64) : IntKind.u64.wrap n = n := by rw [IntKind.wrap_u64]; omega
theorem wraps_i64 (n : Int) (h₀ : 0 ≤ n) (h₁ : n < 2 ^ 63) : IntKind.i64.wrap n = n := by rw [IntKind.wrap_i64]; omega
theorem or7 {m y : Int} (h0 : 0 ≤ m) (h1 : m ≤ 72057594037927935) (h2 : 0 ≤ y) (h3 : y < 128) : bits .or .u64 (m * 128) y = m * 128 + y :=
  bits_join .u64 64 (by decide) wraps_u64 7 (m * 128) y (by omega) (by omega) (by omega) h2 (by omega) (by omega)
theorem or8 {m y : Int} (h0 : 0 ≤ m) (h1 : m ≤ 36028797018963967) (h2 : 0 ≤ y) (h3 : y < 256) : bits .or .i64 (m * 256) y = m * 256 + y :=
  bits_join .i64 63 (by decide) wraps_i64 8 (m * 256) y (by omega) (by omega) (by omega) h2 (by omega) (by omega)
end Go.Proofs.YbulkdusoFmt
