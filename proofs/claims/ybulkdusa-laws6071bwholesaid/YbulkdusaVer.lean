/-
  Versions, plainly: lists of them, in order of time; what a horizon leaves.
-/
import Derived.Test.YbulkdusaSeg
namespace Go.Proofs.Ybulkdusa
open Go.RowKit Base

structure Ver where
  at_ : Int
  val : Value
  del : Bool

def enc (v : Ver) : List Value := [.int .u64 v.at_, v.val, .bool v.del]
def cl (L : List Ver) : List Value := L.flatMap enc
theorem cl_len (L : List Ver) : (cl L).length = L.length * 3 := by
  induction L with
  | nil => rfl
  | cons v r ih =>
    have e : cl (v :: r) = enc v ++ cl r := by simp [cl]
    rw [e, List.length_append, ih]
    simp [enc]
    omega
theorem cl_append (L M : List Ver) : cl (L ++ M) = cl L ++ cl M := by simp [cl]
theorem cl_cons (v : Ver) (L : List Ver) : cl (v :: L) = enc v ++ cl L := by simp [cl]

/-- element i of a row of versions -/
theorem at_ver {cs : Array Value} {o : Nat} {L : List Ver} (h : At cs o (cl L)) {i : Nat} (hi : i < L.length) : At cs (o + i * 3) (enc L[i]) := by
  have e : cl L = cl (L.take i) ++ (enc L[i] ++ cl (L.drop (i + 1))) := by
    rw [← cl_cons, ← cl_append, ← List.drop_eq_getElem_cons hi, List.take_append_drop]
  rw [e] at h
  have h2 := h.right.left
  rw [cl_len, List.length_take, Nat.min_eq_left (by omega)] at h2
  exact h2
theorem enc_0 {cs : Array Value} {o : Nat} {v : Ver} (h : At cs o (enc v)) : cs[o]? = some (.int .u64 v.at_) := by simpa [enc] using h 0 (by simp [enc])
theorem enc_1 {cs : Array Value} {o : Nat} {v : Ver} (h : At cs o (enc v)) : cs[o + 1]? = some v.val := by simpa [enc] using h 1 (by simp [enc])
theorem enc_2 {cs : Array Value} {o : Nat} {v : Ver} (h : At cs o (enc v)) : cs[o + 2]? = some (.bool v.del) := by simpa [enc] using h 2 (by simp [enc])

/-- in order of time -/
def Srt (L : List Ver) : Prop := L.Pairwise (fun a b => a.at_ ≤ b.at_)
theorem Srt.get {L : List Ver} (h : Srt L) {i j : Nat} (hij : i ≤ j) (hj : j < L.length) : (L[i]'(by omega)).at_ ≤ (L[j]).at_ := by
  rcases Nat.lt_or_eq_of_le hij with h1 | rfl
  · exact List.pairwise_iff_getElem.1 h i j (by omega) hj h1
  · exact Int.le_refl _

/-- how many versions at the head lie at or below h -/
def cle (h : Int) (L : List Ver) : Nat := (L.takeWhile (fun v => decide (v.at_ ≤ h))).length
theorem cle_le (h : Int) (L : List Ver) : cle h L ≤ L.length := by unfold cle; exact (List.takeWhile_sublist _).length_le
theorem cle_in (h : Int) : ∀ (L : List Ver) (i : Nat) (hi : i < L.length), i < cle h L → (L[i]).at_ ≤ h
  | [], i, hi, _ => by simp at hi
  | v :: r, i, hi, hc => by
    unfold cle at hc
    rw [List.takeWhile_cons] at hc
    split at hc
    · rename_i hv
      match i with
      | 0 => simpa using hv
      | i + 1 => exact cle_in h r i (by simpa using hi) (by unfold cle; simpa using hc)
    · simp at hc
theorem cle_at (h : Int) : ∀ (L : List Ver) (hc : cle h L < L.length), h < (L[cle h L]).at_
  | [], hc => by simp at hc
  | v :: r, hc => by
    by_cases hv : v.at_ ≤ h
    · have e : cle h (v :: r) = cle h r + 1 := by simp [cle, hv]
      have := cle_at h r (by simp [e] at hc; exact hc)
      simp only [e, List.getElem_cons_succ]
      exact this
    · have e : cle h (v :: r) = 0 := by simp [cle, hv]
      simp only [e, List.getElem_cons_zero]
      omega
theorem cle_iff {h : Int} {L : List Ver} (hs : Srt L) {i : Nat} (hi : i < L.length) : (L[i]).at_ ≤ h ↔ i < cle h L := by
  constructor
  · intro h1
    rcases Nat.lt_or_ge i (cle h L) with h2 | h2
    · exact h2
    · have h3 := cle_at h L (by omega)
      have h4 := hs.get h2 hi
      omega
  · exact cle_in h L i hi
theorem cle_unique {h : Int} {L : List Ver} {i : Nat} (hi : i ≤ L.length) (h1 : ∀ (k : Nat) (hk : k < L.length), k < i → (L[k]).at_ ≤ h) (h2 : ∀ (k : Nat) (hk : k < L.length), i ≤ k → h < (L[k]).at_) : i = cle h L := by
  have hc := cle_le h L
  rcases Nat.lt_trichotomy i (cle h L) with h3 | h3 | h3
  · have := cle_in h L i (by omega) h3
    have := h2 i (by omega) (Nat.le_refl _)
    omega
  · exact h3
  · have := h1 (cle h L) (by omega) h3
    have := cle_at h L (by omega)
    omega

/-- how many versions 'keep' drops -/
def kN (h : Int) (L : List Ver) : Nat := if cle h L = 0 then 0 else if ((L[cle h L - 1]?).map (·.del)).getD false then cle h L else cle h L - 1
theorem kN_le (h : Int) (L : List Ver) : kN h L ≤ L.length := by
  have := cle_le h L
  unfold kN
  split
  · omega
  · split <;> omega
theorem Srt.drop {L : List Ver} (h : Srt L) (n : Nat) : Srt (L.drop n) := List.Pairwise.drop h

/-- a new version laid where the loop of 'apply' leaves it -/
theorem Srt.insert {L : List Ver} (h : Srt L) {x : Ver} {i : Nat} (hi : i ≤ L.length) (h1 : ∀ (k : Nat) (hk : k < L.length), i ≤ k → x.at_ < (L[k]).at_) (h2 : ∀ (hp : 0 < i), (L[i - 1]'(by omega)).at_ ≤ x.at_) : Srt (L.take i ++ x :: L.drop i) := by
  refine List.pairwise_append.2 ⟨List.Pairwise.take h, List.pairwise_cons.2 ⟨fun b hb => ?_, List.Pairwise.drop h⟩, fun a ha b hb => ?_⟩
  · obtain ⟨k, hk, rfl⟩ := List.getElem_of_mem hb
    rw [List.getElem_drop]
    have := h1 (i + k) (by simp at hk; omega) (by omega)
    omega
  · obtain ⟨k, hk, rfl⟩ := List.getElem_of_mem ha
    rw [List.getElem_take]
    simp at hk
    have h3 := h2 (by omega)
    have h4 := h.get (show k ≤ i - 1 by omega) (by omega)
    rcases List.mem_cons.1 hb with rfl | hb
    · omega
    · obtain ⟨m, hm, rfl⟩ := List.getElem_of_mem hb
      rw [List.getElem_drop]
      have := h1 (i + m) (by simp at hm; omega) (by omega)
      omega

/-- a value's bytes: none, or one byte in a block of its own -/
def OKv (w : World) (v : Value) : Prop := v = .slice none 0 0 ∨ ∃ b x, v = .slice (some ⟨b, 0, none⟩) 1 1 ∧ w.heap[b]? = some (.cells #[.int .u8 x] 5) ∧ 0 ≤ x ∧ x < 256
theorem OKv.keep {w w' : World} {v : Value} {S : List Nat} (h : OKv w v) (hF : Fr S w w') (hS : ∀ b ∈ S, ∀ x : Int, w.heap[b]? ≠ some (.cells #[.int .u8 x] 5)) : OKv w' v := by
  rcases h with h | ⟨b, x, h1, h2, h3⟩
  · exact .inl h
  · exact .inr ⟨b, x, h1, hF.get h2 (fun hb => hS b hb x h2), h3⟩
theorem OKv.one {w : World} {v : Value} (h : OKv w v) : v.oneCell' = true := by
  rcases h with rfl | ⟨b, x, rfl, _⟩ <;> rfl
theorem enc_one {w : World} {v : Ver} (h : OKv w v.val) : ∀ u ∈ enc v, u.oneCell' = true := by
  intro u hu
  simp [enc] at hu
  rcases hu with rfl | rfl | rfl
  · rfl
  · exact h.one
  · rfl
theorem cl_one {w : World} {L : List Ver} (h : ∀ x ∈ L, OKv w x.val) : ∀ u ∈ cl L, u.oneCell' = true := by
  intro u hu
  obtain ⟨x, hx, hu⟩ := List.mem_flatMap.1 hu
  exact enc_one (h x hx) u hu
end Go.Proofs.Ybulkdusa
