import Derived.Test.YbulkdusaMainB
import Derived.Deep.CutRange
import Derived.Deep.Light
namespace Go.Proofs.Ybulkdusa
open Go.RowKit Base

/-- the ways' meeting, behind a name -/
def MetK (J K : Act → World → Prop) : Prop := ∀ a w, Met J a w → K a w

theorem wrap_succ {k d : Nat} (h : d = k + 1) (hk : k < 2000000) : wrap64 ((k : Int) + 1) = (d : Int) := by unfold wrap64; omega

def cP (p : Nat → Bool) (j : Nat) : Nat := (List.range j).countP p
theorem cP_true {p : Nat → Bool} {j : Nat} (h : p j = true) : cP p (j + 1) = cP p j + 1 := by simp [cP, List.range_succ, h]
theorem cP_false {p : Nat → Bool} {j : Nat} (h : p j = false) : cP p (j + 1) = cP p j := by simp [cP, List.range_succ, h]
theorem cP_le (p : Nat → Bool) (j : Nat) : cP p j ≤ j := Nat.le_trans List.countP_le_length (by simp)

section
variable {w wr w' : World} {g bd ba n N n' : Nat} {hz hz' : Int} {f f' : Nat → Option Value} {T T' : Nat → List Ver} {B : Nat → Nat} {ag ag' : Nat → Bool} {b1 b2 b3 j : Nat} {F : Nat → Value} {p q : Nat → Bool}

/-- behind 'raiseHorizon' -/
structure L3 (w wr : World) (g bd ba n N : Nat) (hz : Int) (f : Nat → Option Value) (T' : Nat → List Ver) (B : Nat → Nat) (ag' : Nat → Bool) (b1 b2 b3 : Nat) (F : Nat → Value) (p q : Nat → Bool) (O : List Nat) (T : Nat → List Ver) (ag : Nat → Bool) : Prop where
  st : St wr g bd ba n N 0 0 hz f T' B ag'
  fr : Fr [] w wr
  r1 : wr.heap[b1]? = some (.cells (vA F) 61)
  r2 : wr.heap[b2]? = some (.cells (pA p) 62)
  r3 : wr.heap[b3]? = some (.cells (pA q) 62)
  clo : ∀ c, c < 4 → Cl wr O (F c) (T c)
  hp : ∀ c, c < 4 → p c = !(T c).isEmpty
  hq : ∀ c, c < 4 → q c = ag c
  ok : ∀ c, c < 4 → ∀ x ∈ T c, OKv wr x.val
  srt : ∀ c, c < 4 → Srt (T c)
  len : ∀ c, c < 4 → (T c).length ≤ N
  aged : ∀ c, c < 4 → ag c = true → T c ≠ []

theorem L2.raised (h : L2 w wr g bd ba n N hz f T B ag b1 b2 b3 j F p q) (hj : 4 ≤ j) (Fr' : Fr (own g bd ba T B) wr w') (hS : St w' g bd ba n' N 0 0 hz' f' T' B ag') :
    L3 w w' g bd ba n' N hz' f' T' B ag' b1 b2 b3 F p q (own g bd ba T B) T ag := by
  refine ⟨hS, h.fr.trans Fr' (fun x hx => .inr (h.ho x hx)), Fr'.get h.r1 (fun hm => h.st.no5 b1 hm _ _ (by decide) (by decide) h.r1), Fr'.get h.r2 (fun hm => h.st.no5 b2 hm _ _ (by decide) (by decide) h.r2), Fr'.get h.r3 (fun hm => h.st.no5 b3 hm _ _ (by decide) (by decide) h.r3),
    fun c hc => (h.clo c (by omega)).keep Fr' (fun b hb _ _ => hb), fun c hc => h.hp c (by omega), fun c hc => h.hq c (by omega), fun c hc x hx => ((h.st.key c hc).ok x hx).keep Fr' (fun b hb y => h.st.no5 b hb _ _ (by decide) (by decide)), fun c hc => (h.st.key c hc).srt, fun c hc => (h.st.key c hc).len, h.st.aged⟩

theorem L3.keep0 {O : List Nat} (h : L3 w wr g bd ba n N hz f T' B ag' b1 b2 b3 F p q O T ag) (F' : Fr [] wr w') : L3 w w' g bd ba n N hz f T' B ag' b1 b2 b3 F p q O T ag :=
  ⟨h.st.keep0 F', h.fr.trans0 F', F'.get h.r1 (by simp), F'.get h.r2 (by simp), F'.get h.r3 (by simp), fun c hc => (h.clo c hc).keep F' (by simp), h.hp, h.hq, fun c hc x hx => (h.ok c hc x hx).keep F' (by simp), h.srt, h.len, h.aged⟩

/-- the wanted row, once it is reckoned -/
def Want (wr : World) (v : Value) (L : List Ver) : Prop := L ≠ [] → ∃ b o cap, v = .slice (some ⟨b, o, none⟩) L.length cap ∧ VRow wr b o L.length L

theorem Cl.want {O : List Nat} {v : Value} {L : List Ver} (h : Cl wr O v L) : Want wr v L := by
  intro hne
  rcases h with ⟨h0, _⟩ | ⟨_, b, o, cap, cs, h1, h2, h3, h4, h5⟩
  · exact absurd h0 hne
  · exact ⟨b, o, cap, h1, rfl, cs, h4, h5⟩
theorem want_cut {b o cap o' c' d m : Nat} {cs : Array Value} {L : List Ver} (rb : wr.heap[b]? = some (.cells cs 66)) (hat : At cs o (cl L)) (hcap : L.length ≤ cap) (hm : (L.drop d).length = m) (hc : c' + d = cap) (ho : 0 < c' → o' = o + d * 3) (hd : d ≤ L.length) :
    Want wr (.slice (some ⟨b, o', none⟩) m c') (L.drop d) := by
  intro hne
  have hl : 0 < (L.drop d).length := List.length_pos_iff.2 hne
  have hl2 : (L.drop d).length = L.length - d := List.length_drop
  refine ⟨b, o', c', by rw [hm], rfl, cs, rb, ?_⟩
  rw [ho (by omega)]
  have e : cl L = cl (L.take d) ++ cl (L.drop d) := by rw [← cl_append, List.take_append_drop]
  rw [e] at hat
  have h2 := hat.right
  rw [cl_len, List.length_take, Nat.min_eq_left hd] at h2
  exact h2
theorem want_cell {b o m cap : Nat} {L : List Ver} (h : Want wr (.slice (some ⟨b, o, none⟩) m cap) L) (hl : 0 < L.length) {d : Bool} (hd : ∀ h, (L[0]'h).del = d) : wr.cell? ⟨b, o + 2, none⟩ = some (.bool d) := by
  obtain ⟨b', o', cap', e, hv⟩ := h (List.length_pos_iff.1 hl)
  simp at e
  obtain ⟨⟨rfl, rfl⟩, rfl, rfl⟩ := e
  rw [← hd hl]
  simpa using (hv.cells hl).2.2

theorem cnt_f (h : St wr g bd ba n N 0 0 hz f T' B ag') : cnt f = cP (fun c => !(T' c).isEmpty) 4 := by
  unfold cnt cP
  refine List.countP_congr (fun c hc => ?_)
  rw [h.isSome (List.mem_range.1 hc)]
theorem cnt_ag (ag : Nat → Bool) : cnt (agF ag) = cP ag 4 := by
  unfold cnt cP
  refine List.countP_congr (fun c _ => ?_)
  rw [(St.agVal ag c).2]
theorem emp_true {L : List Ver} (h : L = []) : (!L.isEmpty) = false := by rw [h]; rfl
theorem emp_false {L : List Ver} (h : L ≠ []) : (!L.isEmpty) = true := by
  cases L with
  | nil => exact absurd rfl h
  | cons a b => rfl
theorem emp_len {L : List Ver} (h : 0 < L.length) : (!L.isEmpty) = true := emp_false (List.length_pos_iff.1 h)
end
end Go.Proofs.Ybulkdusa
