import Derived.Test.YbulkdusaMainA
namespace Go.Proofs.Ybulkdusa
open Go.RowKit Base

def vA (F : Nat → Value) : Array Value := #[F 0, F 1, F 2, F 3]
def pA (p : Nat → Bool) : Array Value := #[.bool (p 0), .bool (p 1), .bool (p 2), .bool (p 3)]
theorem four {j : Nat} (h : j < 4) : j = 0 ∨ j = 1 ∨ j = 2 ∨ j = 3 := by omega
theorem vA_set (F : Nat → Value) {j : Nat} (h : j < 4) (v : Value) : (vA F).setIfInBounds j v = vA (upd F j v) := by
  rcases four h with rfl | rfl | rfl | rfl <;> simp [vA, upd]
theorem vA_get (F : Nat → Value) {j : Nat} (h : j < 4) : (vA F)[j]? = some (F j) := by
  rcases four h with rfl | rfl | rfl | rfl <;> rfl
theorem pA_set (p : Nat → Bool) {j : Nat} (h : j < 4) (b : Bool) : (pA p).setIfInBounds j (.bool b) = pA (upd p j b) := by
  rcases four h with rfl | rfl | rfl | rfl <;> simp [pA, upd]
theorem pA_get (p : Nat → Bool) {j : Nat} (h : j < 4) : (pA p)[j]? = some (.bool (p j)) := by
  rcases four h with rfl | rfl | rfl | rfl <;> rfl
theorem zero61 (w : World) : (zeroValue 61).run Yba.prog w = .ok (.agg (vA fun _ => .slice none 0 0)) w := by kernel_rfl
theorem zero62 (w : World) : (zeroValue 62).run Yba.prog w = .ok (.agg (pA fun _ => false)) w := by kernel_rfl
theorem size60 : (Yba.prog.info? 60).map (·.size) = some 1 := by kernel_rfl
theorem size4 : (Yba.prog.info? 4).map (·.size) = some 1 := by kernel_rfl
theorem conv35 {j : Nat} (h : j < 4) (w : World) : (convert 3 5 (.int .i64 (j : Int))).run Yba.prog w = .ok (.int .u8 (j : Int)) w := by
  rcases four h with rfl | rfl | rfl | rfl <;> kernel_rfl

/-- v is a copy of L, outside the blocks O -/
def Cl (w : World) (O : List Nat) (v : Value) (L : List Ver) : Prop :=
  (L = [] ∧ v = .slice none 0 0) ∨ (L ≠ [] ∧ ∃ b o cap cs, v = .slice (some ⟨b, o, none⟩) L.length cap ∧ L.length ≤ cap ∧ b ∉ O ∧ w.heap[b]? = some (.cells cs 66) ∧ At cs o (cl L))

theorem Cl.keep {w w' : World} {O S : List Nat} {v : Value} {L : List Ver} (h : Cl w O v L) (F : Fr S w w') (hS : ∀ b ∉ O, ∀ cs, w.heap[b]? = some (.cells cs 66) → b ∉ S) : Cl w' O v L := by
  rcases h with h | ⟨hne, b, o, cap, cs, h1, h2, h3, h4, h5⟩
  · exact .inl h
  · exact .inr ⟨hne, b, o, cap, cs, h1, h2, h3, F.get h4 (hS b h3 cs h4), h5⟩
theorem Cl.one {w : World} {O : List Nat} {v : Value} {L : List Ver} (h : Cl w O v L) : v.oneCell' = true := by
  rcases h with ⟨_, rfl⟩ | ⟨_, b, o, cap, cs, rfl, _⟩ <;> rfl

section
variable {w wr : World} {g bd ba n N : Nat} {hz : Int} {f : Nat → Option Value} {T : Nat → List Ver} {B : Nat → Nat} {ag : Nat → Bool}

theorem clone_any (h : St w g bd ba n N 0 0 hz f T B ag) {c : Nat} (hc : c < 4) (hN : N ≤ 1000000) :
    Calls Yba.prog 6 #[(f c).getD (.slice none 0 0)] w fun e w' => ∃ v, e = .returned v ∧ Cl w' (own g bd ba T B) v (T c) ∧ Fr [] w w' := by
  by_cases hne : T c = []
  · rw [(h.key c hc).nil hne]
    refine (clone_nil w).mono ?_
    rintro e w' ⟨rfl, rfl⟩
    exact ⟨_, rfl, .inl ⟨hne, rfl⟩, Fr.refl _ _⟩
  · obtain ⟨o, cap, cs, e1, e2, e3, e4, e5⟩ := (h.key c hc).one hne
    rw [e1]
    refine (clone_some _ (T c) w (.inr ⟨B c, o, cap, cs, rfl, e4, e2, e3, cl_len _, e5⟩) (by simp) (h.key c hc).ok (Nat.le_trans (h.key c hc).len hN)).mono ?_
    rintro e w' ⟨v', rfl, hseg, F, hfr⟩
    refine ⟨v', rfl, .inr ⟨hne, ?_⟩, F⟩
    rcases hseg with ⟨_, h0, _⟩ | ⟨b, o', cap', cs', rfl, rb, hcap, _, _, hat⟩
    · exact absurd (List.length_eq_zero_iff.1 h0) hne
    · refine ⟨b, o', cap', cs', rfl, hcap, fun hm => ?_, rb, hat⟩
      have h1 := h.lt b hm
      have h2 := hfr b (by simp [blk])
      omega

/-- ahead of the copying loop's round j -/
structure L2 (w wr : World) (g bd ba n N : Nat) (hz : Int) (f : Nat → Option Value) (T : Nat → List Ver) (B : Nat → Nat) (ag : Nat → Bool) (b1 b2 b3 j : Nat) (F : Nat → Value) (p q : Nat → Bool) : Prop where
  st : St wr g bd ba n N 0 0 hz f T B ag
  fr : Fr [] w wr
  ho : ∀ x ∈ own g bd ba T B, w.heap.size ≤ x
  r1 : wr.heap[b1]? = some (.cells (vA F) 61)
  r2 : wr.heap[b2]? = some (.cells (pA p) 62)
  r3 : wr.heap[b3]? = some (.cells (pA q) 62)
  n23 : b2 ≠ b3
  g1 : w.heap.size ≤ b1
  g2 : w.heap.size ≤ b2
  g3 : w.heap.size ≤ b3
  clo : ∀ c, c < j → Cl wr (own g bd ba T B) (F c) (T c)
  hp : ∀ c, c < j → p c = !(T c).isEmpty
  hq : ∀ c, c < j → q c = ag c

theorem upd_lt {α : Type} {P : Nat → α → Prop} {F : Nat → α} {j : Nat} {x : α} (h : ∀ c, c < j → P c (F c)) (hx : P j x) : ∀ c, c < j + 1 → P c (upd F j x c) := by
  intro c hc
  by_cases e : c = j
  · subst e; rw [upd_same]; exact hx
  · rw [upd_other _ e]; exact h c (by omega)

theorem L2.step {w1 w2 w3 w4 : World} {b1 b2 b3 j : Nat} {F : Nat → Value} {p q : Nat → Bool} {v : Value} (h : L2 w wr g bd ba n N hz f T B ag b1 b2 b3 j F p q)
    (F1 : Fr [b2] wr w1) (r2 : w1.heap[b2]? = some (.cells (pA (upd p j (!(T j).isEmpty))) 62)) (F2 : Fr [] w1 w2) (hv : Cl w2 (own g bd ba T B) v (T j)) (F3 : Fr [b1] w2 w3) (r1 : w3.heap[b1]? = some (.cells (vA (upd F j v)) 61)) (F4 : Fr [b3] w3 w4) (r3 : w4.heap[b3]? = some (.cells (pA (upd q j (ag j))) 62)) :
    L2 w w4 g bd ba n N hz f T B ag b1 b2 b3 (j + 1) (upd F j v) (upd p j (!(T j).isEmpty)) (upd q j (ag j)) := by
  have n12 : b1 ≠ b2 := ne_type h.r1 h.r2 (by decide)
  have n13 : b1 ≠ b3 := ne_type h.r1 h.r3 (by decide)
  have r31 := F1.get h.r3 (by simp [h.n23.symm])
  have r11 := F1.get h.r1 (by simp [n12])
  have r12 := F2.get r11 (by simp)
  have r22 := F2.get r2 (by simp)
  have r32 := F2.get r31 (by simp)
  have r23 := F3.get r22 (by simp [n12.symm])
  have r33 := F3.get r32 (by simp [n13.symm])
  have S1 := h.st.keep1 F1 h.r2 (by decide) (by decide) (by decide)
  have S2 := S1.keep0 F2
  have S3 := S2.keep1 F3 r12 (by decide) (by decide) (by decide)
  have S4 := S3.keep1 F4 r33 (by decide) (by decide) (by decide)
  have no66 : ∀ {w : World} {b : Nat} {cs : Array Value} {t : TypeId}, w.heap[b]? = some (.cells cs t) → t ≠ 66 → ∀ x ∉ own g bd ba T B, ∀ cs, w.heap[x]? = some (.cells cs 66) → x ∉ [b] := by
    intro w b cs t hb ht x _ cs' hx
    simp
    exact ne_type hx hb ht.symm
  have k1 : ∀ v L, Cl wr (own g bd ba T B) v L → Cl w1 (own g bd ba T B) v L := fun v L hc => hc.keep F1 (no66 h.r2 (by decide))
  have k3 : ∀ v L, Cl w2 (own g bd ba T B) v L → Cl w4 (own g bd ba T B) v L := fun v L hc => (hc.keep F3 (no66 r12 (by decide))).keep F4 (no66 r33 (by decide))
  refine ⟨S4, (((h.fr.trans1 F1 (.inr h.g2)).trans0 F2).trans1 F3 (.inr h.g1)).trans1 F4 (.inr h.g3), h.ho, F4.get r1 (by simp [n13]), F4.get r23 (by simp [h.n23]), r3, h.n23, h.g1, h.g2, h.g3, ?_, ?_, ?_⟩
  · exact upd_lt (P := fun c x => Cl w4 (own g bd ba T B) x (T c)) (fun c hc => k3 _ _ ((k1 _ _ (h.clo c hc)).keep F2 (by simp))) (k3 _ _ hv)
  · exact upd_lt (P := fun c x => x = !(T c).isEmpty) h.hp rfl
  · exact upd_lt (P := fun c x => x = ag c) h.hq rfl

theorem St.isSome (h : St w g bd ba n N 0 0 hz f T B ag) {c : Nat} (hc : c < 4) : (f c).isSome = !(T c).isEmpty := by
  by_cases hne : T c = []
  · rw [(h.key c hc).nil hne, hne]; rfl
  · obtain ⟨o, cap, cs, e1, _⟩ := (h.key c hc).one hne
    rw [e1]
    cases hT : T c with
    | nil => exact absurd hT hne
    | cons a b => rfl
theorem St.agVal (ag : Nat → Bool) (c : Nat) : (agF ag c).getD (.bool false) = .bool (ag c) ∧ (agF ag c).isSome = ag c := by
  cases h : ag c <;> simp [agF, h]
theorem St.val1 (h : St w g bd ba n N 0 0 hz f T B ag) {c : Nat} (hc : c < 4) : ((f c).getD (.slice none 0 0)).oneCell' = true := by
  by_cases hne : T c = []
  · rw [(h.key c hc).nil hne]; rfl
  · obtain ⟨o, cap, cs, e1, _⟩ := (h.key c hc).one hne
    rw [e1]; rfl
theorem key4 {c : Nat} (hc : c < 4) (w : World) : Calls Yba.prog 5 #[.int .u8 c] w fun e w' => e = .returned (.string (keyS c)) ∧ w' = w := by
  refine (key_any c (by omega) w).mono ?_
  rintro e w' ⟨rfl, rfl⟩
  rw [Nat.mod_eq_of_lt hc]
  exact ⟨rfl, rfl⟩
end
end Go.Proofs.Ybulkdusa
