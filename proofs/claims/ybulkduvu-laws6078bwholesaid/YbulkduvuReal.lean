/-
  The outbox, told: the connections' clients, the lists by key.
-/
import Derived.Test.YbulkduvuDelB
namespace Go.Proofs.Ybulkduvu
open Go.RowKit Base

def oRow (mp : Nat) : Array Value := #[.slice none 0 0, .map (some mp), .slice none 0 0, .slice none 0 0, .slice none 0 0, .slice none 0 0, .chan none, .int .i64 0]

/-- what the map holds -/
def fV (L : Int → List Nat) (V : Int → Value) : Int → Option Value := fun k => if L k = [] then none else some (V k)
/-- the block of key k -/
def ok (L : Int → List Nat) (V : Int → Value) (k : Int) : List Nat := if L k = [] then [] else blk (V k)

theorem fV_upd (L : Int → List Nat) (V : Int → Value) (k : Int) (L1 : List Nat) (v : Value) : upd (fV L V) k (if L1 = [] then none else some v) = fV (upd L k L1) (upd V k v) := by
  funext j
  by_cases e : j = k
  · subst e; simp [fV, upd_same]
  · simp [fV, upd_other _ e]

structure Rl (w : World) (base ob mp : Nat) (g : Nat → Nat) (ow : List Nat) (n : Nat) (cl : Nat → Int) (L : Int → List Nat) (V : Int → Value) : Prop where
  ro : w.heap[ob]? = some (.cells (oRow mp) 71)
  rg : ∀ i, i < 5 → w.heap[g i]? = some (.cells (cRow (cl i)) 60)
  inj : ∀ i j, i < 5 → j < 5 → g i = g j → i = j
  cw : ∀ i, i < 5 → I64 (cl i)
  mi : MapI w mp n (fV L V)
  seg : ∀ k, L k ≠ [] → Seg w (V k) 36 1 (L k).length (cps g (L k))
  sep : ∀ k k', k ≠ k' → ∀ b ∈ ok L V k, b ∉ ok L V k'
  ows : ∀ k, ∀ b ∈ ok L V k, b ∈ ow
  ty : ∀ b ∈ ow, base ≤ b ∧ ∃ cs, w.heap[b]? = some (.cells cs 36)
  lt5 : ∀ k, ∀ i ∈ L k, i < 5
  len : ∀ k, (L k).length ≤ n
  gb : ∀ i, i < 5 → base ≤ g i
  mb : base ≤ mp

/-- the blocks that the outbox's calls may turn -/
def rs (mp : Nat) (g : Nat → Nat) (ow : List Nat) : List Nat := mp :: g 0 :: g 1 :: g 2 :: g 3 :: g 4 :: ow

theorem rs_g {mp : Nat} {g : Nat → Nat} {ow : List Nat} {c : Nat} (h : c < 5) : g c ∈ rs mp g ow := by
  have : c = 0 ∨ c = 1 ∨ c = 2 ∨ c = 3 ∨ c = 4 := by omega
  rcases this with rfl | rfl | rfl | rfl | rfl <;> simp [rs]
theorem rs_ow {mp : Nat} {g : Nat → Nat} {ow : List Nat} {b : Nat} (h : b ∈ ow) : b ∈ rs mp g ow := by simp [rs, h]
theorem rs_mp {mp : Nat} {g : Nat → Nat} {ow : List Nat} : mp ∈ rs mp g ow := by simp [rs]
theorem rs_cases {mp : Nat} {g : Nat → Nat} {ow : List Nat} {b : Nat} (h : b ∈ rs mp g ow) : b = mp ∨ (∃ i, i < 5 ∧ b = g i) ∨ b ∈ ow := by
  simp [rs] at h
  rcases h with h | h | h | h | h | h | h
  · exact .inl h
  · exact .inr (.inl ⟨0, by omega, h⟩)
  · exact .inr (.inl ⟨1, by omega, h⟩)
  · exact .inr (.inl ⟨2, by omega, h⟩)
  · exact .inr (.inl ⟨3, by omega, h⟩)
  · exact .inr (.inl ⟨4, by omega, h⟩)
  · exact .inr (.inr h)

theorem ne_type {w : World} {b b' : Nat} {cs cs' : Array Value} {t t' : TypeId} (h : w.heap[b]? = some (.cells cs t)) (h' : w.heap[b']? = some (.cells cs' t')) (ht : t ≠ t') : b ≠ b' := by
  intro e
  subst e
  rw [h] at h'
  cases h'
  exact ht rfl

theorem Fr.wide {S T : List Nat} {a b : World} (h : Fr S a b) (hT : ∀ x ∈ S, x ∈ T) : Fr T a b := h.mono fun x hx => .inl (hT x hx)

section
variable {w w1 w2 : World} {base ob mp n : Nat} {g : Nat → Nat} {ow : List Nat} {cl : Nat → Int} {L : Int → List Nat} {V : Int → Value}

theorem Rl.cn (h : Rl w base ob mp g ow n cl L V) : Cn w g := ⟨fun i hi => ⟨_, h.rg i hi⟩, h.inj⟩
theorem Rl.okt (h : Rl w base ob mp g ow n cl L V) {k : Int} {b : Nat} (hb : b ∈ ok L V k) : ∃ cs, w.heap[b]? = some (.cells cs 36) := (h.ty b (h.ows k b hb)).2
theorem Rl.ok_ob (h : Rl w base ob mp g ow n cl L V) (k : Int) : ob ∉ ok L V k := fun hb => by
  obtain ⟨cs, hcs⟩ := h.okt hb
  exact ne_type h.ro hcs (by decide) rfl
theorem Rl.ok_g (h : Rl w base ob mp g ow n cl L V) (k : Int) {i : Nat} (hi : i < 5) : g i ∉ ok L V k := fun hb => by
  obtain ⟨cs, hcs⟩ := h.okt hb
  exact ne_type (h.rg i hi) hcs (by decide) rfl
theorem Rl.ok_mp (h : Rl w base ob mp g ow n cl L V) (k : Int) : mp ∉ ok L V k := fun hb => by
  obtain ⟨cs, hcs⟩ := h.okt hb
  exact h.mi.ne_cells hcs rfl
theorem Rl.mp_ob (h : Rl w base ob mp g ow n cl L V) : ob ≠ mp := fun e => h.mi.ne_cells h.ro e.symm
theorem Rl.mp_g (h : Rl w base ob mp g ow n cl L V) {i : Nat} (hi : i < 5) : g i ≠ mp := fun e => h.mi.ne_cells (h.rg i hi) e.symm
theorem Rl.ob_g (h : Rl w base ob mp g ow n cl L V) {i : Nat} (hi : i < 5) : ob ≠ g i := ne_type h.ro (h.rg i hi) (by decide)
theorem Rl.ow_lt (h : Rl w base ob mp g ow n cl L V) {b : Nat} (hb : b ∈ ow) : b < w.heap.size := by
  obtain ⟨_, cs, hcs⟩ := h.ty b hb
  exact lt_of_get hcs

theorem Rl.keep0 (h : Rl w base ob mp g ow n cl L V) (F : Fr [] w w1) : Rl w1 base ob mp g ow n cl L V where
  ro := F.get h.ro (by simp)
  rg := fun i hi => F.get (h.rg i hi) (by simp)
  inj := h.inj
  cw := h.cw
  mi := h.mi.keep F (by simp)
  seg := fun k hk => (h.seg k hk).keep F (by simp)
  sep := h.sep
  ows := h.ows
  ty := fun b hb => by
    obtain ⟨h1, cs, hcs⟩ := h.ty b hb
    exact ⟨h1, cs, F.get hcs (by simp)⟩
  lt5 := h.lt5
  len := h.len
  gb := h.gb
  mb := h.mb

theorem Rl.mono (h : Rl w base ob mp g ow n cl L V) {m : Nat} (hm : n ≤ m) : Rl w base ob mp g ow m cl L V where
  ro := h.ro
  rg := h.rg
  inj := h.inj
  cw := h.cw
  mi := h.mi.mono hm
  seg := h.seg
  sep := h.sep
  ows := h.ows
  ty := h.ty
  lt5 := h.lt5
  len := fun k => Nat.le_trans (h.len k) hm
  gb := h.gb
  mb := h.mb

/-- 'c.client = x' -/
theorem Rl.client (h : Rl w base ob mp g ow n cl L V) {c : Nat} (hc : c < 5) {x : Int} (hx : I64 x) (F : Fr [g c] w w1) (r : w1.heap[g c]? = some (.cells (cRow x) 60)) : Rl w1 base ob mp g ow n (upd cl c x) L V where
  ro := F.get h.ro (by simpa using h.ob_g hc)
  rg := fun i hi => by
    by_cases e : i = c
    · subst e; rw [upd_same]; exact r
    · rw [upd_other _ e]; exact F.get (h.rg i hi) (by simpa using fun e' => e (h.inj i c hi hc e'))
  inj := h.inj
  cw := fun i hi => by
    by_cases e : i = c
    · subst e; rw [upd_same]; exact hx
    · rw [upd_other _ e]; exact h.cw i hi
  mi := h.mi.keep F (by simpa using (h.mp_g hc).symm)
  seg := fun k hk => (h.seg k hk).keep F (fun b hb => by
    have hb' : b ∈ ok L V k := by unfold ok; rw [if_neg hk]; exact hb
    simp; intro e; subst e; exact h.ok_g k hc hb')
  sep := h.sep
  ows := h.ows
  ty := fun b hb => by
    obtain ⟨h1, cs, hcs⟩ := h.ty b hb
    exact ⟨h1, cs, F.get hcs (by simpa using ne_type hcs (h.rg c hc) (by decide))⟩
  lt5 := h.lt5
  len := h.len
  gb := h.gb
  mb := h.mb

/-- key k's list turns -/
theorem Rl.put (h : Rl w base ob mp g ow n cl L V) {k : Int} {L1 : List Nat} {v : Value} {ow1 : List Nat} (hbase : base ≤ w.heap.size) (F1 : Fr (ok L V k) w w1) (seg1 : L1 ≠ [] → Seg w1 v 36 1 L1.length (cps g L1))
    (bl : L1 ≠ [] → ∀ b ∈ blk v, b ∈ ok L V k ∨ (w.heap.size ≤ b ∧ b ∈ ow1)) (how : ∀ b ∈ ow1, w.heap.size ≤ b ∧ ∃ cs, w1.heap[b]? = some (.cells cs 36)) (tyk : ∀ b ∈ ok L V k, ∃ cs, w1.heap[b]? = some (.cells cs 36))
    (F2 : Fr [mp] w1 w2) (mi : MapI w2 mp (n + 1) (upd (fV L V) k (if L1 = [] then none else some v))) (h5 : ∀ i ∈ L1, i < 5) (hl : L1.length ≤ n + 1) : Rl w2 base ob mp g (ow1 ++ ow) (n + 1) cl (upd L k L1) (upd V k v) := by
  have nm : ∀ b cs, w1.heap[b]? = some (.cells cs 36) → b ≠ mp := fun b cs hcs e => by
    have h1 : MapI w1 mp n (fV L V) := h.mi.keep F1 (h.ok_mp k)
    exact h1.ne_cells hcs e.symm
  have okk : ok (upd L k L1) (upd V k v) k = if L1 = [] then [] else blk v := by simp [ok, upd_same]
  have oko : ∀ j, j ≠ k → ok (upd L k L1) (upd V k v) j = ok L V j := fun j hj => by simp [ok, upd_other _ hj]
  refine { ro := F2.get (F1.get h.ro (h.ok_ob k)) (by simpa using h.mp_ob), rg := fun i hi => F2.get (F1.get (h.rg i hi) (h.ok_g k hi)) (by simpa using h.mp_g hi), inj := h.inj, cw := h.cw, mi := by rw [← fV_upd]; exact mi, seg := ?_, sep := ?_, ows := ?_, ty := ?_, lt5 := ?_, len := ?_, gb := h.gb, mb := h.mb }
  · intro j hj
    by_cases e : j = k
    · subst e
      rw [upd_same] at hj ⊢
      rw [upd_same]
      refine (seg1 hj).keep F2 (fun b hb => ?_)
      rcases bl hj b hb with h1 | ⟨_, h1⟩
      · obtain ⟨cs, hcs⟩ := tyk b h1
        simpa using nm b cs hcs
      · obtain ⟨_, cs, hcs⟩ := how b h1
        simpa using nm b cs hcs
    · rw [upd_other _ e] at hj ⊢
      rw [upd_other _ e]
      have hok : ∀ b ∈ blk (V j), b ∈ ok L V j := fun b hb => by unfold ok; rw [if_neg hj]; exact hb
      have h1 := (h.seg j hj).keep F1 (fun b hb => h.sep j k e b (hok b hb))
      refine h1.keep F2 (fun b hb => ?_)
      simp
      intro e'
      subst e'
      exact h.ok_mp j (hok b hb)
  · have new : ∀ b ∈ ok (upd L k L1) (upd V k v) k, ∀ j, j ≠ k → b ∉ ok L V j := fun b hb j hj hbj => by
      rw [okk] at hb
      split at hb
      · simp at hb
      · rename_i hne
        rcases bl hne b hb with h1 | ⟨h1, _⟩
        · exact h.sep k j (fun e => hj e.symm) b h1 hbj
        · have := h.ow_lt (h.ows j b hbj); omega
    intro j j' hjj b hb hb'
    by_cases e : j = k
    · subst e
      rw [oko j' (fun e => hjj e.symm)] at hb'
      exact new b hb j' (fun e => hjj e.symm) hb'
    · by_cases e' : j' = k
      · subst e'
        rw [oko j e] at hb
        exact new b hb' j e hb
      · rw [oko j e] at hb
        rw [oko j' e'] at hb'
        exact h.sep j j' hjj b hb hb'
  · intro j b hb
    by_cases e : j = k
    · subst e
      rw [okk] at hb
      split at hb
      · simp at hb
      · rename_i hne
        rcases bl hne b hb with h1 | ⟨_, h1⟩
        · exact List.mem_append_right _ (h.ows j b h1)
        · exact List.mem_append_left _ h1
    · rw [oko j e] at hb
      exact List.mem_append_right _ (h.ows j b hb)
  · intro b hb
    rcases List.mem_append.1 hb with h1 | h1
    · obtain ⟨h2, cs, hcs⟩ := how b h1
      exact ⟨by omega, cs, F2.get hcs (by simpa using nm b cs hcs)⟩
    · obtain ⟨h2, cs, hcs⟩ := h.ty b h1
      refine ⟨h2, ?_⟩
      have hbm : b ≠ mp := fun e => h.mi.ne_cells hcs e.symm
      by_cases hbk : b ∈ ok L V k
      · obtain ⟨cs', hcs'⟩ := tyk b hbk
        exact ⟨cs', F2.get hcs' (by simpa using hbm)⟩
      · exact ⟨cs, F2.get (F1.get hcs hbk) (by simpa using hbm)⟩
  · intro j i hi
    by_cases e : j = k
    · subst e; rw [upd_same] at hi; exact h5 i hi
    · rw [upd_other _ e] at hi; exact h.lt5 j i hi
  · intro j
    by_cases e : j = k
    · subst e; rw [upd_same]; exact hl
    · rw [upd_other _ e]; exact Nat.le_trans (h.len j) (Nat.le_succ n)
end

theorem first_at : ∀ (L : List Nat) (c : Nat), c ∈ L → ∃ k, k < L.length ∧ L[k]? = some c ∧ ∀ j, j < k → L[j]? ≠ some c
  | x :: r, c, h => by
    by_cases e : x = c
    · exact ⟨0, by simp, by simp [e], fun j hj => by omega⟩
    · have hr : c ∈ r := by simpa [Ne.symm e] using h
      obtain ⟨k, h1, h2, h3⟩ := first_at r c hr
      refine ⟨k + 1, by simp; omega, by simpa using h2, fun j hj => ?_⟩
      cases j with
      | zero => simpa using e
      | succ j => simpa using h3 j (by omega)

/-- DeleteFunc, whatever the slice -/
theorem del_all (g : Nat → Nat) (c bx : Nat) (L : List Nat) (v : Value) (w : World) (h : Cn w g) (hc : c < 5) (hL : ∀ i ∈ L, i < 5) (hn1 : L.length ≤ 1000000) (rx : w.heap[bx]? = some (.cells #[cp g c] 36)) (hs : Seg w v 36 1 L.length (cps g L)) (hxb : bx ∉ blk v) (hgb : ∀ i, i < 5 → g i ∉ blk v) :
    Calls Yba.prog 17 #[v, .func (.func 18) #[] #[.pointer (some ⟨bx, 0, none⟩)]] w fun e w' => ∃ a' cap', e = .returned (.slice a' (rem L c).length cap') ∧ Fr (blk v) w w' ∧ Seg w' (.slice a' (rem L c).length cap') 36 1 (rem L c).length (cps g (rem L c)) ∧ (∀ b ∈ blk (.slice a' (rem L c).length cap'), b ∈ blk v) ∧ (∀ b ∈ blk v, ∃ cs, w'.heap[b]? = some (.cells cs 36)) := by
  rcases hs with ⟨rfl, h0, h1⟩ | ⟨b, o, cap, cs, rfl, hr, hcap, hfit, hlen, hat⟩
  · have hnil : L = [] := List.length_eq_zero_iff.1 h0
    subst hnil
    refine (del_nil _ w).mono ?_
    rintro e w' ⟨rfl, rfl⟩
    exact ⟨none, 0, rfl, Fr.refl _ _, .inl ⟨rfl, rfl, rfl⟩, by simp [blk], by simp [blk]⟩
  · have hb1 : bx ≠ b := by simpa [blk] using hxb
    have hb2 : ∀ i, i < 5 → g i ≠ b := fun i hi => by simpa [blk] using hgb i hi
    rw [Nat.mul_one] at hfit
    by_cases hm : c ∈ L
    · obtain ⟨k, hk, hkc, hbe⟩ : ∃ k, k < L.length ∧ L[k]? = some c ∧ ∀ j, j < k → L[j]? ≠ some c := by
        exact first_at L c hm
      refine (del_in g c bx b o L.length cap L cs w h hc hL rx hr hat rfl hn1 k hcap hfit hb1 hb2 hk hkc hbe).mono ?_
      rintro e w' ⟨rfl, F, cs', hr', hsz, hat'⟩
      refine ⟨some ⟨b, o, none⟩, cap, rfl, by simpa [blk] using F, .inr ⟨b, o, cap, cs', rfl, hr', Nat.le_trans (rem_len L c) hcap, by rw [Nat.mul_one, hsz]; exact hfit, by simp [cps], hat'⟩, by simp [blk], ?_⟩
      intro b' hb'
      simp [blk] at hb'
      subst hb'
      exact ⟨cs', hr'⟩
    · refine (del_out g c bx b o L.length cap L cs w h hc hL rx hr hat rfl hn1 hm).mono ?_
      rintro e w' ⟨rfl, rfl⟩
      rw [rem_self hm]
      refine ⟨some ⟨b, o, none⟩, cap, rfl, Fr.refl _ _, .inr ⟨b, o, cap, cs, rfl, hr, hcap, by rw [Nat.mul_one]; exact hfit, hlen, hat⟩, by simp [blk], ?_⟩
      intro b' hb'
      simp [blk] at hb'
      subst hb'
      exact ⟨cs, hr⟩
end Go.Proofs.Ybulkduvu
