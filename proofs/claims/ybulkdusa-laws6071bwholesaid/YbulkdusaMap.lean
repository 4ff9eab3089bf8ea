/-
  The two maps of the store, told key by key (four keys).
-/
import Derived.Test.YbulkdusaRows
import Derived.Test.YbulkdusaSeg
import Derived.Maps.RangeWalk
namespace Go.Proofs.Ybulkdusa
open Go.RowKit Base
open Go.Maps (Keyed IsMap Tidy)
open Go.ChangeMaps (setBlock heap_setBlock_same)
open Go.WideElems (Fit rd rg rd_key rd_val rg_of)

def keyS (c : Nat) : ByteArray := ⟨#[UInt8.ofNat (97 + c)]⟩
def kl (c : Nat) : Lit := .string [UInt8.ofNat (97 + c)]
theorem law : Keyed Yba.prog 9 := Go.Maps.string_keyed Yba.underlying9
theorem key_of (c : Nat) : keyOf Yba.prog 9 (.string (keyS c)) = some (kl c) := by
  simp [keyOf, Yba.underlying9, mapKey, keyS, kl, maxLen, ByteArray.size]
theorem kl_inj {c d : Nat} (hc : c < 4) (hd : d < 4) (h : kl c = kl d) : c = d := by
  simp only [kl, Lit.string.injEq, List.cons.injEq, and_true] at h
  have := congrArg UInt8.toNat h
  simp at this
  omega
theorem kl_key (c : Nat) : WideAt.IsKeyLit (kl c) := law.key (key_of c)
theorem keyS_of {c : Nat} {key : Value} (h : keyOf Yba.prog 9 key = some (kl c)) : key = .string (keyS c) := law.inj h (key_of c)

def upd {α : Type} (f : Nat → α) (k : Nat) (x : α) : Nat → α := fun j => if j = k then x else f j
theorem upd_same {α : Type} (f : Nat → α) (k : Nat) (x : α) : upd f k x k = x := by simp [upd]
theorem upd_other {α : Type} (f : Nat → α) {k j : Nat} (h : j ≠ k) (x : α) : upd f k x j = f j := by simp [upd, h]

def cnt (f : Nat → Option Value) : Nat := (List.range 4).countP (fun c => (f c).isSome)
theorem cnt_upd (f : Nat → Option Value) {c : Nat} (hc : c < 4) (x : Option Value) : cnt (upd f c x) + (if (f c).isSome then 1 else 0) = cnt f + (if x.isSome then 1 else 0) := by
  have r4 : List.range 4 = [0, 1, 2, 3] := rfl
  unfold cnt
  rw [r4]
  have h4 : c = 0 ∨ c = 1 ∨ c = 2 ∨ c = 3 := by omega
  rcases h4 with rfl | rfl | rfl | rfl <;> simp [List.countP_cons, upd] <;> split <;> split <;> split <;> split <;> split <;> simp_all <;> omega

/-- how the elements of the two maps read: what they are, no more -/
def rawR (v : Value) : Option (DataW Unit × List MemPlace) :=
  match v with
  | .slice none n c => some (.agg [.lit (.int .i64 n), .lit (.int .i64 c)], [])
  | .slice (some ⟨b, o, none⟩) n c => some (.agg [.lit (.int .i64 n), .lit (.int .i64 c), .lit (.int .i64 b), .lit (.int .i64 o)], [])
  | .bool x => some (.lit (.bool x), [])
  | _ => none
theorem rawR_inj {v v' : Value} {d : DataW Unit} {ps ps' : List MemPlace} (h : rawR v = some (d, ps)) (h' : rawR v' = some (d, ps')) : v = v' := by
  unfold rawR at h h'
  split at h <;> split at h' <;> simp at h h' <;> obtain ⟨rfl, _⟩ := h <;> simp_all <;> omega

/-- what D holds -/
structure MF (D : DataW Unit) (f : Nat → Option Value) : Prop where
  has : ∀ c, c < 4 → Maps.has D (kl c) = (f c).isSome
  at_ : ∀ c, c < 4 → ∀ v, f c = some v → ∃ d, rawR v = some (d, []) ∧ ∀ z, D.atKey (kl c) z = d
  only : ∀ l, Maps.has D l = true → ∃ c, c < 4 ∧ l = kl c
  size : Maps.size D = cnt f

theorem rawR_places {v : Value} {d : DataW Unit} {ps : List MemPlace} (h : rawR v = some (d, ps)) : ps = [] := by
  unfold rawR at h
  split at h <;> simp at h <;> exact h.2

def MapIs (w : World) (b n : Nat) (f : Nat → Option Value) : Prop := ∃ D : DataW Unit, w.ownsMap Yba.prog 9 rawR b n D ∧ MF D f

theorem MapIs.mono {w : World} {b n m : Nat} {f : Nat → Option Value} (h : MapIs w b n f) (hm : n ≤ m) : MapIs w b m f := by
  obtain ⟨D, h1, h2⟩ := h
  exact ⟨D, h1.mono hm, h2⟩
theorem MapIs.lt {w : World} {b n : Nat} {f : Nat → Option Value} (h : MapIs w b n f) : b < w.heap.size := by
  obtain ⟨D, h1, _⟩ := h
  exact h1.lt
theorem MapIs.keep {w w' : World} {b n : Nat} {f : Nat → Option Value} {S : List Nat} (h : MapIs w b n f) (hF : Fr S w w') (hS : b ∉ S) : MapIs w' b n f := by
  obtain ⟨D, ⟨es, clock, hb, F, hs, hD⟩, r⟩ := h
  exact ⟨D, ⟨es, clock, hF.get hb hS, F, hs, hD⟩, r⟩
theorem MapIs.ne_cells {w : World} {b n g : Nat} {f : Nat → Option Value} {cs : Array Value} {t : TypeId} {fr : Nat × Nat} (h : MapIs w b n f) (hg : w.heap[g]? = some (.cells cs t fr)) : b ≠ g := by
  obtain ⟨D, ⟨es, clock, hb, _⟩, _⟩ := h
  intro e
  subst e
  rw [hb] at hg
  cases hg
theorem MapIs.made {w1 : World} {b : Nat} (hb : w1.heap[b]? = some (.map #[] 0)) : MapIs w1 b 0 (fun _ => none) :=
  ⟨.map [], ⟨#[], 0, hb, ⟨by simp, MapKept.stamped_empty 0, by simp⟩, Nat.le_refl _, rfl⟩, ⟨fun _ _ => rfl, fun _ _ _ h => (by cases h), fun _ h => (by cases h), rfl⟩⟩

section
variable {w : World} {b n : Nat} {f : Nat → Option Value} {T E : TypeId}

theorem MF.put {D : DataW Unit} (h : MF D f) (hD : Tidy D) {c : Nat} (hc : c < 4) {v : Value} {d : DataW Unit} (hv : rawR v = some (d, [])) : MF (D.put (kl c) d) (upd f c (some v)) where
  has := fun j hj => by
    by_cases e : j = c
    · subst e; rw [upd_same, Maps.has_put_same hD.isMap (kl_key j)]; rfl
    · rw [upd_other _ e, Maps.has_put_other (fun h' => e (kl_inj hj hc h')), h.has j hj]
  at_ := fun j hj u hu => by
    by_cases e : j = c
    · subst e
      rw [upd_same] at hu
      cases hu
      exact ⟨d, hv, fun z => Maps.atKey_put_same hD.isMap (kl_key j) _ _⟩
    · rw [upd_other _ e] at hu
      obtain ⟨d', h1, h2⟩ := h.at_ j hj u hu
      exact ⟨d', h1, fun z => by rw [Maps.atKey_put_other (fun h' => e (kl_inj hj hc h')), h2 z]⟩
  only := fun l hl => by
    by_cases e : l = kl c
    · exact ⟨c, hc, e⟩
    · rw [Maps.has_put_other e] at hl
      exact h.only l hl
  size := by
    have := cnt_upd f hc (some v)
    rw [Maps.size_put hD, h.has c hc, h.size]
    simp at this
    split at this <;> split <;> simp_all <;> omega

theorem MF.del {D : DataW Unit} (h : MF D f) (hD : Tidy D) {c : Nat} (hc : c < 4) : MF (D.del (kl c)) (upd f c none) where
  has := fun j hj => by
    by_cases e : j = c
    · subst e; rw [upd_same, Maps.has_del_same]; rfl
    · rw [upd_other _ e, Maps.has_del_other (fun h' => e (kl_inj hj hc h')), h.has j hj]
  at_ := fun j hj u hu => by
    by_cases e : j = c
    · subst e
      rw [upd_same] at hu
      cases hu
    · rw [upd_other _ e] at hu
      obtain ⟨d', h1, h2⟩ := h.at_ j hj u hu
      exact ⟨d', h1, fun z => by rw [Maps.atKey_del_other (fun h' => e (kl_inj hj hc h')), h2 z]⟩
  only := fun l hl => by
    by_cases e : l = kl c
    · exact ⟨c, hc, e⟩
    · rw [Maps.has_del_other e] at hl
      exact h.only l hl
  size := by
    have h1 := cnt_upd f hc none
    have h2 := Maps.size_del (k := kl c) hD
    rw [h.has c hc, h.size] at h2
    simp only [Option.isSome_none, Bool.false_eq_true, if_false, Nat.add_zero] at h1
    omega

/-- 'm[k] = v' -/
theorem MapIs.store (h : MapIs w b n f) (ht : Yba.prog.underlying T = some (.map 9 E)) (hn : n < maxLen) {c : Nat} (hc : c < 4) {v : Value} {d : DataW Unit} (hv : rawR v = some (d, [])) :
    ∃ w', (Instr.mapUpdate T (.map (some b)) (.string (keyS c)) v).run Yba.prog w = .ok () w' ∧ MapIs w' b (n + 1) (upd f c (some v)) ∧ Fr [b] w w' ∧ w'.heap.size = w.heap.size := by
  obtain ⟨D, hown, hM⟩ := h
  obtain ⟨w', hrun, hown', hturn⟩ := hown.store law ht hn (key_of c) hv
  refine ⟨w', hrun, ⟨_, hown', hM.put (hown.tidy law) hc hv⟩, Fr.of_grown hturn.grown, ?_⟩
  obtain ⟨es, clock, es', clock', hb, rfl⟩ := hturn
  simp [setBlock]

/-- 'delete(m, k)' -/
theorem MapIs.drop (h : MapIs w b n f) (ht : Yba.prog.underlying T = some (.map 9 E)) {c : Nat} (hc : c < 4) :
    ∃ w', (Builtin.delete_ #[T, 9] 0 #[.map (some b), .string (keyS c)]).run Yba.prog w = .ok (.tuple #[]) w' ∧ MapIs w' b n (upd f c none) ∧ Fr [b] w w' ∧ w'.heap.size = w.heap.size := by
  obtain ⟨D, hown, hM⟩ := h
  obtain ⟨w', hrun, hown', hturn⟩ := hown.drop law ht (key_of c) 0
  refine ⟨w', hrun, ⟨_, hown', hM.del (hown.tidy law) hc⟩, Fr.of_grown hturn.grown, ?_⟩
  obtain ⟨es, clock, es', clock', hb, rfl⟩ := hturn
  simp [setBlock]

/-- 'v := m[k]', 'v, ok := m[k]' -/
theorem MapIs.look (h : MapIs w b n f) (ht : Yba.prog.underlying T = some (.map 9 E)) {z : Value} {zd : DataW Unit} (hz : (zeroValue E).run Yba.prog w = .ok z w) (hzd : rawR z = some (zd, [])) {c : Nat} (hc : c < 4) :
    (Instr.lookup T (.map (some b)) (.string (keyS c)) true).run Yba.prog w = .ok (.tuple #[(f c).getD z, .bool (f c).isSome]) w ∧ (Instr.lookup T (.map (some b)) (.string (keyS c)) false).run Yba.prog w = .ok ((f c).getD z) w := by
  obtain ⟨D, hown, hM⟩ := h
  have key : ∀ {x : Value} {ps : List MemPlace}, rawR x = some (D.atKey (kl c) zd, ps) → x = (f c).getD z := fun {x ps} hx => by
    cases hf : f c with
    | none =>
      have hno : Maps.has D (kl c) = false := by rw [hM.has c hc, hf]; rfl
      rw [Maps.atKey_of_not_has hno] at hx
      exact rawR_inj hx hzd
    | some u =>
      obtain ⟨d, h1, h2⟩ := hM.at_ c hc u hf
      rw [h2] at hx
      exact rawR_inj hx h1
  obtain ⟨x, ps, hrun, hx⟩ := hown.look_ok law ht hz hzd (key_of c)
  obtain ⟨x', ps', hrun', hx'⟩ := hown.lookup law ht hz hzd (key_of c)
  rw [hrun, hrun', key hx, key hx', hM.has c hc]
  exact ⟨rfl, rfl⟩

theorem MapIs.len (h : MapIs w b n f) (ht : Yba.prog.underlying T = some (.map 9 E)) (ty : TypeId) : (Builtin.len_ #[T] ty #[.map (some b)]).run Yba.prog w = .ok (.int .i64 (cnt f)) w := by
  obtain ⟨D, hown, hM⟩ := h
  rw [hown.len ht ty, hM.size]

/-! ### the range over a map under way -/
def RangeIs (w : World) (b r n : Nat) (f : Nat → Option Value) (left : Nat → Bool) (k : Nat) : Prop := ∃ (D : DataW Unit) (L : Lit → Bool), w.ranges Yba.prog 9 rawR b r n D L k ∧ MF D f ∧ ∀ c, c < 4 → L (kl c) = left c

variable {r k : Nat} {left : Nat → Bool}

theorem RangeIs.map (h : RangeIs w b r n f left k) : MapIs w b n f := by
  obtain ⟨D, L, h1, h2, _⟩ := h
  exact ⟨D, h1.owns, h2⟩
theorem RangeIs.left_eq (h : RangeIs w b r n f left k) : w.rangeLeft b r = k := by
  obtain ⟨D, L, h1, _⟩ := h
  exact h1.left_eq
theorem RangeIs.lt (h : RangeIs w b r n f left k) : r < w.heap.size := by
  obtain ⟨D, L, h1, _⟩ := h
  exact h1.lt
theorem RangeIs.keep {w' : World} {S : List Nat} (h : RangeIs w b r n f left k) (hF : Fr S w w') (hb : b ∉ S) (hr : r ∉ S) : RangeIs w' b r n f left k := by
  obtain ⟨D, L, ⟨es, clock, since, seen, c0, h1, F, hs, hD, h2, rest⟩, r⟩ := h
  exact ⟨D, L, ⟨es, clock, since, seen, c0, hF.get h1 hb, F, hs, hD, hF.get h2 hr, rest⟩, r⟩
theorem RangeIs.ne_cells {g : Nat} {cs : Array Value} {t : TypeId} {fr : Nat × Nat} (h : RangeIs w b r n f left k) (hg : w.heap[g]? = some (.cells cs t fr)) : r ≠ g := by
  obtain ⟨D, L, ⟨es, clock, since, seen, c0, h1, F, hs, hD, h2, rest⟩, _⟩ := h
  intro e
  subst e
  rw [h2] at hg
  cases hg
theorem RangeIs.ne_map {g m : Nat} {f' : Nat → Option Value} (h : RangeIs w b r n f left k) (hg : MapIs w g m f') : r ≠ g := by
  obtain ⟨D, L, ⟨es, clock, since, seen, c0, h1, F, hs, hD, h2, rest⟩, _⟩ := h
  obtain ⟨D', ⟨es', clock', hb', _⟩, _⟩ := hg
  intro e
  subst e
  rw [h2] at hb'
  cases hb'

theorem MapIs.range (h : MapIs w b n f) (ht : Yba.prog.underlying T = some (.map 9 E)) :
    ∃ w', (Instr.range T (.map (some b))).run Yba.prog w = .ok (.pointer (some ⟨w.heap.size, 0, none⟩)) w' ∧ RangeIs w' b w.heap.size n f (fun c => (f c).isSome) (cnt f) ∧ Fr [] w w' ∧ w'.heap.size = w.heap.size + 1 := by
  obtain ⟨D, hown, hM⟩ := h
  obtain ⟨w', hrun, hrg, hg, hs⟩ := hown.range law ht
  exact ⟨w', hrun, ⟨D, _, by rw [← hM.size]; exact hrg, hM, fun c hc => hM.has c hc⟩, Fr.of_grown0 hg, hs⟩

theorem RangeIs.next (h : RangeIs w b r n f left k) (ty : TypeId) :
    (k = 0 ∧ (∀ c, c < 4 → left c = false) ∧ (Instr.next (.pointer (some ⟨r, 0, none⟩)) false ty).run Yba.prog w = .ok (.tuple #[.bool false]) w) ∨
    ∃ c v w' k', c < 4 ∧ left c = true ∧ f c = some v ∧ (Instr.next (.pointer (some ⟨r, 0, none⟩)) false ty).run Yba.prog w = .ok (.tuple #[.bool true, .string (keyS c), v]) w' ∧
      RangeIs w' b r n f (upd left c false) k' ∧ k' < k ∧ Fr [r] w w' ∧ w'.heap.size = w.heap.size ∧ (Instr.entry (.pointer (some ⟨r, 0, none⟩))).run Yba.prog w' = .ok (.tuple #[.string (keyS c), v]) w' := by
  obtain ⟨D, L, hrg, hM, hL⟩ := h
  rcases hrg.next law ty with ⟨h0, hl, hrun⟩ | ⟨key, v, l, y, w', k', hkey, hlk, hv, hat, hrun, hrg', hlt, hgr, hsz, hen⟩
  · exact .inl ⟨h0, fun c hc => by rw [← hL c hc]; exact hl _, hrun⟩
  · have hhas : Maps.has D l = true := by
      obtain ⟨es, clock, since, seen, c0, h1, F, hs, rfl, h2, hold, _, hl1, hl2, _⟩ := hrg
      obtain ⟨x, hx, e⟩ := hl2 l hlk
      exact List.any_eq_true.2 ⟨rg Yba.prog 9 rawR x, mem_sorted.2 (List.mem_map.2 ⟨x, hx, rfl⟩), by rw [e]; exact WideAt.sameKey_self (law.key hkey)⟩
    obtain ⟨c, hc, rfl⟩ := hM.only l hhas
    obtain rfl := keyS_of hkey
    have hf : f c = some v := by
      have h1 := hM.has c hc
      rw [hhas] at h1
      obtain ⟨u, hu⟩ := Option.isSome_iff_exists.1 h1.symm
      obtain ⟨d, h2, h3⟩ := hM.at_ c hc u hu
      have h4 := (h3 .nil).symm.trans (hat .nil)
      rw [hu, rawR_inj h2 (by rw [h4]; exact hv)]
    refine .inr ⟨c, v, w', k', hc, by rw [← hL c hc]; exact hlk, hf, hrun, ⟨D, _, hrg', hM, fun j hj => ?_⟩, hlt, Fr.of_grown hgr, hsz, hen⟩
    by_cases e : j = c
    · subst e
      rw [upd_same, WideAt.sameKey_self (kl_key j)]
      simp
    · rw [upd_other _ e, Maps.sameKey_ne (fun h' => e (kl_inj hj hc h')), hL j hj]
      simp

theorem RangeIs.drop (h : RangeIs w b r n f left k) (ht : Yba.prog.underlying T = some (.map 9 E)) {c : Nat} (hc : c < 4) (hl : left c = false) :
    ∃ w' k', (Builtin.delete_ #[T, 9] 0 #[.map (some b), .string (keyS c)]).run Yba.prog w = .ok (.tuple #[]) w' ∧ RangeIs w' b r n (upd f c none) left k' ∧ k' ≤ k ∧ Fr [b] w w' ∧ w'.heap.size = w.heap.size := by
  obtain ⟨D, L, hrg, hM, hL⟩ := h
  obtain ⟨w', k', hrun, hrg', hle, hturn⟩ := hrg.drop law ht (key_of c) 0
  refine ⟨w', k', hrun, ⟨_, _, hrg', hM.del (hrg.owns.tidy law) hc, fun j hj => ?_⟩, hle, Fr.of_grown hturn.grown, ?_⟩
  · by_cases e : j = c
    · subst e
      rw [hL j hj, hl]
      rfl
    · rw [Maps.sameKey_ne (fun h' => e (kl_inj hj hc h')), hL j hj]
      simp
  · obtain ⟨es, clock, es', clock', hb, rfl⟩ := hturn
    simp [setBlock]

/-- a store of what is there already -/
theorem MapIs.store_same (h : MapIs w b n f) (ht : Yba.prog.underlying T = some (.map 9 E)) {c : Nat} (hc : c < 4) {v : Value} (hv : f c = some v) :
    (Instr.mapUpdate T (.map (some b)) (.string (keyS c)) v).run Yba.prog w = .ok () w := by
  obtain ⟨D, ⟨es, clock, hb, F, hs, rfl⟩, hM⟩ := h
  have hkey := key_of c
  rcases law.find w hkey es.toList F.keys with ⟨h1, h2⟩ | ⟨j, e0, h1, h2, h3⟩
  · exfalso
    have h4 := hM.has c hc
    rw [hv] at h4
    obtain ⟨p, hp, hpk⟩ := List.any_eq_true.1 h4
    obtain ⟨x, hx, rfl⟩ := List.mem_map.1 (mem_sorted.1 hp)
    obtain ⟨y, hy⟩ := F.reads x hx
    have h5 := WideAt.sameKey_eq hpk
    rw [rg_of hy] at h5
    exact h2 x hx (keyS_of (h5 ▸ rd_key hy))
  · have hj : es[j]? = some e0 := by simpa using h2
    have hm0 : e0 ∈ es.toList := List.mem_of_getElem? h2
    obtain ⟨y0, hy0⟩ := F.reads e0 hm0
    obtain ⟨z, hz, hzd⟩ := rd_val hy0
    have hval : e0.val = v := by
      obtain ⟨d, h4, h5⟩ := hM.at_ c hc v hv
      have h6 := rd_key hy0
      rw [h3, hkey] at h6
      have h7 := (Go.WideShapes.atKey_sorted (es.toList.map (rg Yba.prog 9 rawR)) (Maps.fit_rising law F) (kl c) (kl_key c)).2 (rg Yba.prog 9 rawR e0) (List.mem_map.2 ⟨e0, hm0, rfl⟩) (by rw [rg_of hy0]; exact (Option.some.inj h6).symm)
      have h8 := (h5 .nil).symm.trans (h7 .nil)
      rw [rg_of hy0, hzd] at h8
      exact rawR_inj (d := z.1) (ps := z.2) hz (by rw [← h8]; exact h4)
    have hes : es.modify j (fun e' => { e' with key := .string (keyS c), val := v }) = es := by
      apply Array.ext_getElem?
      intro i
      rw [Array.getElem?_modify]
      split
      · rename_i e
        subst e
        rw [hj]
        simp [← h3, ← hval]
      · rfl
    have hw : setBlock w b (.map es clock) = w := by
      unfold setBlock
      have : w.heap.setIfInBounds b (.map es clock) = w.heap := by
        apply Array.ext_getElem?
        intro i
        rw [Array.getElem?_setIfInBounds]
        split
        · rename_i e
          subst e
          have := lt_of_get hb
          rw [if_pos this, hb]
        · rfl
      rw [this]
    have hrun : (Instr.mapUpdate T (.map (some b)) (.string (keyS c)) v).run Yba.prog w = .ok () (setBlock w b (.map (es.modify j (fun e' => { e' with key := .string (keyS c), val := v })) clock)) := by
      simp [Instr.mapUpdate, run_underlying ht, MapKept.run_getObj_map hb, law.check w false hkey, h1, hj, h3, law.stays w hkey, MapKept.run_setObj_map _ hb, Result.andThen, setBlock]
    rw [hrun, hes, hw]
end
end Go.Proofs.Ybulkdusa
