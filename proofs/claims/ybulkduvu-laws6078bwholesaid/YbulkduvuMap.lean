/-
  The outbox's map, told key by key (integer keys).
-/
import Derived.Test.YbulkduvuRows
import Derived.Test.YbulkduvuSeg
import Derived.Maps.RangeWalk
namespace Go.Proofs.Ybulkduvu
open Go.RowKit Base
open Go.Maps (Keyed IsMap Tidy)
open Go.ChangeMaps (setBlock heap_setBlock_same)
open Go.WideElems (Fit rd rg rd_key rd_val rg_of)

def kl (c : Int) : Lit := .int .i64 c
theorem law : Keyed Yba.prog 3 := Go.Maps.int_keyed Yba.underlying3
def I64 (c : Int) : Prop := (Lit.int .i64 c).wf = true
theorem I64.bounds {c : Int} (h : I64 c) : -9223372036854775808 ≤ c ∧ c ≤ 9223372036854775807 := by
  have := h
  simp [I64, Lit.wf, IntKind.min, IntKind.max, IntKind.signed, IntKind.bits] at this
  omega
theorem key_of {c : Int} (h : I64 c) : keyOf Yba.prog 3 (.int .i64 c) = some (kl c) := by
  unfold I64 at h
  simp [keyOf, Yba.underlying3, mapKey, kl, h]
theorem kl_inj {c d : Int} (h : kl c = kl d) : c = d := by simpa [kl] using h
theorem kl_key {c : Int} (h : I64 c) : WideAt.IsKeyLit (kl c) := law.key (key_of h)

def upd {κ α : Type} [DecidableEq κ] (f : κ → α) (k : κ) (x : α) : κ → α := fun j => if j = k then x else f j
theorem upd_same {κ α : Type} [DecidableEq κ] (f : κ → α) (k : κ) (x : α) : upd f k x k = x := by simp [upd]
theorem upd_other {κ α : Type} [DecidableEq κ] (f : κ → α) {k j : κ} (h : j ≠ k) (x : α) : upd f k x j = f j := by simp [upd, h]

def cnt (f : Int → Option Value) (ks : List Int) : Nat := ks.countP (fun c => (f c).isSome)
theorem cnt_upd_out (f : Int → Option Value) {c : Int} (x : Option Value) : ∀ (ks : List Int), c ∉ ks → cnt (upd f c x) ks = cnt f ks
  | [], _ => rfl
  | k :: r, h => by
    have h1 : k ≠ c := fun e => h (by simp [e])
    have h2 := cnt_upd_out f x r (fun h' => h (List.mem_cons_of_mem _ h'))
    unfold cnt at h2 ⊢
    rw [List.countP_cons, List.countP_cons, h2, upd_other f h1]
theorem cnt_upd (f : Int → Option Value) {c : Int} (x : Option Value) : ∀ (ks : List Int), ks.Nodup → c ∈ ks → cnt (upd f c x) ks + (if (f c).isSome then 1 else 0) = cnt f ks + (if x.isSome then 1 else 0)
  | k :: r, hn, h => by
    rw [List.nodup_cons] at hn
    by_cases e : k = c
    · subst e
      have h2 := cnt_upd_out f x r hn.1
      unfold cnt at h2 ⊢
      rw [List.countP_cons, List.countP_cons, h2, upd_same]
      omega
    · have hr : c ∈ r := by simpa [Ne.symm e] using h
      have h2 := cnt_upd f x r hn.2 hr
      unfold cnt at h2 ⊢
      rw [List.countP_cons, List.countP_cons, upd_other f e]
      omega

/-- how the elements of the map read: what they are, no more -/
def rawR (v : Value) : Option (DataW Unit × List MemPlace) :=
  match v with
  | .slice none n c => some (.agg [.lit (.int .i64 n), .lit (.int .i64 c)], [])
  | .slice (some ⟨b, o, none⟩) n c => some (.agg [.lit (.int .i64 n), .lit (.int .i64 c), .lit (.int .i64 b), .lit (.int .i64 o)], [])
  | _ => none
theorem rawR_inj {v v' : Value} {d : DataW Unit} {ps ps' : List MemPlace} (h : rawR v = some (d, ps)) (h' : rawR v' = some (d, ps')) : v = v' := by
  unfold rawR at h h'
  split at h <;> split at h' <;> simp at h h' <;> obtain ⟨rfl, _⟩ := h <;> simp_all <;> omega

/-- what D holds -/
structure MF (D : DataW Unit) (f : Int → Option Value) : Prop where
  has : ∀ c, Maps.has D (kl c) = (f c).isSome
  at_ : ∀ c v, f c = some v → ∃ d, rawR v = some (d, []) ∧ ∀ z, D.atKey (kl c) z = d
  size : ∀ ks : List Int, ks.Nodup → (∀ c, (f c).isSome = true → c ∈ ks) → Maps.size D = cnt f ks

def MapI (w : World) (b n : Nat) (f : Int → Option Value) : Prop := ∃ D : DataW Unit, w.ownsMap Yba.prog 3 rawR b n D ∧ MF D f

theorem MapI.mono {w : World} {b n m : Nat} {f : Int → Option Value} (h : MapI w b n f) (hm : n ≤ m) : MapI w b m f := by
  obtain ⟨D, h1, h2⟩ := h
  exact ⟨D, h1.mono hm, h2⟩
theorem MapI.lt {w : World} {b n : Nat} {f : Int → Option Value} (h : MapI w b n f) : b < w.heap.size := by
  obtain ⟨D, h1, _⟩ := h
  exact h1.lt
theorem MapI.keep {w w' : World} {b n : Nat} {f : Int → Option Value} {S : List Nat} (h : MapI w b n f) (hF : Fr S w w') (hS : b ∉ S) : MapI w' b n f := by
  obtain ⟨D, ⟨es, clock, hb, F, hs, hD⟩, r⟩ := h
  exact ⟨D, ⟨es, clock, hF.get hb hS, F, hs, hD⟩, r⟩
theorem MapI.ne_cells {w : World} {b n g : Nat} {f : Int → Option Value} {cs : Array Value} {t : TypeId} {fr : Nat × Nat} (h : MapI w b n f) (hg : w.heap[g]? = some (.cells cs t fr)) : b ≠ g := by
  obtain ⟨D, ⟨es, clock, hb, _⟩, _⟩ := h
  intro e
  subst e
  rw [hb] at hg
  cases hg
theorem MapI.made {w1 : World} {b : Nat} (hb : w1.heap[b]? = some (.map #[] 0)) : MapI w1 b 0 (fun _ => none) :=
  ⟨.map [], ⟨#[], 0, hb, ⟨by simp, MapKept.stamped_empty 0, by simp⟩, Nat.le_refl _, rfl⟩, ⟨fun _ => rfl, fun _ _ h => (by cases h), fun ks _ _ => by show 0 = _; simp [cnt]⟩⟩

section
variable {w : World} {b n : Nat} {f : Int → Option Value} {T E : TypeId}

theorem MF.put {D : DataW Unit} (h : MF D f) (hD : Tidy D) {c : Int} (hc : I64 c) {v : Value} {d : DataW Unit} (hv : rawR v = some (d, [])) : MF (D.put (kl c) d) (upd f c (some v)) where
  has := fun j => by
    by_cases e : j = c
    · subst e; rw [upd_same, Maps.has_put_same hD.isMap (kl_key hc)]; rfl
    · rw [upd_other _ e, Maps.has_put_other (fun h' => e (kl_inj h')), h.has j]
  at_ := fun j u hu => by
    by_cases e : j = c
    · subst e
      rw [upd_same] at hu
      cases hu
      exact ⟨d, hv, fun z => Maps.atKey_put_same hD.isMap (kl_key hc) _ _⟩
    · rw [upd_other _ e] at hu
      obtain ⟨d', h1, h2⟩ := h.at_ j u hu
      exact ⟨d', h1, fun z => by rw [Maps.atKey_put_other (fun h' => e (kl_inj h')), h2 z]⟩
  size := fun ks hn hs => by
    have hck : c ∈ ks := hs c (by rw [upd_same]; rfl)
    have h1 := h.size ks hn (fun j hj => by
      by_cases e : j = c
      · rw [e]; exact hck
      · exact hs j (by rw [upd_other _ e]; exact hj))
    have := cnt_upd f (some v) ks hn hck
    rw [Maps.size_put hD, h.has c, h1]
    simp at this
    split at this <;> split <;> simp_all <;> omega

theorem MF.del {D : DataW Unit} (h : MF D f) (hD : Tidy D) {c : Int} : MF (D.del (kl c)) (upd f c none) where
  has := fun j => by
    by_cases e : j = c
    · subst e; rw [upd_same, Maps.has_del_same]; rfl
    · rw [upd_other _ e, Maps.has_del_other (fun h' => e (kl_inj h')), h.has j]
  at_ := fun j u hu => by
    by_cases e : j = c
    · subst e
      rw [upd_same] at hu
      cases hu
    · rw [upd_other _ e] at hu
      obtain ⟨d', h1, h2⟩ := h.at_ j u hu
      exact ⟨d', h1, fun z => by rw [Maps.atKey_del_other (fun h' => e (kl_inj h')), h2 z]⟩
  size := fun ks hn hs => by
    have h2 := Maps.size_del (k := kl c) hD
    rw [h.has c] at h2
    by_cases hc : c ∈ ks
    · have h1 := h.size ks hn (fun j hj => by
        by_cases e : j = c
        · rw [e]; exact hc
        · exact hs j (by rw [upd_other _ e]; exact hj))
      have h3 := cnt_upd f none ks hn hc
      simp only [Option.isSome_none, Bool.false_eq_true, if_false, Nat.add_zero] at h3
      rw [h1] at h2
      omega
    · have hn' : (c :: ks).Nodup := List.nodup_cons.2 ⟨hc, hn⟩
      have h1 := h.size (c :: ks) hn' (fun j hj => by
        by_cases e : j = c
        · simp [e]
        · exact List.mem_cons_of_mem _ (hs j (by rw [upd_other _ e]; exact hj)))
      have h3 := cnt_upd_out f none ks hc
      have h4 : cnt f (c :: ks) = cnt f ks + (if (f c).isSome = true then 1 else 0) := by unfold cnt; rw [List.countP_cons]
      rw [h1, h4] at h2
      rw [h3]
      omega

/-- 'm[k] = v' -/
theorem MapI.store (h : MapI w b n f) (ht : Yba.prog.underlying T = some (.map 3 E)) (hn : n < maxLen) {c : Int} (hc : I64 c) {v : Value} {d : DataW Unit} (hv : rawR v = some (d, [])) :
    ∃ w', (Instr.mapUpdate T (.map (some b)) (.int .i64 c) v).run Yba.prog w = .ok () w' ∧ MapI w' b (n + 1) (upd f c (some v)) ∧ Fr [b] w w' ∧ w'.heap.size = w.heap.size := by
  obtain ⟨D, hown, hM⟩ := h
  obtain ⟨w', hrun, hown', hturn⟩ := hown.store law ht hn (key_of hc) hv
  refine ⟨w', hrun, ⟨_, hown', hM.put (hown.tidy law) hc hv⟩, Fr.of_grown hturn.grown, ?_⟩
  obtain ⟨es, clock, es', clock', hb, rfl⟩ := hturn
  simp [setBlock]

/-- 'delete(m, k)' -/
theorem MapI.drop (h : MapI w b n f) (ht : Yba.prog.underlying T = some (.map 3 E)) {c : Int} (hc : I64 c) :
    ∃ w', (Builtin.delete_ #[T, 3] 0 #[.map (some b), .int .i64 c]).run Yba.prog w = .ok (.tuple #[]) w' ∧ MapI w' b n (upd f c none) ∧ Fr [b] w w' ∧ w'.heap.size = w.heap.size := by
  obtain ⟨D, hown, hM⟩ := h
  obtain ⟨w', hrun, hown', hturn⟩ := hown.drop law ht (key_of hc) 0
  refine ⟨w', hrun, ⟨_, hown', hM.del (hown.tidy law)⟩, Fr.of_grown hturn.grown, ?_⟩
  obtain ⟨es, clock, es', clock', hb, rfl⟩ := hturn
  simp [setBlock]

/-- 'v := m[k]', 'v, ok := m[k]' -/
theorem MapI.look (h : MapI w b n f) (ht : Yba.prog.underlying T = some (.map 3 E)) {z : Value} {zd : DataW Unit} (hz : (zeroValue E).run Yba.prog w = .ok z w) (hzd : rawR z = some (zd, [])) {c : Int} (hc : I64 c) :
    (Instr.lookup T (.map (some b)) (.int .i64 c) true).run Yba.prog w = .ok (.tuple #[(f c).getD z, .bool (f c).isSome]) w ∧ (Instr.lookup T (.map (some b)) (.int .i64 c) false).run Yba.prog w = .ok ((f c).getD z) w := by
  obtain ⟨D, hown, hM⟩ := h
  have key : ∀ {x : Value} {ps : List MemPlace}, rawR x = some (D.atKey (kl c) zd, ps) → x = (f c).getD z := fun {x ps} hx => by
    cases hf : f c with
    | none =>
      have hno : Maps.has D (kl c) = false := by rw [hM.has c, hf]; rfl
      rw [Maps.atKey_of_not_has hno] at hx
      exact rawR_inj hx hzd
    | some u =>
      obtain ⟨d, h1, h2⟩ := hM.at_ c u hf
      rw [h2] at hx
      exact rawR_inj hx h1
  obtain ⟨x, ps, hrun, hx⟩ := hown.look_ok law ht hz hzd (key_of hc)
  obtain ⟨x', ps', hrun', hx'⟩ := hown.lookup law ht hz hzd (key_of hc)
  rw [hrun, hrun', key hx, key hx', hM.has c]
  exact ⟨rfl, rfl⟩

theorem MapI.len (h : MapI w b n f) (ht : Yba.prog.underlying T = some (.map 3 E)) (ty : TypeId) (ks : List Int) (hn : ks.Nodup) (hs : ∀ c, (f c).isSome = true → c ∈ ks) : (Builtin.len_ #[T] ty #[.map (some b)]).run Yba.prog w = .ok (.int .i64 (cnt f ks)) w := by
  obtain ⟨D, hown, hM⟩ := h
  rw [hown.len ht ty, hM.size ks hn hs]
end
end Go.Proofs.Ybulkduvu
