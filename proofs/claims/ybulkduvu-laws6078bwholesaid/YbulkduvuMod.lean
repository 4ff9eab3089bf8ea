/-
  The law's own model, told.
-/
import Derived.Test.YbulkduvuAt
namespace Go.Proofs.Ybulkduvu
open Go.RowKit Base

def mRow (cl : Nat → Int) (K Ls : Value) : Array Value := #[.int .i64 (cl 0), .int .i64 (cl 1), .int .i64 (cl 2), .int .i64 (cl 3), .int .i64 (cl 4), K, Ls]
def kis (ks : List Int) : List Value := ks.map (Value.int .i64)
def nis (l : List Nat) : List Value := l.map (fun i : Nat => Value.int .i64 (i : Int))

theorem mRow_cl {cl : Nat → Int} {K Ls : Value} {c : Nat} (hc : c < 5) : (mRow cl K Ls)[c]? = some (.int .i64 (cl c)) := by
  have : c = 0 ∨ c = 1 ∨ c = 2 ∨ c = 3 ∨ c = 4 := by omega
  rcases this with rfl | rfl | rfl | rfl | rfl <;> rfl
theorem mRow_set {cl : Nat → Int} {K Ls : Value} {c : Nat} (hc : c < 5) (x : Int) : (mRow cl K Ls).setIfInBounds c (.int .i64 x) = mRow (upd cl c x) K Ls := by
  have : c = 0 ∨ c = 1 ∨ c = 2 ∨ c = 3 ∨ c = 4 := by omega
  rcases this with rfl | rfl | rfl | rfl | rfl <;> rfl

structure Md (w : World) (base mb n : Nat) (cl : Nat → Int) (ks : List Int) (L : Int → List Nat) (K Ls : Value) (W : Int → Value) (ox : List Nat) : Prop where
  rm : w.heap[mb]? = some (.cells (mRow cl K Ls) 43)
  bm : base ≤ mb
  kseg : Seg w K 3 1 ks.length (kis ks)
  lseg : Seg w Ls 40 1 ks.length (ks.map W)
  iseg : ∀ k ∈ ks, Seg w (W k) 3 1 (L k).length (nis (L k))
  nd : ks.Nodup
  sup : ∀ k, L k ≠ [] → k ∈ ks
  sepk : ∀ k ∈ ks, ∀ b ∈ blk (W k), b ∉ blk K
  sep : ∀ k ∈ ks, ∀ k' ∈ ks, k ≠ k' → ∀ b ∈ blk (W k), b ∉ blk (W k')
  ok_ : ∀ b ∈ blk K, b ∈ ox
  ol : ∀ b ∈ blk Ls, b ∈ ox
  oi : ∀ k ∈ ks, ∀ b ∈ blk (W k), b ∈ ox
  ty : ∀ b ∈ ox, base ≤ b ∧ ∃ cs t, w.heap[b]? = some (.cells cs t) ∧ (t = 3 ∨ t = 40)
  kn : ks.length ≤ n
  len : ∀ k, (L k).length ≤ n

theorem Seg.type {w : World} {v : Value} {t : TypeId} {sz n : Nat} {ys : List Value} (h : Seg w v t sz n ys) : ∀ b ∈ blk v, ∃ cs, w.heap[b]? = some (.cells cs t) := by
  rcases h with ⟨rfl, _⟩ | ⟨b, o, cap, cs, rfl, hr, _⟩
  · simp [blk]
  · intro b' hb'
    simp [blk] at hb'
    subst hb'
    exact ⟨cs, hr⟩
theorem Seg.form {w : World} {v : Value} {t : TypeId} {sz n : Nat} {ys : List Value} (h : Seg w v t sz n ys) : ∃ a cap, v = .slice a n cap := by
  rcases h with ⟨rfl, rfl, _⟩ | ⟨b, o, cap, cs, rfl, _⟩
  · exact ⟨_, _, rfl⟩
  · exact ⟨_, _, rfl⟩

section
variable {w w1 w5 w6 : World} {base mb n : Nat} {cl : Nat → Int} {ks : List Int} {L : Int → List Nat} {K Ls : Value} {W : Int → Value} {ox : List Nat}

theorem Md.keep (h : Md w base mb n cl ks L K Ls W ox) {S : List Nat} (F : Fr S w w1) (h1 : mb ∉ S) (h2 : ∀ b ∈ ox, b ∉ S) : Md w1 base mb n cl ks L K Ls W ox where
  rm := F.get h.rm h1
  bm := h.bm
  kseg := h.kseg.keep F (fun b hb => h2 b (h.ok_ b hb))
  lseg := h.lseg.keep F (fun b hb => h2 b (h.ol b hb))
  iseg := fun k hk => (h.iseg k hk).keep F (fun b hb => h2 b (h.oi k hk b hb))
  nd := h.nd
  sup := h.sup
  sepk := h.sepk
  sep := h.sep
  ok_ := h.ok_
  ol := h.ol
  oi := h.oi
  ty := fun b hb => by
    obtain ⟨h3, cs, t, hcs, ht⟩ := h.ty b hb
    exact ⟨h3, cs, t, F.get hcs (h2 b hb), ht⟩
  kn := h.kn
  len := h.len
theorem Md.keep0 (h : Md w base mb n cl ks L K Ls W ox) (F : Fr [] w w1) : Md w1 base mb n cl ks L K Ls W ox := h.keep F (by simp) (by simp)
theorem Md.mono (h : Md w base mb n cl ks L K Ls W ox) {m : Nat} (hm : n ≤ m) : Md w base mb m cl ks L K Ls W ox :=
  { h with kn := Nat.le_trans h.kn hm, len := fun k => Nat.le_trans (h.len k) hm }

theorem Md.lt (h : Md w base mb n cl ks L K Ls W ox) {b : Nat} (hb : b ∈ ox) : b < w.heap.size := by
  obtain ⟨_, cs, t, hcs, _⟩ := h.ty b hb
  exact lt_of_get hcs
theorem Md.mb_ox (h : Md w base mb n cl ks L K Ls W ox) : mb ∉ ox := fun hb => by
  obtain ⟨_, cs, t, hcs, ht⟩ := h.ty mb hb
  exact ne_type h.rm hcs (by rcases ht with rfl | rfl <;> decide) rfl
theorem Md.k_ls (h : Md w base mb n cl ks L K Ls W ox) {b : Nat} (hb : b ∈ blk K) : b ∉ blk Ls := fun hb' => by
  obtain ⟨cs, hcs⟩ := Seg.type h.kseg b hb
  obtain ⟨cs', hcs'⟩ := Seg.type h.lseg b hb'
  exact ne_type hcs hcs' (by decide) rfl
theorem Md.i_ls (h : Md w base mb n cl ks L K Ls W ox) {k : Int} (hk : k ∈ ks) {b : Nat} (hb : b ∈ blk (W k)) : b ∉ blk Ls := fun hb' => by
  obtain ⟨cs, hcs⟩ := Seg.type (h.iseg k hk) b hb
  obtain ⟨cs', hcs'⟩ := Seg.type h.lseg b hb'
  exact ne_type hcs hcs' (by decide) rfl

/-- 'm.cl[c] = x' -/
theorem Md.client (h : Md w base mb n cl ks L K Ls W ox) {c : Nat} {x : Int} (F : Fr [mb] w w1) (r : w1.heap[mb]? = some (.cells (mRow (upd cl c x) K Ls) 43)) : Md w1 base mb n (upd cl c x) ks L K Ls W ox := by
  have hne : ∀ b ∈ ox, b ∉ [mb] := fun b hb => by simp; intro e; subst e; exact h.mb_ox hb
  exact {
    rm := r
    bm := h.bm
    kseg := h.kseg.keep F (fun b hb => hne b (h.ok_ b hb))
    lseg := h.lseg.keep F (fun b hb => hne b (h.ol b hb))
    iseg := fun k hk => (h.iseg k hk).keep F (fun b hb => hne b (h.oi k hk b hb))
    nd := h.nd, sup := h.sup, sepk := h.sepk, sep := h.sep, ok_ := h.ok_, ol := h.ol, oi := h.oi
    ty := fun b hb => by
      obtain ⟨h3, cs, t, hcs, ht⟩ := h.ty b hb
      exact ⟨h3, cs, t, F.get hcs (hne b hb), ht⟩
    kn := h.kn, len := h.len }

/-- 'm.lists[i] = v', i the index of k -/
theorem Md.list (h : Md w base mb n cl ks L K Ls W ox) (hbase : base ≤ w.heap.size) {k : Int} {i : Nat} (hi : ks[i]? = some k) {L1 : List Nat} {v : Value} {ox1 : List Nat} (F5 : Fr (blk (W k)) w w5) (seg5 : Seg w5 v 3 1 L1.length (nis L1))
    (bl : ∀ b ∈ blk v, b ∈ blk (W k) ∨ b ∈ ox1) (how : ∀ b ∈ ox1, w.heap.size ≤ b ∧ ∃ cs, w5.heap[b]? = some (.cells cs 3)) (tyk : ∀ b ∈ blk (W k), ∃ cs, w5.heap[b]? = some (.cells cs 3))
    {lb lo cap : Nat} {cs : Array Value} (hls : Ls = .slice (some ⟨lb, lo, none⟩) ks.length cap) (rl : w.heap[lb]? = some (.cells cs 40)) (F6 : Fr [lb] w5 w6) (r6 : w6.heap[lb]? = some (.cells (cs.setIfInBounds (lo + i) v) 40)) (hl : L1.length ≤ n + 1) :
    Md w6 base mb (n + 1) cl ks (upd L k L1) K Ls (upd W k v) (ox1 ++ ox) := by
  have hk : k ∈ ks := List.mem_of_getElem? hi
  have hlb : blk Ls = [lb] := by rw [hls]; rfl
  have n43 : ∀ b ∈ ox, b ≠ mb := fun b hb e => h.mb_ox (e ▸ hb)
  have lbo : lb ∈ ox := h.ol lb (by rw [hlb]; simp)
  have n5 : ∀ b, w.heap.size ≤ b → b ∉ blk (W k) := fun b hb hb' => by have := h.lt (h.oi k hk b hb'); omega
  have lb5 : lb ∉ blk (W k) := fun hb => h.i_ls hk hb (by rw [hlb]; simp)
  have lbn : ∀ b cs', w5.heap[b]? = some (.cells cs' 3) → b ∉ [lb] := fun b cs' hb => by
    have := ne_type hb (F5.get rl lb5) (by decide)
    simpa using this
  have segk : ∀ j ∈ ks, j ≠ k → Seg w6 (W j) 3 1 (L j).length (nis (L j)) := fun j hj e => by
    have h1 := (h.iseg j hj).keep F5 (h.sep j hj k hk e)
    exact h1.keep F6 (fun b hb => by obtain ⟨cs', hcs'⟩ := Seg.type h1 b hb; exact lbn b cs' hcs')
  have kseg5 := h.kseg.keep F5 (fun b hb hb' => h.sepk k hk b hb' hb)
  refine { rm := F6.get (F5.get h.rm (fun hb => n43 mb (h.oi k hk mb hb) rfl)) (by simpa using fun e : mb = lb => n43 lb lbo e.symm), bm := h.bm, kseg := kseg5.keep F6 (fun b hb => by obtain ⟨cs', hcs'⟩ := Seg.type kseg5 b hb; exact lbn b cs' hcs'), lseg := ?_, iseg := ?_, nd := h.nd, sup := ?_, sepk := ?_, sep := ?_, ok_ := fun b hb => List.mem_append_right _ (h.ok_ b hb), ol := fun b hb => List.mem_append_right _ (h.ol b hb), oi := ?_, ty := ?_, kn := Nat.le_trans h.kn (Nat.le_succ n), len := ?_ }
  · have hil : i < ks.length := (List.getElem?_eq_some_iff.1 hi).1
    rcases h.lseg with ⟨e, _⟩ | ⟨b, o, cap', cs', e, hr, hnc, hfit, hlen, hat⟩
    · rw [hls] at e; cases e
    · rw [hls] at e
      cases e
      rw [rl] at hr
      cases hr
      refine .inr ⟨lb, lo, cap, _, hls, r6, hnc, by rw [Array.size_setIfInBounds]; exact hfit, by simp, ?_⟩
      have hset := At.set (i := i) v hat (by simpa using hil) (by rw [Nat.mul_one] at hfit; omega)
      have heq : (ks.map W).set i v = ks.map (upd W k v) := by
        apply List.ext_getElem?
        intro j
        rw [List.getElem?_set]
        by_cases e : i = j
        · subst e
          rw [if_pos rfl, if_pos (by simpa using hil), List.getElem?_map, hi]
          simp [upd_same]
        · rw [if_neg e, List.getElem?_map, List.getElem?_map]
          cases hj : ks[j]? with
          | none => rfl
          | some k' =>
            have : k' ≠ k := fun e' => by
              subst e'
              exact e ((List.getElem?_inj hil h.nd).1 (hi.trans hj.symm))
            simp [upd_other _ this]
      rw [heq] at hset
      exact hset
  · intro j hj
    by_cases e : j = k
    · subst e
      rw [upd_same, upd_same]
      exact seg5.keep F6 (fun b hb => by obtain ⟨cs', hcs'⟩ := Seg.type seg5 b hb; exact lbn b cs' hcs')
    · rw [upd_other _ e, upd_other _ e]
      exact segk j hj e
  · intro j hj
    by_cases e : j = k
    · rw [e]; exact hk
    · rw [upd_other _ e] at hj; exact h.sup j hj
  · intro j hj b hb hb'
    by_cases e : j = k
    · subst e
      rw [upd_same] at hb
      rcases bl b hb with h1 | h1
      · exact h.sepk j hj b h1 hb'
      · have h2 := (how b h1).1
        have h3 := h.lt (h.ok_ b hb')
        omega
    · rw [upd_other _ e] at hb
      exact h.sepk j hj b hb hb'
  · have new : ∀ b ∈ blk v, ∀ j ∈ ks, j ≠ k → b ∉ blk (W j) := fun b hb j hj e hb' => by
      rcases bl b hb with h1 | h1
      · exact h.sep k hk j hj (fun e' => e e'.symm) b h1 hb'
      · have h2 := (how b h1).1
        have h3 := h.lt (h.oi j hj b hb')
        omega
    intro j hj j' hj' hjj b hb hb'
    by_cases e : j = k
    · subst e
      rw [upd_same] at hb
      rw [upd_other _ (fun e => hjj e.symm)] at hb'
      exact new b hb j' hj' (fun e => hjj e.symm) hb'
    · rw [upd_other _ e] at hb
      by_cases e' : j' = k
      · subst e'
        rw [upd_same] at hb'
        exact new b hb' j hj e hb
      · rw [upd_other _ e'] at hb'
        exact h.sep j hj j' hj' hjj b hb hb'
  · intro j hj b hb
    by_cases e : j = k
    · subst e
      rw [upd_same] at hb
      rcases bl b hb with h1 | h1
      · exact List.mem_append_right _ (h.oi j hj b h1)
      · exact List.mem_append_left _ h1
    · rw [upd_other _ e] at hb
      exact List.mem_append_right _ (h.oi j hj b hb)
  · intro b hb
    rcases List.mem_append.1 hb with h1 | h1
    · obtain ⟨h2, cs', hcs'⟩ := how b h1
      exact ⟨by omega, cs', 3, F6.get hcs' (lbn b cs' hcs'), .inl rfl⟩
    · obtain ⟨h2, cs', t, hcs', ht⟩ := h.ty b h1
      refine ⟨h2, ?_⟩
      by_cases e : b = lb
      · subst e; exact ⟨_, 40, r6, .inr rfl⟩
      · by_cases hbk : b ∈ blk (W k)
        · obtain ⟨cs3, hcs3⟩ := tyk b hbk
          exact ⟨cs3, 3, F6.get hcs3 (by simpa using e), .inl rfl⟩
        · exact ⟨cs', t, F6.get (F5.get hcs' hbk) (by simpa using e), ht⟩
  · intro j
    by_cases e : j = k
    · subst e; rw [upd_same]; exact hl
    · rw [upd_other _ e]; exact Nat.le_trans (h.len j) (Nat.le_succ n)
end
end Go.Proofs.Ybulkduvu
