import Derived.Test.YbulkdurmRows
import Derived.Test.YbulkdurmBase
import Derived.DeepKeys4
namespace Go.Proofs.Ybulkdurm
open Go.RowKit Base
open Go.Maps (Keyed IsMap Tidy)
/-- the twenty zero bytes -/
def zero20 : Array Value := Array.replicate 20 (.int .u8 0)
/-- the identifier made of k -/
def idC (k : Int) : Array Value := (zero20.setIfInBounds 0 (.int .u8 k)).setIfInBounds 19 (.int .u8 (bits .xor .u8 k 90))
theorem zero48 (w : World) : (zeroValue 48).run Yba.prog w = .ok (.agg zero20) w := by kernel_rfl
theorem size48 : (Yba.prog.info? 48).map (·.size) = some 20 := by kernel_rfl
theorem size5 : (Yba.prog.info? 5).map (·.size) = some 1 := by kernel_rfl
theorem size4 : (Yba.prog.info? 4).map (·.size) = some 1 := by kernel_rfl
theorem size2 : (Yba.prog.info? 2).map (·.size) = some 1 := by kernel_rfl
theorem size24 : (Yba.prog.info? 24).map (·.size) = some 1 := by kernel_rfl
theorem zero20_size : zero20.size = 20 := by simp [zero20]
theorem idC_size (k : Int) : (idC k).size = 20 := by simp [idC, zero20]
theorem idC_one (k : Int) : (idC k).all (·.oneCell') = true :=
  all_set (all_set (by rw [Array.all_eq_true_iff_forall_mem]; intro x hx; simp [zero20] at hx; subst hx; rfl) rfl) rfl
theorem idC_inj {j k : Int} (h : idC j = idC k) : j = k := by
  have h0 : (idC j)[0]? = (idC k)[0]? := by rw [h]
  simpa [idC, zero20, Array.getElem?_setIfInBounds] using h0

theorem laidOut : laidOutB Yba.prog = true := by kernel_rfl
theorem law : Keyed Yba.prog 48 := Keyed.of_law (deep_law_laid laidOut (m := 2) (by omega) (of_decide_eq_true (by kernel_rfl)) (by kernel_rfl) (by kernel_rfl))
theorem zero2 (w : World) : (zeroValue 2).run Yba.prog w = .ok (.int .i64 0) w := by kernel_rfl

def kl (k : Nat) : Lit := .string (UInt8.ofNat k :: (List.replicate 18 0 ++ [UInt8.ofNat (k ^^^ 90)]))
theorem key_all : (List.range 256).map (fun k : Nat => keyOf Yba.prog 48 (.agg (idC k))) = (List.range 256).map (fun k => some (kl k)) := by kernel_rfl
theorem key_of {k : Nat} (h : k < 256) : keyOf Yba.prog 48 (.agg (idC k)) = some (kl k) := by
  have := congrArg (fun l => l[k]?) key_all
  simpa [h] using this
theorem kl_inj {j k : Nat} (hj : j < 256) (hk : k < 256) (h : kl j = kl k) : j = k := by
  have h1 := key_of hj
  have h2 := key_of hk
  rw [h] at h1
  have := law.inj h1 h2
  have := idC_inj (by simpa using this)
  omega
theorem kl_key {k : Nat} (hk : k < 256) : WideAt.IsKeyLit (kl k) := law.key (key_of hk)

/-! ### rows of 256 -/
def upd {α : Type} (f : Nat → α) (k : Nat) (x : α) : Nat → α := fun j => if j = k then x else f j
theorem upd_same {α : Type} (f : Nat → α) (k : Nat) (x : α) : upd f k x k = x := by simp [upd]
theorem upd_other {α : Type} (f : Nat → α) {k j : Nat} (h : j ≠ k) (x : α) : upd f k x j = f j := by simp [upd, h]
/-- a row of 256 cells -/
def arr (g : Nat → Value) : Array Value := (Array.range 256).map g
theorem arr_size (g : Nat → Value) : (arr g).size = 256 := by simp [arr]
theorem arr_get (g : Nat → Value) {i : Nat} (h : i < 256) : (arr g)[i]? = some (g i) := by simp [arr, h]
theorem arr_set (g : Nat → Value) (i : Nat) (v : Value) : (arr g).setIfInBounds i v = arr (upd g i v) := by
  apply Array.ext_getElem?
  intro j
  rw [Array.getElem?_setIfInBounds]
  by_cases hj : j < 256
  · rw [arr_get _ hj, arr_get _ hj, arr_size]
    by_cases e : i = j
    · subst e; simp [upd, hj]
    · simp [upd, e, Ne.symm e]
  · have h1 : (arr g)[j]? = none := by simp [arr_size]; omega
    have h2 : (arr (upd g i v))[j]? = none := by simp [arr_size]; omega
    rw [h1, h2, arr_size]
    split
    · simp only [ite_eq_right_iff]; intro; omega
    · rfl
theorem arr_congr {f g : Nat → Value} (h : ∀ i, i < 256 → f i = g i) : arr f = arr g := by
  apply Array.ext_getElem?
  intro j
  by_cases hj : j < 256
  · rw [arr_get _ hj, arr_get _ hj, h j hj]
  · have h1 : (arr f)[j]? = none := by simp [arr_size]; omega
    have h2 : (arr g)[j]? = none := by simp [arr_size]; omega
    rw [h1, h2]
theorem arr_one {g : Nat → Value} (h : ∀ i, (g i).oneCell' = true) : (arr g).all (·.oneCell') = true := by
  rw [Array.all_eq_true_iff_forall_mem]
  intro x hx
  simp [arr] at hx
  obtain ⟨i, _, rfl⟩ := hx
  exact h i
/-- the row of bools, the row of numbers -/
def bA (p : Nat → Bool) : Array Value := arr (fun i => .bool (p i))
def iA (v : Nat → Int) : Array Value := arr (fun i => .int .i64 (v i))
theorem bA_size (p : Nat → Bool) : (bA p).size = 256 := arr_size _
theorem iA_size (v : Nat → Int) : (iA v).size = 256 := arr_size _
theorem bA_get (p : Nat → Bool) {i : Nat} (h : i < 256) : (bA p)[i]? = some (.bool (p i)) := arr_get _ h
theorem iA_get (v : Nat → Int) {i : Nat} (h : i < 256) : (iA v)[i]? = some (.int .i64 (v i)) := arr_get _ h
theorem bA_one (p : Nat → Bool) : (bA p).all (·.oneCell') = true := arr_one fun _ => rfl
theorem iA_one (v : Nat → Int) : (iA v).all (·.oneCell') = true := arr_one fun _ => rfl
theorem bA_set (p : Nat → Bool) (i : Nat) (b : Bool) : (bA p).setIfInBounds i (.bool b) = bA (upd p i b) := by
  rw [bA, arr_set]; exact congrArg arr (funext fun j => by simp only [upd]; split <;> rfl)
theorem iA_set (v : Nat → Int) (i : Nat) (n : Int) : (iA v).setIfInBounds i (.int .i64 n) = iA (upd v i n) := by
  rw [iA, arr_set]; exact congrArg arr (funext fun j => by simp only [upd]; split <;> rfl)
theorem zero25 (w : World) : (zeroValue 25).run Yba.prog w = .ok (.agg (bA fun _ => false)) w := by kernel_rfl
theorem zero26 (w : World) : (zeroValue 26).run Yba.prog w = .ok (.agg (iA fun _ => 0)) w := by kernel_rfl
theorem size25 : (Yba.prog.info? 25).map (·.size) = some 256 := by kernel_rfl
theorem size26 : (Yba.prog.info? 26).map (·.size) = some 256 := by kernel_rfl

/-! ### the map's block, told by which keys it holds and what -/
def cnt (p : Nat → Bool) : Nat := (List.range 256).countP p
theorem countP_upd (p : Nat → Bool) (k : Nat) : ∀ l : List Nat, l.Nodup → l.countP (upd p k true) = if k ∈ l ∧ p k = false then l.countP p + 1 else l.countP p
  | [], _ => by simp
  | x :: r, h => by
    obtain ⟨hx, hr⟩ := List.nodup_cons.1 h
    rw [List.countP_cons, List.countP_cons, countP_upd p k r hr]
    by_cases e : x = k
    · subst e
      simp only [hx, false_and, if_false, upd_same, List.mem_cons, true_or, true_and]
      cases p x <;> simp
    · simp only [List.mem_cons, Ne.symm e, false_or, upd_other p e]
      split <;> omega
theorem cnt_upd (p : Nat → Bool) {k : Nat} (hk : k < 256) : cnt (upd p k true) = if p k then cnt p else cnt p + 1 := by
  unfold cnt
  rw [countP_upd p k _ List.nodup_range]
  cases p k <;> simp [hk]
theorem cnt_le (p : Nat → Bool) : cnt p ≤ 256 := by
  have := List.countP_le_length (p := p) (l := List.range 256)
  simpa [cnt] using this
theorem cnt_false : cnt (fun _ => false) = 0 := by simp [cnt]

/-- Block b is a map that holds just the keys of p, with the numbers of v. -/
def MapIs (w : World) (b n : Nat) (p : Nat → Bool) (v : Nat → Int) : Prop :=
  ∃ D : DataW Unit, w.ownsMap Yba.prog 48 (plainElem Yba.prog 2) b n D ∧ (∀ k, k < 256 → Maps.has D (kl k) = p k) ∧ (∀ k, k < 256 → p k = true → D.atKey (kl k) (.lit (.int .i64 0)) = .lit (.int .i64 (v k))) ∧ Maps.size D = cnt p

theorem MapIs.mono {w : World} {b n m : Nat} {p : Nat → Bool} {v : Nat → Int} (h : MapIs w b n p v) (hm : n ≤ m) : MapIs w b m p v := by
  obtain ⟨D, h1, h2⟩ := h
  exact ⟨D, h1.mono hm, h2⟩
theorem cnt_congr {p q : Nat → Bool} (h : ∀ k, k < 256 → p k = q k) : cnt p = cnt q := by
  unfold cnt
  exact List.countP_congr (fun k hk => by rw [h k (by simpa using hk)])
theorem MapIs.congr {w : World} {b n : Nat} {p q : Nat → Bool} {v : Nat → Int} (h : MapIs w b n p v) (hq : ∀ k, k < 256 → p k = q k) : MapIs w b n q v := by
  obtain ⟨D, h1, h2, h3, h4⟩ := h
  exact ⟨D, h1, fun k hk => (h2 k hk).trans (hq k hk), fun k hk hp => h3 k hk ((hq k hk).trans hp), h4.trans (cnt_congr hq)⟩
theorem MapIs.lt {w : World} {b n : Nat} {p : Nat → Bool} {v : Nat → Int} (h : MapIs w b n p v) : b < w.heap.size := by
  obtain ⟨D, h1, _⟩ := h
  exact h1.lt
theorem MapIs.keep {w w' : World} {b n : Nat} {p : Nat → Bool} {v : Nat → Int} {S : List Nat} (h : MapIs w b n p v) (hF : Fr S w w') (hS : b ∉ S) : MapIs w' b n p v := by
  obtain ⟨D, ⟨es, clock, hb, F, hs, hD⟩, r⟩ := h
  exact ⟨D, ⟨es, clock, hF.get hb hS, F, hs, hD⟩, r⟩
theorem MapIs.ne_cells {w : World} {b n g : Nat} {p : Nat → Bool} {v : Nat → Int} {cs : Array Value} {t : TypeId} {fr : Nat × Nat} (h : MapIs w b n p v) (hg : w.heap[g]? = some (.cells cs t fr)) : b ≠ g := by
  obtain ⟨D, ⟨es, clock, hb, _⟩, _⟩ := h
  intro e
  subst e
  rw [hb] at hg
  cases hg

theorem MapIs.made {w1 : World} {b : Nat} (hb : w1.heap[b]? = some (.map #[] 0)) : MapIs w1 b 0 (fun _ => false) (fun _ => 0) :=
  ⟨.map [], ⟨#[], 0, hb, ⟨by simp, MapKept.stamped_empty 0, by simp⟩, Nat.le_refl _, rfl⟩, fun _ _ => rfl, fun _ _ h => (by cases h), by rw [cnt_false]; rfl⟩

/-- 'm[id(k)] = s' -/
theorem MapIs.store {w : World} {b n k : Nat} {p : Nat → Bool} {v : Nat → Int} (h : MapIs w b n p v) (hn : n < maxLen) (hk : k < 256) {s : Int} (hs : (Lit.int .i64 s).wf = true) :
    ∃ w', (Instr.mapUpdate 24 (.map (some b)) (.agg (idC k)) (.int .i64 s)).run Yba.prog w = .ok () w' ∧ MapIs w' b (n + 1) (upd p k true) (upd v k s) ∧ Fr [b] w w' ∧ w'.heap.size = w.heap.size := by
  obtain ⟨D, hown, h1, h2, h3⟩ := h
  obtain ⟨w', hrun, hown', hturn⟩ := hown.store law Yba.underlying24 hn (key_of hk) (plainElem_int Yba.underlying2 hs)
  refine ⟨w', hrun, ⟨_, hown', ?_, ?_, ?_⟩, Fr.of_grown hturn.grown, ?_⟩
  · intro j hj
    by_cases e : j = k
    · subst e; rw [upd_same, Maps.has_put_same hown.isMap (kl_key hk)]
    · rw [upd_other _ e, Maps.has_put_other (fun h => e (kl_inj hj hk h)), h1 j hj]
  · intro j hj hp
    by_cases e : j = k
    · subst e; rw [upd_same, Maps.atKey_put_same hown.isMap (kl_key hk)]
    · rw [upd_other _ e] at hp ⊢
      rw [Maps.atKey_put_other (fun h => e (kl_inj hj hk h)), h2 j hj hp]
  · rw [Maps.size_put (hown.tidy law), cnt_upd p hk, h1 k hk, h3]
  · obtain ⟨es, clock, es', clock', hb, rfl⟩ := hturn
    simp [ChangeMaps.setBlock]

/-- 'x, ok := m[id(k)]' -/
theorem MapIs.look {w : World} {b n k : Nat} {p : Nat → Bool} {v : Nat → Int} (h : MapIs w b n p v) (hk : k < 256) :
    (Instr.lookup 24 (.map (some b)) (.agg (idC k)) true).run Yba.prog w = .ok (.tuple #[.int .i64 (if p k then v k else 0), .bool (p k)]) w ∧ (p k = true → (Lit.int .i64 (v k)).wf = true) := by
  obtain ⟨D, hown, h1, h2, h3⟩ := h
  have hw0 : (Lit.int .i64 0).wf = true := by decide
  obtain ⟨x, ps, hrun, hx⟩ := hown.look_ok law Yba.underlying24 (zero2 w) (plainElem_int Yba.underlying2 hw0) (key_of hk)
  obtain ⟨c, rfl, hc, hwc⟩ := plainElem_int_inv Yba.underlying2 hx
  simp only [Prod.mk.injEq] at hc
  rw [hrun, h1 k hk]
  cases hp : p k
  · have : Maps.has D (kl k) = false := by rw [h1 k hk, hp]
    have hz := hc.1
    rw [Maps.atKey_of_not_has this] at hz
    simp at hz
    subst hz
    simp
  · have hz := hc.1
    rw [h2 k hk hp] at hz
    simp at hz
    rw [← hz] at hwc ⊢
    exact ⟨rfl, fun _ => hwc⟩

theorem MapIs.len {w : World} {b n : Nat} {p : Nat → Bool} {v : Nat → Int} (h : MapIs w b n p v) (ty : TypeId) : (Builtin.len_ #[24] ty #[.map (some b)]).run Yba.prog w = .ok (.int .i64 (cnt p)) w := by
  obtain ⟨D, hown, h1, h2, h3⟩ := h
  rw [hown.len Yba.underlying24 ty, h3]

end Go.Proofs.Ybulkdurm
