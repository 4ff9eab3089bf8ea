/-
  Slices in a world that is a letter: a slice's cells within a block, at whatever offset; append, cuts, stores.
-/
import Derived.Test.YbulkduvuBase
import Derived.Deep.MidRow
namespace Go.Proofs.Ybulkduvu.Base
open Go Go.RowKit

/-! ### cells of a block -/
def put (cs : Array Value) (o : Nat) : List Value → Array Value
  | [] => cs
  | v :: r => put (cs.setIfInBounds o v) (o + 1) r

theorem put_size : ∀ (vs : List Value) (cs : Array Value) (o : Nat), (put cs o vs).size = cs.size
  | [], _, _ => rfl
  | v :: r, cs, o => by rw [put, put_size r]; simp

theorem put_get : ∀ (vs : List Value) (cs : Array Value) (o i : Nat), o + vs.length ≤ cs.size → (put cs o vs)[i]? = if o ≤ i ∧ i < o + vs.length then vs[i - o]? else cs[i]?
  | [], cs, o, i, _ => by simp [put]; intro h1 h2; omega
  | v :: r, cs, o, i, h => by
    simp only [List.length_cons] at h
    rw [put, put_get r _ (o + 1) i (by simp; omega), Array.getElem?_setIfInBounds]
    by_cases h1 : o = i
    · subst h1
      have : ¬ (o + 1 ≤ o ∧ o < o + 1 + r.length) := by omega
      simp [this]
      omega
    · by_cases h2 : o + 1 ≤ i ∧ i < o + 1 + r.length
      · have h3 : o ≤ i ∧ i < o + (r.length + 1) := by omega
        have h4 : i - o = (i - (o + 1)) + 1 := by omega
        simp [h2, h4]
        omega
      · have h3 : ¬ (o ≤ i ∧ i < o + (r.length + 1)) := by omega
        simp [h1, h2, h3]

theorem heap_setCells (b : Nat) (t : TypeId) : ∀ (vs : List Value) (o : Nat) (w : World) (cs : Array Value), w.heap[b]? = some (.cells cs t) → (w.setCells b o vs).heap[b]? = some (.cells (put cs o vs) t)
  | [], _, _, _, h => h
  | v :: r, o, w, cs, h => heap_setCells b t r (o + 1) (w.setCell ⟨b, o, none⟩ v) (cs.setIfInBounds o v) (heap_setCell_same w b o cs t v h)

theorem Fr.setCells (b : Nat) : ∀ (vs : List Value) (o : Nat) (w : World), Fr [b] w (w.setCells b o vs)
  | [], _, w => Fr.refl _ w
  | v :: r, o, w => (Fr.setCell w ⟨b, o, none⟩ v).trans (Fr.setCells b r (o + 1) (w.setCell ⟨b, o, none⟩ v)) (by simp)

theorem size_setCells (b : Nat) : ∀ (vs : List Value) (o : Nat) (w : World), (w.setCells b o vs).heap.size = w.heap.size
  | [], _, _ => rfl
  | _ :: r, o, _ => (size_setCells b r (o + 1) _).trans (World.size_setCell _ _ _)

/-- The cells ys lie in cs from o on. -/
def At (cs : Array Value) (o : Nat) (ys : List Value) : Prop := ∀ i, i < ys.length → cs[o + i]? = ys[i]?

theorem At.nil (cs : Array Value) (o : Nat) : At cs o [] := fun i h => by simp at h
theorem At.put_same {cs : Array Value} {o : Nat} {vs : List Value} (h : o + vs.length ≤ cs.size) : At (put cs o vs) o vs := fun i hi => by
  rw [put_get vs cs o _ h, if_pos (by omega)]; congr 1; omega
theorem At.put_apart {cs : Array Value} {o p : Nat} {ys vs : List Value} (h : At cs o ys) (hp : p + vs.length ≤ cs.size) (ha : o + ys.length ≤ p ∨ p + vs.length ≤ o) : At (put cs p vs) o ys := fun i hi => by
  rw [put_get vs cs p _ hp, if_neg (by omega)]; exact h i hi
theorem At.append {cs : Array Value} {o : Nat} {ys zs : List Value} (h : At cs o ys) (k : At cs (o + ys.length) zs) : At cs o (ys ++ zs) := fun i hi => by
  by_cases h1 : i < ys.length
  · rw [List.getElem?_append_left h1]; exact h i h1
  · rw [List.getElem?_append_right (by omega)]
    have := k (i - ys.length) (by simp at hi; omega)
    rw [← this]; congr 1; omega
theorem At.left {cs : Array Value} {o : Nat} {ys zs : List Value} (h : At cs o (ys ++ zs)) : At cs o ys := fun i hi => by
  rw [h i (by simp; omega), List.getElem?_append_left hi]
theorem At.right {cs : Array Value} {o : Nat} {ys zs : List Value} (h : At cs o (ys ++ zs)) : At cs (o + ys.length) zs := fun i hi => by
  have := h (ys.length + i) (by simp; omega)
  rw [List.getElem?_append_right (by omega)] at this
  rw [show o + ys.length + i = o + (ys.length + i) by omega, this]; congr 1; omega
theorem At.list (ys : List Value) (rest : Array Value) : At (ys.toArray ++ rest) 0 ys := fun i hi => by
  rw [Nat.zero_add, Array.getElem?_append_left (by simpa using hi)]; simp

theorem At.rangeAt {w : World} {b o : Nat} {cs : Array Value} {t : TypeId} {ys : List Value} (h : At cs o ys) (hr : w.heap[b]? = some (.cells cs t)) : w.rangeAt b o ys := fun j v hv => by
  rw [cell_of_row w b _ cs t _ hr, h j (List.getElem?_eq_some_iff.1 hv).1]; exact hv
theorem there_row {w : World} {b o n : Nat} {cs : Array Value} {t : TypeId} (hr : w.heap[b]? = some (.cells cs t)) (h : o + n ≤ cs.size) : w.there b o n := fun j hj => by
  rw [cell_of_row w b _ cs t _ hr]; exact ⟨by simp; omega, frozen_of_row w b _ cs t hr⟩

/-! ### a slice -/
/-- The slice v of n elements (of sz cells each, of type t) holds the cells ys. -/
def Seg (w : World) (v : Value) (t : TypeId) (sz n : Nat) (ys : List Value) : Prop :=
  (v = .slice none 0 0 ∧ n = 0 ∧ ys = []) ∨
  ∃ b o cap cs, v = .slice (some ⟨b, o, none⟩) n cap ∧ w.heap[b]? = some (.cells cs t) ∧ n ≤ cap ∧ o + cap * sz ≤ cs.size ∧ ys.length = n * sz ∧ At cs o ys

theorem Seg.len {w : World} {v : Value} {t : TypeId} {sz n : Nat} {ys : List Value} (h : Seg w v t sz n ys) : ys.length = n * sz := by
  rcases h with ⟨_, rfl, rfl⟩ | ⟨b, o, cap, cs, _, _, _, _, h, _⟩
  · simp
  · exact h

/-- the blocks that a slice leads to -/
def blk : Value → List Nat
  | .slice (some a) _ _ => [a.block]
  | _ => []

theorem Seg.keep {w w' : World} {v : Value} {t : TypeId} {sz n : Nat} {ys : List Value} {S : List Nat} (h : Seg w v t sz n ys) (hF : Fr S w w') (hS : ∀ b ∈ blk v, b ∉ S) : Seg w' v t sz n ys := by
  rcases h with h | ⟨b, o, cap, cs, rfl, hr, r⟩
  · exact .inl h
  · exact .inr ⟨b, o, cap, cs, rfl, hF.get hr (hS b (by simp [blk])), r⟩

theorem Seg.lt {w : World} {v : Value} {t : TypeId} {sz n : Nat} {ys : List Value} (h : Seg w v t sz n ys) : ∀ b ∈ blk v, b < w.heap.size := by
  rcases h with ⟨rfl, _⟩ | ⟨b, o, cap, cs, rfl, hr, _⟩
  · simp [blk]
  · simp [blk]; exact lt_of_get hr

section
variable {P : Program} {w : World}

/-- append where there is room, at whatever offset -/
theorem run_append_room_mid (T ty e : TypeId) (i : TypeInfo) (ht : P.underlying T = some (.slice e)) (hi : P.info? e = some i)
    (b o n cap : Nat) (cs : Array Value) (hb : w.heap[b]? = some (.cells cs e)) (a : Addr) (m c : Nat) (news : List Value) (hl : news.length = m * i.size) (hnews : ∀ j u, news[j]? = some u → w.cell? (a.add j) = some u) (h1 : ∀ u ∈ news, u.oneCell' = true)
    (hroom : n + m ≤ cap) (hfit : o + n * i.size + news.length ≤ cs.size) :
    (Builtin.append_ #[T, T] ty #[.slice (some ⟨b, o, none⟩) n cap, .slice (some a) m c]).run P w = .ok (.slice (some ⟨b, o, none⟩) (n + m) cap) (w.setCells b (o + n * i.size) news) := by
  have hf := run_firstCells_some (P := P) w i.size m a m c news hl hnews
  have hth := there_row (n := news.length) hb hfit
  have hst := run_storeCells_cells (P := P) b (o + n * i.size) news 0 w (fun j hj => by simpa using (hth j hj).1) (fun j hj => by simpa using (hth j hj).2) h1
  simp only [Nat.add_zero] at hst
  simp [Builtin.append_, run_underlying ht, sizeOf, typeInfo, hi, Builtin.lenOf, hroom, hf, Addr.add_lit, hst]

/-- 'append(v, x...)', x a slice that is not nil: in place, or in a new block. -/
theorem Seg.append {v : Value} {e : TypeId} {sz n : Nat} {ys : List Value} (hv : Seg w v e sz n ys) (T ty : TypeId) (i : TypeInfo) (z : Value) (bytes : Nat) (ht : P.underlying T = some (.slice e)) (hi : P.info? e = some i) (hz : i.zero = some z)
    (hsize : i.size = sz) (hby : i.bytes = bytes) (hzs : z.cells.size = sz)
    (a : Addr) (m c : Nat) (news : List Value) (hl : news.length = m * sz) (hnews : ∀ j u, news[j]? = some u → w.cell? (a.add j) = some u) (h1 : ∀ u ∈ news, u.oneCell' = true)
    (hm : 0 < m ∨ v ≠ .slice none 0 0) (hbytes : (n + m) * bytes ≤ 140737488355328) (h63 : n + m ≤ 140737488355328) :
    ∃ v' w', (Builtin.append_ #[T, T] ty #[v, .slice (some a) m c]).run P w = .ok v' w' ∧ Seg w' v' e sz (n + m) (ys ++ news) ∧
      ((blk v' = blk v ∧ Fr (blk v) w w' ∧ w'.heap.size = w.heap.size) ∨ (blk v' = [w.heap.size] ∧ Fr [] w w' ∧ w'.heap.size = w.heap.size + 1)) := by
  subst hsize hby
  have hlen : (ys ++ news).length = (n + m) * i.size := by rw [List.length_append, hv.len, hl, Nat.add_mul]
  have grown : ∀ old, old < n + m → Seg (w.drew.alloc (.cells (ys.toArray ++ news.toArray ++ Builtin.zeroCells z.cells (grownCap w (n + m) old e - (n + m))) e)) (.slice (some ⟨w.heap.size, 0, none⟩) (n + m) (grownCap w (n + m) old e)) e i.size (n + m) (ys ++ news) ∧
      Fr [] w (w.drew.alloc (.cells (ys.toArray ++ news.toArray ++ Builtin.zeroCells z.cells (grownCap w (n + m) old e - (n + m))) e)) := by
    intro old ho
    have hge := grownCap_ge w (n + m) old e
    refine ⟨.inr ⟨w.heap.size, 0, _, _, rfl, heap_alloc_new w.drew _, hge, ?_, hlen, ?_⟩, (Fr.drew w).trans0 (Fr.alloc _ _)⟩
    · simp only [Array.size_append, List.size_toArray, size_zeroCells, hzs, hv.len, hl, ← Nat.add_mul]
      rw [Nat.zero_add]
      exact Nat.mul_le_mul_right _ (by omega)
    · have := At.list (ys ++ news) (Builtin.zeroCells z.cells (grownCap w (n + m) old e - (n + m)))
      simpa using this
  rcases hv with ⟨rfl, rfl, rfl⟩ | ⟨b, o, cap, cs, rfl, hb, hnc, hos, hyl, hat⟩
  · have hm0 : 0 < m := by rcases hm with h | h; exact h; exact absurd rfl h
    have hr := run_append_nil (P := P) w T ty e i z ht hi hz a m c news hl hnews hm0 (by omega) (by have hb := hbytes; simp only [Nat.zero_add] at hb; omega)
    have hg := grown 0 (by omega)
    simp only [Nat.zero_add, List.nil_append, Array.empty_append] at hg hr ⊢
    exact ⟨_, _, hr, hg.1, .inr ⟨rfl, hg.2, by simp⟩⟩
  · by_cases hroom : n + m ≤ cap
    · have hfit : o + n * i.size + news.length ≤ cs.size := by
        have := Nat.mul_le_mul_right i.size hroom
        rw [Nat.add_mul] at this
        omega
      have hr := run_append_room_mid (P := P) (w := w) T ty e i ht hi b o n cap cs hb a m c news hl hnews h1 hroom hfit
      refine ⟨_, _, hr, .inr ⟨b, o, cap, _, rfl, heap_setCells b e news _ w cs hb, hroom, by rw [put_size]; exact hos, hlen, ?_⟩, .inl ⟨rfl, Fr.setCells b news _ w, size_setCells b news _ w⟩⟩
      exact (hat.put_apart hfit (.inl (by omega))).append (by rw [hyl]; exact At.put_same hfit)
    · have holds : ∀ j u, ys[j]? = some u → w.cell? ((⟨b, o, none⟩ : Addr).add j) = some u := fun j u hu => by rw [Addr.add_lit]; exact hat.rangeAt hb j u hu
      have hr := run_append_grow (P := P) w T ty e i z ht hi hz ⟨b, o, none⟩ n cap ys hyl holds a m c news hl hnews (by omega) (by omega) (growslice_fits (by omega) hbytes)
      have hg := grown cap (by omega)
      exact ⟨_, _, hr, hg.1, .inr ⟨rfl, hg.2, by simp⟩⟩
end

/-! ### laws at an operation -/
section
variable {P : Program} {ops : Array Oper} {Q : Exit → Act → World → Prop} {a : Act} {w : World} {rest : List Oper} {o : Oper}

/-- builtins by their runs -/
theorem exec_append {T : TypeId} {s x : Operand} (ho : o.op = .call { callee := .builtin .append, args := #[s, x], argTypes := #[T, T] }) {v0 x0 : Value} (hs : a.eval s = v0) (hx : a.eval x = x0) {v : Value} {w1 : World}
    (hrun : (Builtin.append_ #[T, T] 0 #[v0, x0]).run P w = .ok v w1) : (execOp a.eval o).run P w = .ok (.value v) w1 := by
  have e : Builtin.append_ #[T, T] o.type #[v0, x0] = Builtin.append_ #[T, T] 0 #[v0, x0] := rfl
  simp [execOp, ho, resolve, invoke, builtin, hs, hx, e, hrun]
theorem exec_clear {T : TypeId} {s : Operand} (ho : o.op = .call { callee := .builtin .clear, args := #[s], argTypes := #[T] }) {v0 : Value} (hs : a.eval s = v0) {v : Value} {w1 : World}
    (hrun : (Builtin.clear_ #[T] 0 #[v0]).run P w = .ok v w1) : (execOp a.eval o).run P w = .ok (.value v) w1 := by
  have e : Builtin.clear_ #[T] o.type #[v0] = Builtin.clear_ #[T] 0 #[v0] := rfl
  simp [execOp, ho, resolve, invoke, builtin, hs, e, hrun]
theorem exec_delete {T K : TypeId} {s x : Operand} (ho : o.op = .call { callee := .builtin .delete, args := #[s, x], argTypes := #[T, K] }) {v0 x0 : Value} (hs : a.eval s = v0) (hx : a.eval x = x0) {v : Value} {w1 : World}
    (hrun : (Builtin.delete_ #[T, K] 0 #[v0, x0]).run P w = .ok v w1) : (execOp a.eval o).run P w = .ok (.value v) w1 := by
  have e : Builtin.delete_ #[T, K] o.type #[v0, x0] = Builtin.delete_ #[T, K] 0 #[v0, x0] := rfl
  simp [execOp, ho, resolve, invoke, builtin, hs, hx, e, hrun]
theorem exec_len {T : TypeId} {s : Operand} (ho : o.op = .call { callee := .builtin .len, args := #[s], argTypes := #[T] }) {v0 : Value} (hs : a.eval s = v0) {v : Value} {w1 : World}
    (hrun : (Builtin.len_ #[T] 0 #[v0]).run P w = .ok v w1) : (execOp a.eval o).run P w = .ok (.value v) w1 := by
  have e : Builtin.len_ #[T] o.type #[v0] = Builtin.len_ #[T] 0 #[v0] := rfl
  simp [execOp, ho, resolve, invoke, builtin, hs, e, hrun]
theorem exec_lookup {T : TypeId} {m x : Operand} {c : Bool} (ho : o.op = .lookup T m x c) {mv key v : Value} {w1 : World} (hm : a.eval m = mv) (hx : a.eval x = key) (hrun : (Instr.lookup T mv key c).run P w = .ok v w1) : (execOp a.eval o).run P w = .ok (.value v) w1 := by
  simp [execOp, ho, hm, hx, hrun]
theorem exec_update {T : TypeId} {m x y : Operand} (ho : o.op = .mapUpdate T m x y) {mv key v : Value} {w1 : World} (hm : a.eval m = mv) (hx : a.eval x = key) (hy : a.eval y = v) (hrun : (Instr.mapUpdate T mv key v).run P w = .ok () w1) : (execOp a.eval o).run P w = .ok .skip w1 := by
  simp [execOp, ho, hm, hx, hy, hrun]
theorem exec_buildSlice {T : TypeId} {n : Nat} {parts : List (Nat × Operand)} (ho : o.op = .buildSlice T n parts.toArray) {vs : List (Nat × Value)} (hvs : parts.map (fun p => (p.1, a.eval p.2)) = vs) {v : Value} {w1 : World} (hrun : (Instr.buildSlice T n vs.toArray).run P w = .ok v w1) : (execOp a.eval o).run P w = .ok (.value v) w1 := by
  simp [execOp, ho, hvs, hrun]
theorem exec_build {T : TypeId} {parts : List (Nat × Operand)} (ho : o.op = .build T parts.toArray) {vs : List (Nat × Value)} (hvs : parts.map (fun p => (p.1, a.eval p.2)) = vs) {v : Value} {w1 : World} (hrun : (Instr.build T vs.toArray).run P w = .ok v w1) : (execOp a.eval o).run P w = .ok (.value v) w1 := by
  simp [execOp, ho, hvs, hrun]

/-- an operation by its run, told by its slot -/
theorem wpList_do (hg : o.guard = none) (d : Option Tmp) (hd : o.dst = d) (v : Value) (w1 : World) (h : (execOp a.eval o).run P w = .ok (.value v) w1) (hK : wpList P ops Q rest (a.put d v) w1) : wpList P ops Q (o :: rest) a w := by
  subst hd
  exact wpList_val hg h hK

/-- '[]T{..}' -/
theorem wpList_buildSlice (hg : o.guard = none) (d : Option Tmp) (hd : o.dst = d) (T : TypeId) (n : Nat) (parts : List (Nat × Operand)) (ho : o.op = .buildSlice T n parts.toArray) (vs : List (Nat × Value)) (hvs : parts.map (fun p => (p.1, a.eval p.2)) = vs) (cs : Array Value) (e : TypeId)
    (hrun : ∀ w, (Instr.buildSlice T n vs.toArray).run P w = .ok (.slice (some ⟨w.heap.size, 0, none⟩) n n) (w.alloc (.cells cs e)))
    (hK : ∀ b w1, Hid (b = w.heap.size) → Fr [] w w1 → w1.heap[b]? = some (.cells cs e) → Hid (w1.heap.size = w.heap.size + 1) → wpList P ops Q rest (a.put d (.slice (some ⟨b, 0, none⟩) n n)) w1) : wpList P ops Q (o :: rest) a w :=
  wpList_do hg d hd _ _ (exec_buildSlice ho hvs (hrun w)) (hK _ _ rfl (Fr.alloc _ _) (heap_alloc_new _ _) (World.size_alloc _ _))

/-- a row's stretch read as one value -/
theorem wpList_load_seg (hg : o.guard = none) (ty : TypeId) (x : Operand) (ho : o.op = .load ty x) (d : Option Tmp) (hd : o.dst = d) (b off : Nat) (hx : a.eval x = .pointer (some ⟨b, off, none⟩)) (zs : List Value) (D : TypeDesc)
    (t : TypeId) (cs : Array Value) (hr : w.heap[b]? = some (.cells cs t)) (hat : At cs off zs) (hu : P.underlying ty = some D) (hD : D.isRow = true) (hi : (P.info? ty).map (·.size) = some zs.length)
    (hK : wpList P ops Q rest (a.put d (.agg zs.toArray)) w) : wpList P ops Q (o :: rest) a w := by
  subst hd
  exact wpList_load_mid hg ty x ho b off hx zs D (hat.rangeAt hr) hu hD hi hK

/-- a value of several cells stored into a row's stretch -/
theorem wpList_store_seg (hg : o.guard = none) (ty : TypeId) (x y : Operand) (ho : o.op = .store ty x y) (b off : Nat) (zs : List Value) (hx : a.eval x = .pointer (some ⟨b, off, none⟩)) (hy : a.eval y = .agg zs.toArray)
    (t : TypeId) (cs : Array Value) (hr : w.heap[b]? = some (.cells cs t)) (hfit : off + zs.length ≤ cs.size) (hi : (P.info? ty).map (·.size) = some zs.length) (h1 : ∀ v ∈ zs, v.oneCell' = true)
    (hK : ∀ w1, Fr [b] w w1 → w1.heap[b]? = some (.cells (put cs off zs) t) → Hid (w1.heap.size = w.heap.size) → wpList P ops Q rest (a.put o.dst undef) w1) : wpList P ops Q (o :: rest) a w := by
  refine wpList_store_mid hg ty x y ho b off zs.toArray hx hy (there_row hr (by simpa using hfit)) (by simpa using hi) (all_oneCell_toArray h1) ?_
  exact hK _ (Fr.setCells b _ _ w) (by simpa using heap_setCells b t zs off w cs hr) (by show _ = _; simpa using size_setCells b zs off w)
end
end Go.Proofs.Ybulkduvu.Base
