/-
  Blocks of memory in a world that is a letter: the frame 'Fr', and laws at an operation that leave the new world a letter with its facts.
-/
import Derived.WalkKit
import Derived.WalkSpells
import Derived.WalkLawsBesides
import Derived.Maps.OwnSet
namespace Go.Proofs.Ybulkduvu.Base
open Go Go.RowKit

/-- Of the blocks that were there, those outside S are as they were. -/
structure Fr (S : List Nat) (w w' : World) : Prop where
  os : w'.os = w.os
  tape : w'.tape = w.tape
  output : w'.output = w.output
  size : w.heap.size ≤ w'.heap.size
  block : ∀ k, k < w.heap.size → k ∉ S → w'.heap[k]? = w.heap[k]?

theorem Fr.refl (S : List Nat) (w : World) : Fr S w w := ⟨rfl, rfl, rfl, Nat.le_refl _, fun _ _ _ => rfl⟩

theorem Fr.trans {S T : List Nat} {a b c : World} (h : Fr S a b) (k : Fr T b c) (hT : ∀ x ∈ T, x ∈ S ∨ a.heap.size ≤ x) : Fr S a c :=
  ⟨k.os.trans h.os, k.tape.trans h.tape, k.output.trans h.output, Nat.le_trans h.size k.size, fun i hi hS =>
    (k.block i (Nat.lt_of_lt_of_le hi h.size) (fun hT' => (hT i hT').elim hS (fun h' => absurd h' (by omega)))).trans (h.block i hi hS)⟩

theorem Fr.mono {S T : List Nat} {a b : World} (h : Fr S a b) (hT : ∀ x ∈ S, x ∈ T ∨ a.heap.size ≤ x) : Fr T a b :=
  ⟨h.os, h.tape, h.output, h.size, fun i hi hS => h.block i hi (fun hx => (hT i hx).elim hS (fun h' => absurd h' (by omega)))⟩

theorem lt_of_get {w : World} {b : Nat} {o : Obj} (h : w.heap[b]? = some o) : b < w.heap.size := (Array.getElem?_eq_some_iff.1 h).1

theorem Fr.get {S : List Nat} {w w' : World} (h : Fr S w w') {b : Nat} {o : Obj} (hb : w.heap[b]? = some o) (hS : b ∉ S) : w'.heap[b]? = some o :=
  (h.block b (lt_of_get hb) hS).trans hb

theorem Fr.cell {S : List Nat} {w w' : World} (h : Fr S w w') {a : Addr} {v : Value} (hv : w.cell? a = some v) (hS : a.block ∉ S) : w'.cell? a = some v :=
  (World.cell?_of_block (w := w) (h.block a.block (block_lt_of_cell hv) hS)).trans hv

theorem Fr.lt {S : List Nat} {w w' : World} (h : Fr S w w') {b : Nat} (hb : b < w.heap.size) : b < w'.heap.size := Nat.lt_of_lt_of_le hb h.size

theorem Fr.below {S : List Nat} {w w' : World} (h : Fr S w w') {B : Nat} (hB : B ≤ w.heap.size) (hS : ∀ x ∈ S, B ≤ x) : Below B w w' :=
  ⟨h.os, h.tape, h.output, h.size, fun k hk => h.block k (by omega) (fun hx => by have := hS k hx; omega)⟩

theorem Fr.of_below {w w' : World} (h : Below w.heap.size w w') : Fr [] w w' := ⟨h.os, h.tape, h.output, h.size, fun k hk _ => h.block k hk⟩

theorem Fr.alloc (w : World) (o : Obj) : Fr [] w (w.alloc o) := ⟨rfl, rfl, rfl, by simp, fun k hk _ => Below.heap_alloc w o k hk⟩
theorem Fr.setRow (w : World) (g : Nat) (cs : Array Value) : Fr [g] w (w.setRow g cs) :=
  ⟨rfl, rfl, rfl, by simp, fun k _ hS => setRow_other w g k cs (by simpa using hS)⟩
theorem Fr.setCell (w : World) (a : Addr) (v : Value) : Fr [a.block] w (w.setCell a v) :=
  ⟨rfl, rfl, rfl, by simp, fun k _ hS => heap_setCell_other w a k v (by simpa using hS)⟩
theorem Fr.drew (w : World) : Fr [] w w.drew := ⟨rfl, rfl, rfl, Nat.le_refl _, fun _ _ _ => rfl⟩
theorem Fr.of_grown {w w' : World} {b : Nat} (h : w.grownBy w' (some b)) : Fr [b] w w' :=
  ⟨h.os, h.tape, h.output, h.size, fun k hk hS => h.block k hk (fun e => hS (by cases e; simp))⟩
theorem Fr.of_grown0 {w w' : World} (h : w.grownBy w' none) : Fr [] w w' :=
  ⟨h.os, h.tape, h.output, h.size, fun k hk _ => h.block k hk (by simp)⟩

theorem Fr.trans0 {S : List Nat} {a b c : World} (h : Fr S a b) (k : Fr [] b c) : Fr S a c := h.trans k (by simp)
theorem Fr.trans1 {S : List Nat} {g : Nat} {a b c : World} (h : Fr S a b) (k : Fr [g] b c) (hg : g ∈ S ∨ a.heap.size ≤ g) : Fr S a c := h.trans k (by simpa using hg)

theorem all_set {cs : Array Value} {v : Value} {i : Nat} (h : cs.all (·.oneCell') = true) (hv : v.oneCell' = true) : (cs.setIfInBounds i v).all (·.oneCell') = true := by
  rw [Array.all_eq_true_iff_forall_mem] at *
  intro x hx
  rcases Array.mem_or_eq_of_mem_setIfInBounds hx with h' | rfl
  · exact h x h'
  · exact hv

section
variable {P : Program} {ops : Array Oper} {Q : Exit → Act → World → Prop} {a : Act} {w : World} {rest : List Oper} {o : Oper}

theorem wpList_val (hg : o.guard = none) {v : Value} {w1 : World} (h : (execOp a.eval o).run P w = .ok (.value v) w1) (hK : wpList P ops Q rest (a.put o.dst v) w1) : wpList P ops Q (o :: rest) a w :=
  wpList_plain hg fun K hK' => by unfold Oper.wp; rw [h]; exact hK' _ _ hK

theorem wpList_unit (hg : o.guard = none) {w1 : World} (h : (execOp a.eval o).run P w = .ok .skip w1) (hK : wpList P ops Q rest (a.put o.dst undef) w1) : wpList P ops Q (o :: rest) a w :=
  wpList_plain hg fun K hK' => by unfold Oper.wp; rw [h]; exact hK' _ _ hK

/-- 'var x T' -/
theorem wpList_alloc (hg : o.guard = none) (t : TypeId) (ho : o.op = .alloc t) (d : Option Tmp) (hd : o.dst = d) (z : Value) (cs : Array Value) (hz : (zeroValue t).run P w = .ok z w) (hcs : z.cells = cs)
    (hK : ∀ b w1, Hid (b = w.heap.size) → Fr [] w w1 → w1.heap[b]? = some (.cells cs t) → Hid (w1.heap.size = w.heap.size + 1) → wpList P ops Q rest (a.put d (.pointer (some ⟨b, 0, none⟩))) w1) :
    wpList P ops Q (o :: rest) a w := by
  subst hcs hd
  refine wpList_val hg (v := .pointer (some ⟨w.heap.size, 0, none⟩)) (w1 := w.alloc (.cells z.cells t)) ?_ (hK _ _ rfl (Fr.alloc _ _) (heap_alloc_new _ _) (World.size_alloc _ _))
  simp [execOp, ho, Instr.alloc, hz, newVar, newRow]

/-- '&T{..}' of a value at hand -/
theorem wpList_box (hg : o.guard = none) (t : TypeId) (x : Operand) (ho : o.op = .box t x) (d : Option Tmp) (hd : o.dst = d) (v : Value) (cs : Array Value) (hx : a.eval x = v) (hcs : v.cells = cs)
    (hK : ∀ b w1, Hid (b = w.heap.size) → Fr [] w w1 → w1.heap[b]? = some (.cells cs t) → Hid (w1.heap.size = w.heap.size + 1) → wpList P ops Q rest (a.put d (.pointer (some ⟨b, 0, none⟩))) w1) :
    wpList P ops Q (o :: rest) a w := by
  subst hcs hd
  refine wpList_val hg (v := .pointer (some ⟨w.heap.size, 0, none⟩)) (w1 := w.alloc (.cells v.cells t)) ?_ (hK _ _ rfl (Fr.alloc _ _) (heap_alloc_new _ _) (World.size_alloc _ _))
  simp [execOp, ho, hx, Instr.box, newVar, newRow]

/-- a whole row read -/
theorem wpList_load_arr (hg : o.guard = none) (ty : TypeId) (x : Operand) (ho : o.op = .load ty x) (d : Option Tmp) (hd : o.dst = d)
    (g : Nat) (hx : a.eval x = .pointer (some ⟨g, 0, none⟩)) (t : TypeId) (cs : Array Value) (fr : Nat × Nat) (hr : w.heap[g]? = some (.cells cs t fr))
    (D : TypeDesc) (hu : P.underlying ty = some D) (hD : (match D with | .struct _ | .array _ _ => true | _ => false) = true) (hi : (P.info? ty).map (·.size) = some cs.size)
    (hK : wpList P ops Q rest (a.put d (.agg cs)) w) : wpList P ops Q (o :: rest) a w := by
  subst hd
  exact wpList_load_row hg ty x ho g hx t cs fr D hr hu hD hi hK

/-- a whole row stored over a whole row -/
theorem wpList_store_arr (hg : o.guard = none) (ty : TypeId) (x y : Operand) (ho : o.op = .store ty x y)
    (g : Nat) (cells : Array Value) (hx : a.eval x = .pointer (some ⟨g, 0, none⟩)) (hy : a.eval y = .agg cells)
    (t : TypeId) (old : Array Value) (hr : w.heap[g]? = some (.cells old t)) (hi : (P.info? ty).map (·.size) = some cells.size) (hs : old.size = cells.size) (h1 : cells.all (·.oneCell') = true)
    (hK : ∀ w1, Fr [g] w w1 → w1.heap[g]? = some (.cells cells t) → Hid (w1.heap.size = w.heap.size) → wpList P ops Q rest (a.put o.dst undef) w1) :
    wpList P ops Q (o :: rest) a w := by
  refine wpList_unit hg (w1 := w.setRow g cells) ?_ (hK _ (Fr.setRow _ _ _) (setRow_heap w g old cells t _ hr) (setRow_size _ _ _))
  simp only [execOp, ho, hx, hy, Instr.storeAt, Instr.sureAddr, Sem.run_bind, Sem.run_pure, Result.andThen_ok, run_storeVar_row w g t ty old cells hr hi hs h1]

/-- one cell of a row stored -/
theorem wpList_store_cell (hg : o.guard = none) (ty : TypeId) (x y : Operand) (ho : o.op = .store ty x y)
    (g i : Nat) (v : Value) (hx : a.eval x = .pointer (some ⟨g, i, none⟩)) (hy : a.eval y = v) (h1 : v.oneCell' = true)
    (t : TypeId) (cs : Array Value) (hr : w.heap[g]? = some (.cells cs t)) (hi : i < cs.size) (hz : (P.info? ty).map (·.size) = some 1)
    (hK : ∀ w1, Fr [g] w w1 → w1.heap[g]? = some (.cells (cs.setIfInBounds i v) t) → Hid (w1.heap.size = w.heap.size) → wpList P ops Q rest (a.put o.dst undef) w1) :
    wpList P ops Q (o :: rest) a w := by
  have hc : w.cell? ⟨g, i, none⟩ = some cs[i] := by rw [cell_of_row w g i cs t _ hr]; simp [hi]
  have hf : w.frozen? ⟨g, i, none⟩ = false := frozen_of_row w g i cs t hr
  have hcells : v.cells = #[v] := by cases v <;> simp [Value.oneCell', Value.cells] at h1 ⊢
  refine wpList_unit hg (w1 := w.setCell ⟨g, i, none⟩ v) ?_ (hK _ (Fr.setCell w ⟨g, i, none⟩ v) (heap_setCell_same w g i cs t v hr) (World.size_setCell _ _ _))
  cases hq : P.info? ty with
  | none => simp [hq] at hz
  | some inf =>
    have hs : inf.size = 1 := by simpa [hq] using hz
    simp [execOp, ho, hx, hy, Instr.storeAt, Instr.sureAddr, storeVar, sizeOf, typeInfo, hq, hs, hcells, storeCells, Addr.add, run_store _ _ _ _ _ h1, hc, hf]

/-- one cell of a row read -/
theorem wpList_load_cell (hg : o.guard = none) (ty : TypeId) (x : Operand) (ho : o.op = .load ty x) (d : Option Tmp) (hd : o.dst = d)
    (g i : Nat) (v : Value) (hx : a.eval x = .pointer (some ⟨g, i, none⟩)) (t : TypeId) (cs : Array Value) (fr : Nat × Nat) (hr : w.heap[g]? = some (.cells cs t fr)) (hv : cs[i]? = some v)
    (D : TypeDesc) (hu : P.underlying ty = some D) (hD : (match D with | .struct _ | .array _ _ => false | _ => true) = true)
    (hK : wpList P ops Q rest (a.put d v) w) : wpList P ops Q (o :: rest) a w := by
  subst hd
  have hc : w.cell? ⟨g, i, none⟩ = some v := by rw [cell_of_row w g i cs t _ hr]; exact hv
  have hagg : (isAgg ty).run P w = .ok false w := by
    unfold isAgg
    rw [Sem.run_bind, run_underlying hu w]
    cases D <;> simp_all
  refine wpList_val hg (v := v) (w1 := w) ?_ hK
  simp [execOp, ho, hx, Instr.loadAt, Instr.sureAddr, loadVar, hagg, hc]

/-- 'm[k]', 'v, ok := m[k]' by its run -/
theorem wpList_lookup (hg : o.guard = none) (t : TypeId) (m x : Operand) (c : Bool) (ho : o.op = .lookup t m x c) (d : Option Tmp) (hd : o.dst = d) (mv key v : Value) (hm : a.eval m = mv) (hx : a.eval x = key)
    (hrun : (Instr.lookup t mv key c).run P w = .ok v w) (hK : wpList P ops Q rest (a.put d v) w) : wpList P ops Q (o :: rest) a w := by
  subst hd
  refine wpList_val hg (v := v) (w1 := w) ?_ hK
  simp [execOp, ho, hm, hx, hrun]

/-- 'm[k] = v' by its run -/
theorem wpList_update (hg : o.guard = none) (t : TypeId) (m x y : Operand) (ho : o.op = .mapUpdate t m x y) (mv key v : Value) (hm : a.eval m = mv) (hx : a.eval x = key) (hy : a.eval y = v) (w1 : World)
    (hrun : (Instr.mapUpdate t mv key v).run P w = .ok () w1) (hK : wpList P ops Q rest (a.put o.dst undef) w1) : wpList P ops Q (o :: rest) a w := by
  refine wpList_unit hg (w1 := w1) ?_ hK
  simp [execOp, ho, hm, hx, hy, hrun]

/-- 'make(map[K]V)' -/
theorem wpList_makeMap (hg : o.guard = none) (t : TypeId) (ho : o.op = .makeMap t none) (d : Option Tmp) (hd : o.dst = d)
    (hK : ∀ b w1, Hid (b = w.heap.size) → Fr [] w w1 → w1.heap[b]? = some (.map #[] 0) → Hid (w1.heap.size = w.heap.size + 1) → wpList P ops Q rest (a.put d (.map (some b))) w1) :
    wpList P ops Q (o :: rest) a w := by
  subst hd
  refine wpList_val hg (v := .map (some w.heap.size)) (w1 := w.alloc (.map #[] 0)) ?_ (hK _ _ rfl (Fr.alloc _ _) (heap_alloc_new _ _) (World.size_alloc _ _))
  simp [execOp, ho, run_makeMap]

end
end Go.Proofs.Ybulkduvu.Base
