import Derived.Test.YbulkdusaApply
import Derived.Test.YbulkdusaRaiseB
namespace Go.Proofs.Ybulkdusa
open Go.RowKit Base

/-- the script: each step's four cells -/
def Steps (w : World) (a : Option Addr) (len : Nat) : Prop := len = 0 ∨ ∃ b o, a = some ⟨b, o, none⟩ ∧ ∀ j, j < len → ∃ (k : Nat) (t : Int) (d : Bool) (v : Int), k < 256 ∧ 0 ≤ v ∧ v < 256 ∧
  w.cell? ⟨b, o + j * 4, none⟩ = some (.int .u8 k) ∧ w.cell? ⟨b, o + j * 4 + 1, none⟩ = some (.int .u64 t) ∧ w.cell? ⟨b, o + j * 4 + 2, none⟩ = some (.bool d) ∧ w.cell? ⟨b, o + j * 4 + 3, none⟩ = some (.int .u8 v)

def stp (k : Nat) (t : Int) (d : Bool) (v : Int) : Array Value := #[.int .u8 k, .int .u64 t, .bool d, .int .u8 v]
theorem stp_one (k : Nat) (t : Int) (d : Bool) (v : Int) : (stp k t d v).all (·.oneCell') = true := by simp [stp, Value.oneCell']
theorem zero54 (w : World) : (zeroValue 54).run Yba.prog w = .ok (.agg (stp 0 0 false 0)) w := by kernel_rfl
theorem size54 : (Yba.prog.info? 54).map (·.size) = some 4 := by kernel_rfl
theorem build52 (bd ba : Nat) (h : Int) (w : World) : (Instr.build 52 #[(14, .map (some bd)), (15, .map (some ba)), (16, .int .u64 h)]).run Yba.prog w = .ok (.agg (stRow 0 0 bd ba h)) w := by kernel_rfl
theorem build59 {w0 : World} {val : Value} (h : OKv w0 val) (c : Nat) (d : Bool) (w : World) : (Instr.build 59 #[(0, .string (keyS c)), (1, val), (2, .bool d)]).run Yba.prog w = .ok (.agg #[.string (keyS c), val, .bool d]) w := by
  rcases h with rfl | ⟨b, x, rfl, _⟩ <;> kernel_rfl
theorem buildS71 {w0 : World} {val : Value} (h : OKv w0 val) (c : Nat) (d : Bool) (w : World) : (Instr.buildSlice 71 1 #[(0, .agg #[.string (keyS c), val, .bool d])]).run Yba.prog w = .ok (.slice (some ⟨w.heap.size, 0, none⟩) 1 1) (w.alloc (.cells #[.string (keyS c), val, .bool d] 59)) := by
  rcases h with rfl | ⟨b, x, rfl, _⟩ <;> kernel_rfl
theorem buildS55 (v : Int) (w : World) : (Instr.buildSlice 55 1 #[(0, .int .u8 v)]).run Yba.prog w = .ok (.slice (some ⟨w.heap.size, 0, none⟩) 1 1) (w.alloc (.cells #[.int .u8 v] 5)) := by kernel_rfl

/-- ahead of the build loop's round j -/
def B1 (w wr : World) (g bd ba j : Nat) (h0 : Int) : Prop := ∃ f T B ag, St wr g bd ba j j 0 0 h0 f T B ag ∧ Fr [] w wr ∧ ∀ x ∈ own g bd ba T B, w.heap.size ≤ x

theorem own_nil (g bd ba : Nat) (B : Nat → Nat) {x : Nat} (h : x ∈ own g bd ba (fun _ => []) B) : x = g ∨ x = bd ∨ x = ba := by
  rcases mem_own.1 h with h | h | h | ⟨c, _, h, _⟩
  · exact .inl h
  · exact .inr (.inl h)
  · exact .inr (.inr h)
  · exact absurd rfl h

theorem b1_start {w w1 w2 w3 : World} {g bd ba : Nat} {h0 : Int} (ed : bd = w.heap.size) (s1 : w1.heap.size = w.heap.size + 1) (F1 : Fr [] w w1) (rd : w1.heap[bd]? = some (.map #[] 0)) (ea : ba = w1.heap.size) (s2 : w2.heap.size = w1.heap.size + 1) (F2 : Fr [] w1 w2) (ra : w2.heap[ba]? = some (.map #[] 0)) (eg : g = w2.heap.size) (F3 : Fr [] w2 w3) (rg : w3.heap[g]? = some (.cells (stRow 0 0 bd ba h0) 52)) :
    B1 w w3 g bd ba 0 h0 := by
  have M1 := MapIs.made rd
  have M2 := MapIs.made ra
  refine ⟨_, fun _ => [], fun _ => 0, fun _ => false, ⟨rg, (M1.keep F2 (by simp)).keep F3 (by simp), M2.keep F3 (by simp), by omega, fun c _ => ⟨fun _ => rfl, fun h => absurd rfl h, .nil, by simp, Nat.le_refl _⟩, fun _ _ _ _ _ h => absurd rfl h, by simp⟩, (F1.trans0 F2).trans0 F3, fun x hx => ?_⟩
  rcases own_nil g bd ba _ hx with rfl | rfl | rfl <;> omega

theorem B1.next {w wr w' : World} {g bd ba j : Nat} {h0 : Int} {T : Nat → List Ver} {B : Nat → Nat} (F0 : Fr [] w wr) (ho : ∀ x ∈ own g bd ba T B, w.heap.size ≤ x) (F : Fr (own g bd ba T B) wr w') (hs : ∃ f' T' B' ag', St w' g bd ba (j + 1) (j + 1) 0 0 h0 f' T' B' ag' ∧ ∀ x ∈ own g bd ba T' B', x ∈ own g bd ba T B ∨ wr.heap.size ≤ x) : B1 w w' g bd ba (j + 1) h0 := by
  obtain ⟨f', T', B', ag', S', ho'⟩ := hs
  refine ⟨f', T', B', ag', S', F0.trans F (fun x hx => .inr (ho x hx)), fun x hx => ?_⟩
  rcases ho' x hx with h | h
  · exact ho x h
  · exact Nat.le_trans F0.size h
end Go.Proofs.Ybulkdusa
