import Derived.Test.YbulkdusoFmtCnt
import Derived.Test.YbulkdusoFmtByt
import Derived.LaidEqlPtr
namespace Go.Proofs.YbulkdusoFmt
open Go.RowKit Base

theorem clone4 (a : Option Addr) (n cap : Nat) (l : List Int) (w : World) (hn : l.length = n) (hl : n ≤ 1048576) (hb : Bs w a l) (hnil : a = none → n = 0) :
    Calls Ybaf.prog 4 #[.slice a n cap] w fun e w' => ∃ a' c', e = .returned (.slice a' n c') ∧ Fr [] w w' ∧ Bs w' a' l := by
  cases a with
  | none =>
    obtain rfl := hnil rfl
    refine (clone_nil cap w).mono ?_
    rintro e w' ⟨rfl, rfl⟩
    exact ⟨none, 0, rfl, Fr.refl _ _, hb⟩
  | some ad => exact clone_some ad n cap l w hn hl hb

theorem build41' (p : Int) (w : World) : (Instr.build 41 #[(2, .int .i64 p)]).run Ybaf.prog w = .ok (.agg (tlv (.int .u8 0) (.int .u64 0) (.bool false) p 0 0 0)) w := by kernel_rfl
theorem build56n (sb : Nat) (p : Int) (pk : Bool) (w : World) : (Instr.build 56 #[(0, .pointer (some ⟨sb, 0, none⟩)), (1, .agg (tlv (.int .u8 0) (.int .u64 0) (.bool false) p 0 0 0)), (4, .bool pk), (3, .nilIface)]).run Ybaf.prog w = .ok (.agg (dec (.pointer (some ⟨sb, 0, none⟩)) p .nilIface pk 0 (.slice none 0 0))) w := by kernel_rfl
theorem build56i (sb : Nat) (p : Int) (pk : Bool) (t : TypeId) (x : Value) (w : World) : (Instr.build 56 #[(0, .pointer (some ⟨sb, 0, none⟩)), (1, .agg (tlv (.int .u8 0) (.int .u64 0) (.bool false) p 0 0 0)), (4, .bool pk), (3, .iface t x)]).run Ybaf.prog w = .ok (.agg (dec (.pointer (some ⟨sb, 0, none⟩)) p (.iface t x) pk 0 (.slice none 0 0))) w := by kernel_rfl
theorem build58 (e : Int) (w : World) : (Instr.build 58 #[(0, .int .i64 0), (1, .int .i64 e)]).run Ybaf.prog w = .ok (.agg #[.int .i64 0, .int .i64 e]) w := by kernel_rfl
theorem bs43 (e : Int) (w : World) : (Instr.buildSlice 43 1 #[(0, .agg #[.int .i64 0, .int .i64 e])]).run Ybaf.prog w = .ok (.slice (some ⟨w.heap.size, 0, none⟩) 1 1) (w.alloc (.cells #[.int .i64 0, .int .i64 e] 58)) := by kernel_rfl
theorem build45 (eb : Nat) (w : World) : (Instr.build 45 #[(1, .int .i64 1), (2, .slice (some ⟨eb, 0, none⟩) 1 1)]).run Ybaf.prog w = .ok (.agg #[.slice none 0 0, .int .i64 1, .slice (some ⟨eb, 0, none⟩) 1 1]) w := by kernel_rfl
theorem peq (b : Nat) (w : World) : (binOp .eql 28 (.pointer (some ⟨b, 0, none⟩)) (.pointer (some ⟨b, 0, none⟩))).run Ybaf.prog w = .ok (.bool true) w := by
  have h := size34
  cases hq : Ybaf.prog.info? 34 with
  | none => simp [hq] at h
  | some j => exact run_eql_ptr_same w _ Ybaf.underlying28 hq
theorem size45 : (Ybaf.prog.info? 45).map (·.size) = some 3 := by kernel_rfl

/-- a stretch of a row stored -/
theorem wpList_store_seg {P : Program} {ops : Array Oper} {Q : Exit → Act → World → Prop} {a : Act} {w : World} {rest : List Oper} {o : Oper} (hg : o.guard = none) (ty : TypeId) (x y : Operand) (ho : o.op = .store ty x y)
    (b off : Nat) (cells : Array Value) (hx : a.eval x = .pointer (some ⟨b, off, none⟩)) (hy : a.eval y = .agg cells) (t : TypeId) (cs : Array Value) (hr : w.heap[b]? = some (.cells cs t)) (hfit : off + cells.size ≤ cs.size)
    (hi : (P.info? ty).map (·.size) = some cells.size) (h1 : cells.all (·.oneCell') = true)
    (hK : ∀ w1, Fr [b] w w1 → w1.heap[b]? = some (.cells (put cs off cells.toList) t) → wpList P ops Q rest (a.put o.dst undef) w1) : wpList P ops Q (o :: rest) a w :=
  wpList_store_mid hg ty x y ho b off cells hx hy (there_row hr hfit) hi h1 (hK _ (Fr.setCells b _ _ w) (heap_setCells b t _ _ w cs hr))

end Go.Proofs.YbulkdusoFmt
