import Derived.Test.YbulkdusoFmtHeadN
import Derived.Test.YbulkdusoFmtHeadY
namespace Go.Proofs.YbulkdusoFmt
open Go.RowKit Base

theorem head_any (s b o cap p n t : Nat) (l : List Int) (ts0 : Array Value) (w : World) (hn : Hid (l.length = n)) (hl : n ≤ 1048576) (hp : p < n) (ho : Oct l) (E : Env w s b o cap n p t l) (r0 : w.heap[t]? = some (.cells ts0 41)) (hts : ts0.size = 10) :
    Calls Ybaf.prog 12 #[.pointer (some ⟨s, 0, none⟩), .pointer (some ⟨t, 0, none⟩)] w fun e w' => Fr [t] w w' ∧ ∃ ts, w'.heap[t]? = some (.cells ts 41) ∧ ts.size = 10 ∧ headRes (hk l p) p (hd l p) e ts := by
  obtain ⟨x, hlx⟩ := at_lt hn.out hp
  by_cases hx : x % 32 = 31
  · exact head_y s b o cap p n t l ts0 w hn hl hp ho E r0 hts (fun y hy => by rw [hlx] at hy; cases hy; exact hx)
  · exact head_n s b o cap p n t l ts0 w hn hl hp ho E r0 hts (fun y hy => by rw [hlx] at hy; cases hy; exact hx)
end Go.Proofs.YbulkdusoFmt
