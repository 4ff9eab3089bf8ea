import Derived.Test.YbulkdurmWalkA
namespace Go.Proofs.Ybulkdurm
open Go.RowKit Base
open Go.Maps (Keyed)

/-- A map value that holds just the keys of p: nil, or a block. -/
def MV (w : World) (m : Option Nat) (n : Nat) (p : Nat → Bool) (v : Nat → Int) : Prop :=
  (m = none ∧ ∀ k, k < 256 → p k = false) ∨ ∃ b, m = some b ∧ MapIs w b n p v

theorem MV.keep {w w' : World} {m : Option Nat} {n : Nat} {p : Nat → Bool} {v : Nat → Int} {S : List Nat} (h : MV w m n p v) (hF : Fr S w w') (hS : ∀ b, m = some b → b ∉ S) : MV w' m n p v := by
  rcases h with h | ⟨b, hm, h⟩
  · exact .inl h
  · exact .inr ⟨b, hm, h.keep hF (hS b hm)⟩

theorem MV.look {w : World} {m : Option Nat} {n k : Nat} {p : Nat → Bool} {v : Nat → Int} (h : MV w m n p v) (hk : k < 256) :
    (Instr.lookup 24 (.map m) (.agg (idC k)) true).run Yba.prog w = .ok (.tuple #[.int .i64 (if p k then v k else 0), .bool (p k)]) w := by
  rcases h with ⟨rfl, h⟩ | ⟨b, rfl, h⟩
  · rw [Maps.look_nil true law Yba.underlying24 (zero2 w) (key_of hk), h k hk]; simp
  · exact (h.look hk).1

theorem cnt_of_false {p : Nat → Bool} (h : ∀ k, k < 256 → p k = false) : cnt p = 0 := by
  unfold cnt
  rw [List.countP_eq_zero]
  intro k hk
  simp [h k (by simpa using hk)]

theorem MV.len {w : World} {m : Option Nat} {n : Nat} {p : Nat → Bool} {v : Nat → Int} (h : MV w m n p v) (ty : TypeId) : (Builtin.len_ #[24] ty #[.map m]).run Yba.prog w = .ok (.int .i64 (cnt p)) w := by
  rcases h with ⟨rfl, h⟩ | ⟨b, rfl, h⟩
  · rw [Maps.len_nil Yba.underlying24, cnt_of_false h]; rfl
  · exact h.len ty

def cntTo (p : Nat → Bool) (j : Nat) : Nat := (List.range j).countP p
theorem cntTo_succ (p : Nat → Bool) (j : Nat) : cntTo p (j + 1) = cntTo p j + if p j then 1 else 0 := by
  simp [cntTo, List.range_succ, List.countP_append, List.countP_cons]
theorem cntTo_le (p : Nat → Bool) (j : Nat) : cntTo p j ≤ j := by
  have := List.countP_le_length (p := p) (l := List.range j)
  simpa [cntTo] using this

set_option maxHeartbeats 400000 in
set_option maxRecDepth 100000 in
theorem matches_any (m : Option Nat) (n bp bv : Nat) (p : Nat → Bool) (v : Nat → Int) (w : World) (hm : MV w m n p v)
    (rp : w.heap[bp]? = some (.cells (bA p) 25)) (rv : w.heap[bv]? = some (.cells (iA v) 26)) :
    Calls Yba.prog 7 #[.map m, .pointer (some ⟨bp, 0, none⟩), .pointer (some ⟨bv, 0, none⟩)] w fun e w' => e = .returned (.bool true) ∧ Fr [] w w' := by
  go_enter Yba.func7, Yba.ntmps7
  go_wp2
  go_loopw [7, 8] (fun n k wr => ∃ j : Nat, j ≤ 256 ∧ k = .int .i64 j ∧ n = .int .i64 (cntTo p j) ∧ Fr [] w wr) (fun _ k _ => 256 - (intOf k).toNat)
  case atStart => exact ⟨0, by omega, rfl, rfl, Fr.refl _ _⟩
  case round =>
    obtain ⟨j, hj, rfl, rfl, hF⟩ := hrel
    have hc := cntTo_le p j
    have hm' : MV wr m n p v := hm.keep hF (by simp)
    have rp' := hF.get rp (by simp)
    have rv' := hF.get rv (by simp)
    by_cases hlt : j < 256
    · have hsucc := cntTo_succ p j
      have Hs : Hid (cntTo p (j + 1) = cntTo p j + if p j then 1 else 0) := hsucc
      clear hsucc
      cases hp : p j
      · go_wp2_with (first
          | (refine wpList_load_cell rfl 4 _ rfl (some 19) rfl bp j (.bool false) rfl 25 _ _ rp' (by rw [bA_get p hlt, hp]) _ Yba.underlying4 rfl ?_))
        go_roundw
        case rel => exact ⟨j + 1, by omega, by go_num, by rw [Hs.out, hp]; rfl, hF⟩
        case measure => simp [intOf]; omega
      · go_wp2_with (first
          | (refine wpList_load_cell rfl 4 _ rfl (some 19) rfl bp j (.bool true) rfl 25 _ _ rp' (by rw [bA_get p hlt, hp]) _ Yba.underlying4 rfl ?_)
          | (go_at_call 9; refine (id_any j _).mono ?_; rintro e w2 ⟨rfl, F2⟩; have l2 := (hm'.keep F2 (by simp)).look hlt; rw [hp] at l2; have c2 : w2.cell? ⟨bv, j, none⟩ = some (.int .i64 (v j)) := ((cell_of_row w2 bv j _ _ _ (F2.get rv' (by simp))).trans (iA_get v hlt)))
          | (refine wpList_lookup rfl 24 _ _ true rfl (some 28) rfl (.map m) (.agg (idC j)) _ rfl rfl l2 ?_))
        go_roundw
        case rel => exact ⟨j + 1, by omega, by go_num, by rw [Hs.out, hp]; go_num, hF.trans0 F2⟩
        case measure => simp [intOf]; omega
    · have hj : j = 256 := by omega
      subst hj
      have hl := fun ty => hm'.len ty
      go_wp2
      go_ret
      refine ⟨congrArg (fun b => Ending.returned (Value.bool b)) ?_, hF⟩
      simp [cnt, cntTo]
end Go.Proofs.Ybulkdurm
