import Derived.Test.YbulkdurmWalkG
namespace Go.Proofs.Ybulkdurm
open Go.RowKit Base
open Go.Maps (Keyed)

/-- what is known of the script that came in -/
def Steps (w : World) (a : Option Addr) (len : Nat) : Prop := len = 0 ∨ ∃ b o, a = some ⟨b, o, none⟩ ∧ ∀ j, j < len → ∃ (op k : Nat) (s : Int), op < 256 ∧ k < 256 ∧ (Lit.int .i64 s).wf = true ∧
  w.cell? ⟨b, o + j * 3, none⟩ = some (.int .u8 op) ∧ w.cell? ⟨b, o + j * 3 + 1, none⟩ = some (.int .u8 k) ∧ w.cell? ⟨b, o + j * 3 + 2, none⟩ = some (.int .i64 s)

theorem ne_type {w : World} {b b' : Nat} {cs cs' : Array Value} {t t' : TypeId} (h : w.heap[b]? = some (.cells cs t)) (h' : w.heap[b']? = some (.cells cs' t')) (ht : t ≠ t') : b ≠ b' := by
  intro e
  subst e
  rw [h'] at h
  simp at h
  exact ht h.2.symm

structure Rst (w wr : World) (g b4 b5 b6 b7 : Nat) (m0 m1 : Option Nat) (n : Nat) (p0 p1 : Nat → Bool) (v0 v1 : Nat → Int) : Prop where
  fr : Fr [] w wr
  rg : wr.heap[g]? = some (.cells (rfs 0 m0 m1) 38)
  r4 : wr.heap[b4]? = some (.cells (bA p0) 25)
  r5 : wr.heap[b5]? = some (.cells (bA p1) 25)
  r6 : wr.heap[b6]? = some (.cells (iA v0) 26)
  r7 : wr.heap[b7]? = some (.cells (iA v1) 26)
  M0 : MV wr m0 n p0 v0
  M1 : MV wr m1 n p1 v1
  z0 : m0 = none → v0 = fun _ => 0
  apart : ∀ b, m0 = some b → m1 = some b → False
  gg : w.heap.size ≤ g
  g4 : w.heap.size ≤ b4
  g5 : w.heap.size ≤ b5
  g6 : w.heap.size ≤ b6
  g7 : w.heap.size ≤ b7
  gm : ∀ b, m0 = some b → w.heap.size ≤ b
  gm1 : ∀ b, m1 = some b → w.heap.size ≤ b
  n45 : b4 ≠ b5
  n67 : b6 ≠ b7

theorem MV.mono {w : World} {m : Option Nat} {n n' : Nat} {p : Nat → Bool} {v : Nat → Int} (h : MV w m n p v) (hn : n ≤ n') : MV w m n' p v := by
  rcases h with h | ⟨b, hb, h⟩
  · exact .inl h
  · exact .inr ⟨b, hb, h.mono hn⟩
theorem MV.wf {w : World} {m : Option Nat} {n k : Nat} {p : Nat → Bool} {v : Nat → Int} (h : MV w m n p v) (hk : k < 256) (hp : p k = true) : (Lit.int .i64 (v k)).wf = true := by
  rcases h with ⟨_, h⟩ | ⟨b, hb, h⟩
  · rw [h k hk] at hp; cases hp
  · exact (h.look hk).2 hp

theorem Rst.keep {w wr w' : World} {g b4 b5 b6 b7 : Nat} {m0 m1 : Option Nat} {n : Nat} {p0 p1 : Nat → Bool} {v0 v1 : Nat → Int} (h : Rst w wr g b4 b5 b6 b7 m0 m1 n p0 p1 v0 v1) (hF : Fr [] wr w') : Rst w w' g b4 b5 b6 b7 m0 m1 n p0 p1 v0 v1 :=
  { h with fr := h.fr.trans0 hF, rg := hF.get h.rg (by simp), r4 := hF.get h.r4 (by simp), r5 := hF.get h.r5 (by simp), r6 := hF.get h.r6 (by simp), r7 := hF.get h.r7 (by simp), M0 := h.M0.keep0 hF, M1 := h.M1.keep0 hF }
theorem Rst.mono {w wr : World} {g b4 b5 b6 b7 : Nat} {m0 m1 : Option Nat} {n n' : Nat} {p0 p1 : Nat → Bool} {v0 v1 : Nat → Int} (h : Rst w wr g b4 b5 b6 b7 m0 m1 n p0 p1 v0 v1) (hn : n ≤ n') : Rst w wr g b4 b5 b6 b7 m0 m1 n' p0 p1 v0 v1 :=
  { h with M0 := h.M0.mono hn, M1 := h.M1.mono hn }
/-- a write to a block of the call's own that is none of the state's -/
theorem Rst.beside {w wr w' : World} {g b4 b5 b6 b7 x : Nat} {m0 m1 : Option Nat} {n : Nat} {p0 p1 : Nat → Bool} {v0 v1 : Nat → Int} {cs : Array Value} (h : Rst w wr g b4 b5 b6 b7 m0 m1 n p0 p1 v0 v1) (hx : wr.heap[x]? = some (.cells cs 45)) (gx : w.heap.size ≤ x) (hF : Fr [x] wr w') :
    Rst w w' g b4 b5 b6 b7 m0 m1 n p0 p1 v0 v1 :=
  { h with
    fr := h.fr.trans1 hF (.inr gx)
    rg := hF.get h.rg (by simp [ne_type h.rg hx (by decide)])
    r4 := hF.get h.r4 (by simp [ne_type h.r4 hx (by decide)])
    r5 := hF.get h.r5 (by simp [ne_type h.r5 hx (by decide)])
    r6 := hF.get h.r6 (by simp [ne_type h.r6 hx (by decide)])
    r7 := hF.get h.r7 (by simp [ne_type h.r7 hx (by decide)])
    M0 := h.M0.keep hF (h.M0.ne hx)
    M1 := h.M1.keep hF (h.M1.ne hx) }
/-- another block than the struct's and its map's -/
theorem Rst.off {w wr : World} {g b4 b5 b6 b7 : Nat} {m0 m1 : Option Nat} {n : Nat} {p0 p1 : Nat → Bool} {v0 v1 : Nat → Int} (h : Rst w wr g b4 b5 b6 b7 m0 m1 n p0 p1 v0 v1) {x : Nat} {cs : Array Value} {t : TypeId} (hx : wr.heap[x]? = some (.cells cs t)) (ht : t ≠ 38) : x ∉ g :: m0.toList := fun hmem => by
  rcases List.mem_cons.1 hmem with e | e
  · exact ne_type hx h.rg ht e
  · exact absurd (by simpa using e) (fun e' => h.M0.ne hx x e' (by simp))
/-- what 'add' and 'size' do to the struct and its map, then the model's two stores -/
theorem Rst.step {w wr w1 w2 w3 : World} {g b4 b5 b6 b7 k : Nat} {m0 m1 : Option Nat} {n : Nat} {p0 p1 : Nat → Bool} {v0 v1 : Nat → Int} {s : Int} (h : Rst w wr g b4 b5 b6 b7 m0 m1 n p0 p1 v0 v1)
    (K : Kept wr w1 g 0 m0 m1 (n + 1) (upd p0 k true) (upd v0 k s))
    (F2 : Fr [b4] w1 w2) (r4 : w2.heap[b4]? = some (.cells ((bA p0).setIfInBounds k (.bool true)) 25))
    (F3 : Fr [b6] w2 w3) (r6 : w3.heap[b6]? = some (.cells ((iA v0).setIfInBounds k (.int .i64 s)) 26)) :
    ∃ m0', m0'.isNone = false ∧ Rst w w3 g b4 b5 b6 b7 m0' m1 (n + 1) (upd p0 k true) p1 (upd v0 k s) v1 := by
  obtain ⟨F1, b, rg, M, hb⟩ := K
  rw [bA_set] at r4
  rw [iA_set] at r6
  have nm : ∀ {x : Nat} {cs : Array Value} {t : TypeId}, wr.heap[x]? = some (.cells cs t) → t ≠ 38 → x ∉ g :: m0.toList := fun {x cs t} hx ht hmem => by
    rcases List.mem_cons.1 hmem with e | e
    · exact ne_type hx h.rg ht e
    · exact absurd (by simpa using e) (fun e' => h.M0.ne hx x e' (by simp))
  have nm1 : ∀ b', m1 = some b' → b' ∉ g :: m0.toList := fun b' hb' hmem => by
    rcases List.mem_cons.1 hmem with e | e
    · exact h.M1.ne h.rg b' hb' (by simp [e])
    · exact h.apart b' (by simpa using e) hb'
  have r41 := F1.get h.r4 (nm h.r4 (by decide))
  have r51 := F1.get h.r5 (nm h.r5 (by decide))
  have r61 := F1.get h.r6 (nm h.r6 (by decide))
  have r71 := F1.get h.r7 (nm h.r7 (by decide))
  have M11 := h.M1.keep F1 nm1
  have rg2 := F2.get rg (by simp [ne_type rg r41 (by decide)])
  have r52 := F2.get r51 (by simp [h.n45.symm])
  have r62 := F2.get r61 (by simp [ne_type r61 r41 (by decide)])
  have r72 := F2.get r71 (by simp [ne_type r71 r41 (by decide)])
  have M12 := M11.keep F2 (M11.ne r41)
  have M2 := M.keep F2 (by simp [M.ne_cells r41])
  have hgb : w.heap.size ≤ b := by
    rcases hb with hb | ⟨_, hb⟩
    · exact h.gm b hb
    · exact Nat.le_trans h.fr.size hb
  refine ⟨some b, rfl, ?_⟩
  exact {
    fr := ((h.fr.trans F1 (fun x hx => .inr (by
      rcases List.mem_cons.1 hx with e | e
      · rw [e]; exact h.gg
      · exact h.gm x (by simpa using e)))).trans1 F2 (.inr h.g4)).trans1 F3 (.inr h.g6)
    rg := F3.get rg2 (by simp [ne_type rg2 r62 (by decide)])
    r4 := F3.get r4 (by simp [ne_type r4 r62 (by decide)])
    r5 := F3.get r52 (by simp [ne_type r52 r62 (by decide)])
    r6 := r6
    r7 := F3.get r72 (by simp [h.n67.symm])
    M0 := .inr ⟨b, rfl, M2.keep F3 (by simp [M2.ne_cells r62])⟩
    M1 := (M12.keep F3 (M12.ne r62)).mono (by omega)
    z0 := fun e => by cases e
    apart := fun b' e1 e2 => by
      cases e1
      rcases hb with hb | ⟨_, hb⟩
      · exact h.apart b hb e2
      · rcases h.M1 with ⟨e3, _⟩ | ⟨b2, e3, h3⟩
        · rw [e3] at e2; cases e2
        · rw [e3] at e2; cases e2; have := h3.lt; omega
    gg := h.gg, g4 := h.g4, g5 := h.g5, g6 := h.g6, g7 := h.g7
    gm := fun b' e => by cases e; exact hgb
    gm1 := h.gm1, n45 := h.n45, n67 := h.n67 }
/-- only the struct's block has been touched, and reads as before -/
theorem Rst.same {w wr w' : World} {g b4 b5 b6 b7 : Nat} {m0 m1 : Option Nat} {n : Nat} {p0 p1 : Nat → Bool} {v0 v1 : Nat → Int} (h : Rst w wr g b4 b5 b6 b7 m0 m1 n p0 p1 v0 v1) (hF : Fr [g] wr w') (rg : w'.heap[g]? = some (.cells (rfs 0 m0 m1) 38)) :
    Rst w w' g b4 b5 b6 b7 m0 m1 n p0 p1 v0 v1 :=
  { h with
    fr := h.fr.trans1 hF (.inr h.gg)
    rg := rg
    r4 := hF.get h.r4 (by simp [ne_type h.r4 h.rg (by decide)])
    r5 := hF.get h.r5 (by simp [ne_type h.r5 h.rg (by decide)])
    r6 := hF.get h.r6 (by simp [ne_type h.r6 h.rg (by decide)])
    r7 := hF.get h.r7 (by simp [ne_type h.r7 h.rg (by decide)])
    M0 := h.M0.keep hF (h.M0.ne h.rg)
    M1 := h.M1.keep hF (h.M1.ne h.rg) }
end Go.Proofs.Ybulkdurm
