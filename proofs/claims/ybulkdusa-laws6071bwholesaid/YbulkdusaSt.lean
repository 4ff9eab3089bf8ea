import Derived.Test.YbulkdusaKeepF
import Derived.Test.YbulkdusaLocks
import Derived.Conc.RwLoneW
namespace Go.Proofs.Ybulkdusa
open Go.RowKit Base

/-- what the data map holds of one key: v, of the versions L in block b -/
structure Key (w : World) (N : Nat) (v : Option Value) (L : List Ver) (b : Nat) : Prop where
  nil : L = [] → v = none
  one : L ≠ [] → ∃ o cap cs, v = some (.slice (some ⟨b, o, none⟩) L.length cap) ∧ L.length ≤ cap ∧ o + cap * 3 ≤ cs.size ∧ w.heap[b]? = some (.cells cs 66) ∧ At cs o (cl L)
  srt : Srt L
  ok : ∀ x ∈ L, OKv w x.val
  len : L.length ≤ N

def agF (ag : Nat → Bool) : Nat → Option Value := fun c => if ag c then some (.bool true) else none

/-- the blocks that are the store's own -/
def own (g bd ba : Nat) (T : Nat → List Ver) (B : Nat → Nat) : List Nat := [g, bd, ba] ++ ((List.range 4).filter (fun c => !(T c).isEmpty)).map B

theorem mem_own {g bd ba : Nat} {T : Nat → List Ver} {B : Nat → Nat} {x : Nat} : x ∈ own g bd ba T B ↔ x = g ∨ x = bd ∨ x = ba ∨ ∃ c, c < 4 ∧ T c ≠ [] ∧ B c = x := by
  simp only [own, List.mem_append, List.mem_cons, List.not_mem_nil, or_false, List.mem_map, List.mem_filter, List.mem_range, Bool.not_eq_true', List.isEmpty_eq_false_iff]
  constructor
  · rintro ((h | h | h) | ⟨c, ⟨h1, h2⟩, h3⟩)
    · exact .inl h
    · exact .inr (.inl h)
    · exact .inr (.inr (.inl h))
    · exact .inr (.inr (.inr ⟨c, h1, h2, h3⟩))
  · rintro (h | h | h | ⟨c, h1, h2, h3⟩)
    · exact .inl (.inl h)
    · exact .inl (.inr (.inl h))
    · exact .inl (.inr (.inr h))
    · exact .inr ⟨c, ⟨h1, h2⟩, h3⟩

/-- the store -/
structure St (w : World) (g bd ba n N : Nat) (l0 l4 hz : Int) (f : Nat → Option Value) (T : Nat → List Ver) (B : Nat → Nat) (ag : Nat → Bool) : Prop where
  rg : w.heap[g]? = some (.cells (stRow l0 l4 bd ba hz) 52)
  md : MapIs w bd n f
  ma : MapIs w ba n (agF ag)
  nba : ba ≠ bd
  key : ∀ c, c < 4 → Key w N (f c) (T c) (B c)
  apart : ∀ c d, c < 4 → d < 4 → c ≠ d → T c ≠ [] → T d ≠ [] → B c ≠ B d
  aged : ∀ c, c < 4 → ag c = true → T c ≠ []

theorem Key.keep {w w' : World} {N b : Nat} {v : Option Value} {L : List Ver} {S : List Nat} (h : Key w N v L b) (F : Fr S w w') (hb : L ≠ [] → b ∉ S) (hS : ∀ b ∈ S, ∀ x : Int, w.heap[b]? ≠ some (.cells #[.int .u8 x] 5)) : Key w' N v L b :=
  ⟨h.nil, fun hne => (h.one hne).imp fun _ => fun ⟨cap, cs, h1, h2, h3, h4, h5⟩ => ⟨cap, cs, h1, h2, h3, F.get h4 (hb hne), h5⟩, h.srt, fun x hx => (h.ok x hx).keep F hS, h.len⟩

section
variable {w w' : World} {g bd ba n N : Nat} {l0 l4 hz : Int} {f : Nat → Option Value} {T : Nat → List Ver} {B : Nat → Nat} {ag : Nat → Bool} {S : List Nat}

theorem St.blk (h : St w g bd ba n N l0 l4 hz f T B ag) {c : Nat} (hc : c < 4) (hne : T c ≠ []) : ∃ cs, w.heap[B c]? = some (.cells cs 66) := by
  obtain ⟨_, _, cs, _, _, _, h4, _⟩ := (h.key c hc).one hne
  exact ⟨cs, h4⟩

/-- no block of the store's own is a byte's -/
theorem St.no5 (h : St w g bd ba n N l0 l4 hz f T B ag) : ∀ b ∈ own g bd ba T B, ∀ (cs : Array Value) (t : TypeId), t ≠ 52 → t ≠ 66 → w.heap[b]? ≠ some (.cells cs t) := by
  intro b hb cs t h1 h2 e
  rcases mem_own.1 hb with rfl | rfl | rfl | ⟨c, hc, hne, rfl⟩
  · exact ne_type h.rg e (by exact fun h => h1 h.symm) rfl
  · exact h.md.ne_cells e rfl
  · exact h.ma.ne_cells e rfl
  · obtain ⟨cs', h4⟩ := h.blk hc hne
    exact ne_type h4 e (by exact fun h => h2 h.symm) rfl
theorem St.lt (h : St w g bd ba n N l0 l4 hz f T B ag) : ∀ b ∈ own g bd ba T B, b < w.heap.size := by
  intro b hb
  rcases mem_own.1 hb with rfl | rfl | rfl | ⟨c, hc, hne, rfl⟩
  · exact lt_of_get h.rg
  · exact h.md.lt
  · exact h.ma.lt
  · exact lt_of_get (h.blk hc hne).choose_spec

theorem St.keep (h : St w g bd ba n N l0 l4 hz f T B ag) (F : Fr S w w') (hS : ∀ b ∈ S, b ∉ own g bd ba T B) (h5 : ∀ b ∈ S, ∀ x : Int, w.heap[b]? ≠ some (.cells #[.int .u8 x] 5)) : St w' g bd ba n N l0 l4 hz f T B ag :=
  ⟨F.get h.rg (fun hx => hS _ hx (mem_own.2 (.inl rfl))), h.md.keep F (fun hx => hS _ hx (mem_own.2 (.inr (.inl rfl)))), h.ma.keep F (fun hx => hS _ hx (mem_own.2 (.inr (.inr (.inl rfl))))), h.nba,
    fun c hc => (h.key c hc).keep F (fun hne hx => hS _ hx (mem_own.2 (.inr (.inr (.inr ⟨c, hc, hne, rfl⟩))))) h5, h.apart, h.aged⟩
theorem St.keep0 (h : St w g bd ba n N l0 l4 hz f T B ag) (F : Fr [] w w') : St w' g bd ba n N l0 l4 hz f T B ag := h.keep F (by simp) (by simp)
/-- a block of another type was changed -/
theorem St.keep1 (h : St w g bd ba n N l0 l4 hz f T B ag) {b : Nat} (F : Fr [b] w w') {cs : Array Value} {t : TypeId} (hb : w.heap[b]? = some (.cells cs t)) (h52 : t ≠ 52) (h66 : t ≠ 66) (h5 : t ≠ 5) : St w' g bd ba n N l0 l4 hz f T B ag := by
  refine h.keep F (fun x hx hm => ?_) (fun x hx y e => ?_)
  · simp at hx; subst hx; exact h.no5 x hm cs t h52 h66 hb
  · simp at hx; subst hx; exact ne_type hb e h5 rfl

/-- its row was changed -/
theorem St.row (h : St w g bd ba n N l0 l4 hz f T B ag) {m0 m4 hz' : Int} (F : Fr [g] w w') (rg : w'.heap[g]? = some (.cells (stRow m0 m4 bd ba hz') 52)) : St w' g bd ba n N m0 m4 hz' f T B ag := by
  refine ⟨rg, h.md.keep F (by simp [h.md.ne_cells h.rg]), h.ma.keep F (by simp [h.ma.ne_cells h.rg]), h.nba, fun c hc => (h.key c hc).keep F (fun hne => ?_) (fun b hb x e => ?_), h.apart, h.aged⟩
  · obtain ⟨cs, h4⟩ := h.blk hc hne
    simp
    exact ne_type h4 h.rg (by decide)
  · simp at hb; subst hb; exact ne_type h.rg e (by decide) rfl
theorem St.mono (h : St w g bd ba n N l0 l4 hz f T B ag) {n' N' : Nat} (h1 : n ≤ n') (h2 : N ≤ N') : St w g bd ba n' N' l0 l4 hz f T B ag :=
  ⟨h.rg, h.md.mono h1, h.ma.mono h1, h.nba, fun c hc => ⟨(h.key c hc).nil, (h.key c hc).one, (h.key c hc).srt, (h.key c hc).ok, Nat.le_trans (h.key c hc).len h2⟩, h.apart, h.aged⟩

theorem agF_upd (ag : Nat → Bool) (c : Nat) (x : Bool) : agF (upd ag c x) = upd (agF ag) c (if x then some (.bool true) else none) := by
  funext d
  by_cases h : d = c
  · subst h; simp [agF, upd]
  · simp [agF, upd, h]

/-- what 'keep' leaves is a store again -/
theorem St.kept {b c : Nat} {rest : List Ver} (h : St w g bd ba n N l0 l4 hz f T B ag) (hc : c < 4) (hK : KOut w w' g bd ba c n b l0 l4 hz f rest (fun w => MapIs w ba (n + 1) (upd (agF ag) c none)) (fun w => MapIs w ba (n + 1) (upd (agF ag) c (some (.bool true)))))
    {cs : Array Value} (hb : w.heap[b]? = some (.cells cs 66)) (hs : Srt rest) (hok : ∀ x ∈ rest, OKv w x.val) (hlen : rest.length ≤ N) (hap : ∀ d, d < 4 → d ≠ c → T d ≠ [] → B d ≠ b) :
    ∃ f', St w' g bd ba (n + 1) N l0 l4 hz f' (upd T c rest) (upd B c b) (upd ag c (agB rest)) := by
  obtain ⟨F, rg, fv, md, hn, h1, hBs, hBd⟩ := hK
  have h5 : ∀ x ∈ [bd, ba, b], ∀ y : Int, w.heap[x]? ≠ some (.cells #[.int .u8 y] 5) := by
    intro x hx y e
    simp at hx
    rcases hx with rfl | rfl | rfl
    · exact h.md.ne_cells e rfl
    · exact h.ma.ne_cells e rfl
    · exact ne_type hb e (by decide) rfl
  refine ⟨upd f c fv, rg, md, ?_, h.nba, fun d hd => ?_, fun d e hd he hde => ?_, fun d hd => ?_⟩
  · rw [agF_upd]
    cases hag : agB rest with
    | true => exact hBs hag
    | false => exact hBd hag
  · by_cases hdc : d = c
    · subst hdc
      rw [upd_same, upd_same, upd_same]
      refine ⟨hn, fun hne => ?_, hs, fun x hx => (hok x hx).keep F h5, hlen⟩
      obtain ⟨o', c', cs', e1, e2, e3, e4, e5⟩ := h1 hne
      exact ⟨o', c', cs', e1, e2, e3, e4, e5⟩
    · rw [upd_other _ hdc, upd_other _ hdc, upd_other _ hdc]
      refine (h.key d hd).keep F (fun hne => ?_) h5
      obtain ⟨cs', h4⟩ := h.blk hd hne
      simp
      exact ⟨(h.md.ne_cells h4).symm, (h.ma.ne_cells h4).symm, hap d hd hdc hne⟩
  · by_cases hdc : d = c
    · subst hdc
      rw [upd_same, upd_same, upd_other _ (Ne.symm hde), upd_other _ (Ne.symm hde)]
      exact fun _ hne => (hap e he (Ne.symm hde) hne).symm
    · rw [upd_other _ hdc, upd_other _ hdc]
      by_cases hec : e = c
      · subst hec
        rw [upd_same, upd_same]
        exact fun hne _ => hap d hd hdc hne
      · rw [upd_other _ hec, upd_other _ hec]
        exact h.apart d e hd he hde
  · by_cases hdc : d = c
    · subst hdc
      rw [upd_same, upd_same]
      intro ha e
      rw [e] at ha
      cases ha
    · rw [upd_other _ hdc, upd_other _ hdc]
      exact h.aged d hd
end

/-! ### the lock's cells -/
section
variable {w : World} {g : Nat} {l0 l4 hz : Int} {bd ba : Nat} (rg : w.heap[g]? = some (.cells (stRow l0 l4 bd ba hz) 52))
include rg
theorem st_c0 : w.cell? ⟨g, 15, none⟩ = some (.int .i32 l0) := by rw [cell_of_row w g 15 _ 52 _ rg]; rfl
theorem st_c2 : w.cell? ⟨g, 15 + 2, none⟩ = some (.int .u32 0) := by rw [cell_of_row w g _ _ 52 _ rg]; rfl
theorem st_c3 : w.cell? ⟨g, 15 + 3, none⟩ = some (.int .u32 0) := by rw [cell_of_row w g _ _ 52 _ rg]; rfl
theorem st_c4 : w.cell? ⟨g, 15 + 4, none⟩ = some (.int .i32 l4) := by rw [cell_of_row w g _ _ 52 _ rg]; rfl
theorem st_z (i : Nat) : w.frozen? ⟨g, i, none⟩ = false := frozen_of_row w g i _ 52 rg
theorem st_set (a b : Int) {w1 : World} (hw : w1 = (w.setCell ⟨g, 15, none⟩ (.int .i32 a)).setCell ⟨g, 15 + 4, none⟩ (.int .i32 b)) : w1.heap[g]? = some (.cells (stRow a b bd ba hz) 52) ∧ Fr [g] w w1 := by
  subst hw
  exact ⟨heap_setCell_same _ g _ _ 52 _ (heap_setCell_same _ g _ _ 52 _ rg), (Fr.setCell w ⟨g, 15, none⟩ _).trans1 (Fr.setCell _ ⟨g, 15 + 4, none⟩ _) (.inl (by simp))⟩
theorem st_set' (a b : Int) {w1 : World} (hw : w1 = (w.setCell ⟨g, 15 + 4, none⟩ (.int .i32 b)).setCell ⟨g, 15, none⟩ (.int .i32 a)) : w1.heap[g]? = some (.cells (stRow a b bd ba hz) 52) ∧ Fr [g] w w1 := by
  subst hw
  exact ⟨heap_setCell_same _ g _ _ 52 _ (heap_setCell_same _ g _ _ 52 _ rg), (Fr.setCell w ⟨g, 15 + 4, none⟩ _).trans1 (Fr.setCell _ ⟨g, 15, none⟩ _) (.inl (by simp))⟩
end
end Go.Proofs.Ybulkdusa
