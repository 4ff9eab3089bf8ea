import Derived.Test.YbulkdusaOth
namespace Go.Proofs.Ybulkdusa
open Go.RowKit Base

def zV : Ver := ⟨0, .slice none 0 0, false⟩
theorem ap_append {w w2 : World} {g bd ba n N : Nat} {l0 l4 hz : Int} {f : Nat → Option Value} {T : Nat → List Ver} {B : Nat → Nat} {ag : Nat → Bool} {c b31 : Nat}
    (h : St w g bd ba n N l0 l4 hz f T B ag) (hc : c < 4) (hN : N ≤ 1000000) (F : Fr [] w w2) (hb : w2.heap[b31]? = some (.cells #[.int .u64 0, .slice none 0 0, .bool false] 66)) :
    ∃ b o cap cs w3, (Builtin.append_ #[60, 60] 0 #[(f c).getD (.slice none 0 0), .slice (some ⟨b31, 0, none⟩) 1 1]).run Yba.prog w2 = .ok (.slice (some ⟨b, o, none⟩) ((T c).length + 1) cap) w3 ∧
      w3.heap[b]? = some (.cells cs 66) ∧ (T c).length + 1 ≤ cap ∧ o + cap * 3 ≤ cs.size ∧ At cs o (cl (T c)) ∧ ((b = B c ∧ T c ≠ [] ∧ Fr [b] w2 w3) ∨ (b = w2.heap.size ∧ Fr [] w2 w3)) := by
  have hseg : Seg w2 ((f c).getD (.slice none 0 0)) 66 3 (T c).length (cl (T c)) ∧ (blk ((f c).getD (.slice none 0 0)) = [] ∨ (blk ((f c).getD (.slice none 0 0)) = [B c] ∧ T c ≠ [])) := by
    by_cases hne : T c = []
    · rw [(h.key c hc).nil hne, hne]
      exact ⟨.inl ⟨rfl, rfl, rfl⟩, .inl rfl⟩
    · obtain ⟨o, cap, cs, e1, e2, e3, e4, e5⟩ := (h.key c hc).one hne
      rw [e1]
      exact ⟨.inr ⟨B c, o, cap, cs, rfl, F.get e4 (by simp), e2, e3, cl_len _, e5⟩, .inr ⟨rfl, hne⟩⟩
  obtain ⟨hseg, hblk⟩ := hseg
  have hlen := (h.key c hc).len
  have hi := info66
  cases hq : Yba.prog.info? 66 with
  | none => simp [hq] at hi
  | some inf =>
    simp only [hq, Option.map_some, Option.some.injEq, Prod.mk.injEq] at hi
    obtain ⟨i1, i2, i3⟩ := hi
    obtain ⟨v', w3, hrun, hs', hor⟩ := hseg.append 60 0 inf _ 40 Yba.underlying60 hq i1 i2 i3 rfl ⟨b31, 0, none⟩ 1 1 (enc zV) rfl (fun j u hu => by
      have hj : j < 3 := by
        have := (List.getElem?_eq_some_iff.1 hu).1
        simpa [enc] using this
      have e : (Addr.add ⟨b31, 0, none⟩ j) = ⟨b31, j, none⟩ := by simp [Addr.add]; omega
      rw [e, cell_of_row w2 b31 j _ 66 _ hb]
      rw [← hu]
      have : j = 0 ∨ j = 1 ∨ j = 2 := by omega
      rcases this with rfl | rfl | rfl <;> rfl) (fun u hu => by simp [enc, zV] at hu; rcases hu with rfl | rfl | rfl <;> rfl) (.inl (by decide)) (by omega) (by omega)
    rcases hs' with ⟨_, h0, _⟩ | ⟨b, o, cap, cs, rfl, rb, hcap, hfit, _, hat⟩
    · omega
    · refine ⟨b, o, cap, cs, w3, hrun, rb, hcap, hfit, hat.left, ?_⟩
      rcases hor with ⟨hb1, hF, -⟩ | ⟨hb1, hF, -⟩
      · rcases hblk with hb2 | ⟨hb2, hne⟩
        · rw [hb2] at hb1; simp [blk] at hb1
        · rw [hb2] at hb1 hF
          simp [blk] at hb1
          subst hb1
          exact .inl ⟨rfl, hne, hF⟩
      · simp [blk] at hb1
        subst hb1
        exact .inr ⟨rfl, hF⟩

section
variable {w wA wr w5 w6 : World} {g bd ba n N : Nat} {l0 l4 hz : Int} {f : Nat → Option Value} {T : Nat → List Ver} {B : Nat → Nat} {ag : Nat → Bool} {c b o cap i : Nat} {t : Int} {cs csA : Array Value} {x : Ver}

/-- behind the append: what the rest of the round starts from -/
structure ApIn (w wA : World) (g bd ba n N : Nat) (l0 l4 hz : Int) (f : Nat → Option Value) (T : Nat → List Ver) (B : Nat → Nat) (ag : Nat → Bool) (c b : Nat) (val : Value) (csA : Array Value) : Prop where
  oth : Oth wA g bd ba n N l0 l4 hz f T B ag c
  rb : wA.heap[b]? = some (.cells csA 66)
  hap : ∀ d, d < 4 → d ≠ c → T d ≠ [] → B d ≠ b
  ok : ∀ y ∈ T c, OKv wA y.val
  okv : OKv wA val
  srt : Srt (T c)
  len : (T c).length ≤ N
  fr : Fr (own g bd ba T B) w wA
  hbo : b ∈ own g bd ba T B ∨ w.heap.size ≤ b
  hc : c < 4
  hn : n < maxLen
  hN : N + 1 ≤ 1000000

theorem no5 (hb : wA.heap[b]? = some (.cells csA 66)) : ∀ y ∈ [b], ∀ z : Int, wA.heap[y]? ≠ some (.cells #[.int .u8 z] 5) := by
  intro y hy z e
  simp at hy
  subst hy
  exact ne_type hb e (by decide) rfl

theorem ApIn.kin (h : ApIn w wA g bd ba n N l0 l4 hz f T B ag c b x.val csA) (H : Shf wA wr b o cap x.at_ (T c) i cs) (h2 : ∀ k (hk : k < (T c).length), k + 1 = i → ((T c)[k]).at_ ≤ x.at_) (F5 : Fr [b] wr w5) (r5 : w5.heap[b]? = some (.cells (put cs (o + i * 3) (enc x)) 66)) :
    KIn w5 g bd ba c n b o cap l0 l4 hz f ((T c).take i ++ x :: (T c).drop i) [ba] (fun w => MapIs w ba n (agF ag)) (fun w => MapIs w ba (n + 1) (upd (agF ag) c none)) (fun w => MapIs w ba (n + 1) (upd (agF ag) c (some (.bool true)))) (put cs (o + i * 3) (enc x)) := by
  have O5 := (h.oth.keepb H.fr h.rb h.hap).keepb F5 H.rb h.hap
  have hlen := ins_len x (T c) i H.hi
  have h1 := H.hm
  have h3 := h.len
  have h4 := h.hN
  refine ⟨O5.rg, O5.md, h.hc, h.hn, r5, by omega, by rw [put_size]; exact H.fit, H.done x, ?_, by omega, O5.ma, ?_, ?_, ?_, by simp [O5.nba.symm], ?_, O5.nba, O5.ma.ne_cells O5.rg, O5.ma.ne_cells r5⟩
  · refine h.srt.insert H.hi H.gt (fun hp => ?_)
    exact h2 (i - 1) (by have := H.hi; omega) (by omega)
  · intro S w w' hA F hV
    exact hA.keep F (hV ba (by simp))
  · intro w hA
    obtain ⟨w', e1, e2, e3, -⟩ := hA.drop (T := 26) (E := 4) Yba.underlying26 h.hc
    exact ⟨w', e1, e2.mono (by omega), e3⟩
  · intro w hA
    obtain ⟨w', e1, e2, e3, -⟩ := hA.store (T := 26) (E := 4) Yba.underlying26 h.hn h.hc (v := .bool true) rfl
    exact ⟨w', e1, e2, e3⟩
  · simp
    exact (O5.ma.ne_cells r5).symm

theorem ApIn.out (h : ApIn w wA g bd ba n N l0 l4 hz f T B ag c b x.val csA) (H : Shf wA wr b o cap x.at_ (T c) i cs) (hs : Srt ((T c).take i ++ x :: (T c).drop i)) (F5 : Fr [b] wr w5) (r5 : w5.heap[b]? = some (.cells (put cs (o + i * 3) (enc x)) 66))
    (hK : KOut w5 w6 g bd ba c n b l0 l4 hz f (((T c).take i ++ x :: (T c).drop i).drop (kN hz ((T c).take i ++ x :: (T c).drop i))) (fun w => MapIs w ba (n + 1) (upd (agF ag) c none)) (fun w => MapIs w ba (n + 1) (upd (agF ag) c (some (.bool true))))) :
    ∃ f' T' B' ag', Fr (own g bd ba T B) w w6 ∧ St w6 g bd ba (n + 1) (N + 1) l0 l4 hz f' T' B' ag' ∧ ∀ y ∈ own g bd ba T' B', y ∈ own g bd ba T B ∨ w.heap.size ≤ y := by
  have O5 := (h.oth.keepb H.fr h.rb h.hap).keepb F5 H.rb h.hap
  have hlen := ins_len x (T c) i H.hi
  have h3 := h.len
  have ok5 : ∀ v, OKv wA v → OKv w5 v := fun v hv => (hv.keep H.fr (no5 h.rb)).keep F5 (no5 H.rb)
  obtain ⟨f', S6⟩ := (O5.mono (N' := N + 1) (by omega)).kept hK r5 (hs.drop _) (fun y hy => by
    rcases ins_mem (List.mem_of_mem_drop hy) with rfl | hy
    · exact ok5 _ h.okv
    · exact ok5 _ (h.ok y hy)) (by rw [List.length_drop]; omega) h.hap
  refine ⟨f', _, _, _, ?_, S6, fun y hy => ?_⟩
  · refine ((h.fr.trans1 H.fr h.hbo).trans1 F5 h.hbo).trans hK.1 (fun y hy => ?_)
    simp at hy
    rcases hy with rfl | rfl | rfl
    · exact .inl (mem_own.2 (.inr (.inl rfl)))
    · exact .inl (mem_own.2 (.inr (.inr (.inl rfl))))
    · exact h.hbo
  · rcases mem_own.1 hy with rfl | rfl | rfl | ⟨d, hd, hdn, rfl⟩
    · exact .inl (mem_own.2 (.inl rfl))
    · exact .inl (mem_own.2 (.inr (.inl rfl)))
    · exact .inl (mem_own.2 (.inr (.inr (.inl rfl))))
    · by_cases hdc : d = c
      · subst hdc
        rw [upd_same]
        exact h.hbo
      · rw [upd_other _ hdc] at hdn ⊢
        exact .inl (mem_own.2 (.inr (.inr (.inr ⟨d, hd, hdn, rfl⟩))))

/-- the append's end, in the words of 'ApIn' and of the shift -/
theorem ap_start {w1 w2 w3 : World} {val : Value} (h0 : St w1 g bd ba n N l0 l4 hz f T B ag) (hw : Fr (own g bd ba T B) w w1) (F : Fr [] w1 w2) (hc : c < 4) (hn : n < maxLen) (hN : N + 1 ≤ 1000000) (okv : OKv w1 val)
    (rb : w3.heap[b]? = some (.cells cs 66)) (hcap : (T c).length + 1 ≤ cap) (hfit : o + cap * 3 ≤ cs.size) (hat : At cs o (cl (T c))) (hor : (b = B c ∧ T c ≠ [] ∧ Fr [b] w2 w3) ∨ (b = w2.heap.size ∧ Fr [] w2 w3)) (t : Int) :
    ApIn w w3 g bd ba n N l0 l4 hz f T B ag c b val cs ∧ Shf w3 w3 b o cap t (T c) (T c).length cs ∧ (∀ (y : Nat) (ys : Array Value), w2.heap[y]? = some (.cells ys 59) → w3.heap[y]? = some (.cells ys 59)) := by
  have S2 := h0.keep0 F
  have hap : ∀ d, d < 4 → d ≠ c → T d ≠ [] → B d ≠ b := by
    intro d hd hdc hdn
    rcases hor with ⟨rfl, hne, _⟩ | ⟨rfl, _⟩
    · exact S2.apart d c hd hc hdc hdn hne
    · have := lt_of_get (S2.blk hd hdn).choose_spec
      omega
  have hSh : Shf w3 w3 b o cap t (T c) (T c).length cs := ⟨rb, hfit, hcap, Nat.le_refl _, by rw [List.take_length]; exact hat, by rw [List.drop_length]; exact At.nil _ _, fun k hk h' => absurd hk (by omega), Fr.refl _ _⟩
  rcases hor with ⟨rfl, hne, FA⟩ | ⟨rfl, FA⟩
  · obtain ⟨cs2, hb2⟩ := S2.blk hc hne
    refine ⟨⟨(S2.oth c).keepb FA hb2 hap, rb, hap, fun y hy => ((S2.key c hc).ok y hy).keep FA (no5 hb2), (okv.keep F (by simp)).keep FA (no5 hb2), (S2.key c hc).srt, (S2.key c hc).len, (hw.trans0 F).trans1 FA (.inl (mem_own.2 (.inr (.inr (.inr ⟨c, hc, hne, rfl⟩))))), .inl (mem_own.2 (.inr (.inr (.inr ⟨c, hc, hne, rfl⟩)))), hc, hn, hN⟩, hSh, fun y ys hy => FA.get hy ?_⟩
    simp
    exact ne_type hy hb2 (by decide)
  · exact ⟨⟨(S2.oth c).keep0 FA, rb, hap, fun y hy => ((S2.key c hc).ok y hy).keep FA (by simp), (okv.keep F (by simp)).keep FA (by simp), (S2.key c hc).srt, (S2.key c hc).len, (hw.trans0 F).trans0 FA, .inr (Nat.le_trans hw.size F.size), hc, hn, hN⟩, hSh, fun y ys hy => FA.get hy (by simp)⟩
end
end Go.Proofs.Ybulkdusa
