import Derived.Test.YbulkdusaKeepA
namespace Go.Proofs.Ybulkdusa
open Go.RowKit Base

theorem latest_zero (v : Value) (h : Int) (L : List Ver) (w : World) (hs : Srt L) (hl : L.length ≤ 1000000) (hv : Seg w v 66 3 L.length (cl L)) (hk : cle h L = 0) :
    Calls Yba.prog 25 #[v, .int .u64 h] w fun e w' => e = .returned (.int .i64 (-1)) ∧ Fr [] w w' := by
  refine (latest_any v h L w hs hl hv).mono ?_
  rintro e w' ⟨rfl, hF⟩
  rw [hk]
  exact ⟨rfl, hF⟩
theorem latest_succ (v : Value) (h : Int) (L : List Ver) (w : World) (hs : Srt L) (hl : L.length ≤ 1000000) (hv : Seg w v 66 3 L.length (cl L)) (k : Nat) (hk : cle h L = k + 1) :
    Calls Yba.prog 25 #[v, .int .u64 h] w fun e w' => e = .returned (.int .i64 k) ∧ Fr [] w w' := by
  refine (latest_any v h L w hs hl hv).mono ?_
  rintro e w' ⟨rfl, hF⟩
  rw [hk]
  exact ⟨congrArg (fun n => Ending.returned (Value.int .i64 n)) (by omega), hF⟩

/-- slice60_from, told by what is left -/
theorem slice60_from' {b o n cap i m c' : Nat} (hm : m + i = n) (hc : c' + i = cap) (hn : n ≤ cap) : ∃ o', (0 < c' → o' = o + i * 3) ∧ ∀ w, (Instr.sliceAt 60 (.slice (some ⟨b, o, none⟩) n cap) (some (.int .i64 i)) none none).run Yba.prog w = .ok (.slice (some ⟨b, o', none⟩) m c') w := by
  obtain ⟨o', h1, h2⟩ := slice60_from (b := b) (o := o) (n := n) (cap := cap) (i := i) (by omega) hn
  refine ⟨o', fun h => h1 (by omega), fun w => ?_⟩
  rw [h2 w, show n - i = m by omega, show cap - i = c' by omega]

/-- the world round a call of 'keep' -/
structure KIn (w : World) (g bd ba c n b o cap : Nat) (l0 l4 hz : Int) (f : Nat → Option Value) (L : List Ver) (V : List Nat) (A Bd Bs : World → Prop) (cs : Array Value) : Prop where
  rg : w.heap[g]? = some (.cells (stRow l0 l4 bd ba hz) 52)
  md : MapIs w bd n f
  hc : c < 4
  hn : n < maxLen
  rb : w.heap[b]? = some (.cells cs 66)
  hcap : L.length ≤ cap
  hfit : o + cap * 3 ≤ cs.size
  hat : At cs o (cl L)
  srt : Srt L
  hl : L.length ≤ 1000000
  inA : A w
  keepA : ∀ S w w', A w → Fr S w w' → (∀ x ∈ V, x ∉ S) → A w'
  del : ∀ w, A w → ∃ w', (Builtin.delete_ #[26, 9] 0 #[.map (some ba), .string (keyS c)]).run Yba.prog w = .ok (.tuple #[]) w' ∧ Bd w' ∧ Fr [ba] w w'
  set : ∀ w, A w → ∃ w', (Instr.mapUpdate 26 (.map (some ba)) (.string (keyS c)) (.bool true)).run Yba.prog w = .ok () w' ∧ Bs w' ∧ Fr [ba] w w'
  vbd : bd ∉ V
  vb : b ∉ V
  nba : ba ≠ bd
  nga : ba ≠ g
  nbb : ba ≠ b

/-- what 'keep' leaves -/
def KOut (w w' : World) (g bd ba c n b : Nat) (l0 l4 hz : Int) (f : Nat → Option Value) (rest : List Ver) (Bd Bs : World → Prop) : Prop :=
  Fr [bd, ba, b] w w' ∧ w'.heap[g]? = some (.cells (stRow l0 l4 bd ba hz) 52) ∧ ∃ fv, MapIs w' bd (n + 1) (upd f c fv) ∧ (rest = [] → fv = none) ∧
    (rest ≠ [] → ∃ o' c' cs', fv = some (.slice (some ⟨b, o', none⟩) rest.length c') ∧ rest.length ≤ c' ∧ o' + c' * 3 ≤ cs'.size ∧ w'.heap[b]? = some (.cells cs' 66) ∧ At cs' o' (cl rest)) ∧ (agB rest = true → Bs w') ∧ (agB rest = false → Bd w')

/-- behind the cut: the state in which the switch is met -/
structure KMid (w w2 : World) (g bd ba c n b o' c' : Nat) (l0 l4 hz : Int) (f : Nat → Option Value) (rest : List Ver) (A Bd Bs : World → Prop) (cs' : Array Value) : Prop where
  fr : Fr [bd, ba, b] w w2
  rg : w2.heap[g]? = some (.cells (stRow l0 l4 bd ba hz) 52)
  md : MapIs w2 bd n f
  rb : w2.heap[b]? = some (.cells cs' 66)
  hcap : rest.length ≤ c'
  hfit : 0 < c' → o' + c' * 3 ≤ cs'.size
  hat : 0 < c' → At cs' o' (cl rest)
  inA : A w2

section
variable {w w2 w3 w4 : World} {g bd ba c n b o o' c' cap : Nat} {l0 l4 hz : Int} {f : Nat → Option Value} {L rest : List Ver} {V : List Nat} {A Bd Bs : World → Prop} {cs cs' : Array Value}

theorem KIn.seg (h : KIn w g bd ba c n b o cap l0 l4 hz f L V A Bd Bs cs) {m : Nat} (hm : L.length = m) : Seg w (.slice (some ⟨b, o, none⟩) m cap) 66 3 L.length (cl L) := by subst hm; exact .inr ⟨b, o, cap, cs, rfl, h.rb, h.hcap, h.hfit, cl_len L, h.hat⟩

/-- nothing was cut -/
theorem KIn.mid0 (h : KIn w g bd ba c n b o cap l0 l4 hz f L V A Bd Bs cs) (F : Fr [] w w2) : KMid w w2 g bd ba c n b o cap l0 l4 hz f L A Bd Bs cs :=
  ⟨F.mono (by simp), F.get h.rg (by simp), h.md.keep F (by simp), F.get h.rb (by simp), h.hcap, fun _ => h.hfit, fun _ => h.hat, h.keepA [] w w2 h.inA F (by simp)⟩

theorem ne_type {w : World} {b b' : Nat} {cs cs' : Array Value} {t t' : TypeId} (h : w.heap[b]? = some (.cells cs t)) (h' : w.heap[b']? = some (.cells cs' t')) (ht : t ≠ t') : b ≠ b' := by
  intro e
  subst e
  rw [h'] at h
  simp at h
  exact ht h.2.symm

/-- d versions were cut off -/
theorem KIn.mid (h : KIn w g bd ba c n b o cap l0 l4 hz f L V A Bd Bs cs) (F : Fr [] w w2) {d m c' o' : Nat} {zs : List Value} (hz' : zs.length = d * 3) (hm : m + d = L.length) (hc : c' + d = cap) (ho : 0 < c' → o' = o + d * 3) :
    KMid w (w2.setCells b o zs) g bd ba c n b o' c' l0 l4 hz f (L.drop d) A Bd Bs (put cs o zs) := by
  have rb2 := F.get h.rb (by simp)
  have F2 := Fr.setCells b zs o w2
  have nb : b ≠ g := ne_type h.rb h.rg (by decide)
  have nd : bd ≠ b := h.md.ne_cells h.rb
  have hfit := h.hfit
  have hcp := h.hcap
  have hp : o + zs.length ≤ cs.size := by
    have : d * 3 ≤ cap * 3 := Nat.mul_le_mul_right _ (by omega)
    omega
  refine ⟨(F.mono (by simp)).trans1 F2 (.inl (by simp)), F2.get (F.get h.rg (by simp)) (by simp [nb.symm]), (h.md.keep F (by simp)).keep F2 (by simp [nd]), heap_setCells b 66 zs o w2 cs rb2, by simp; omega, fun hp' => ?_, fun hp' => ?_, h.keepA [b] w2 _ (h.keepA [] w w2 h.inA F (by simp)) F2 (fun x hx => by simp; intro e; exact h.vb (e ▸ hx))⟩
  · rw [ho hp', put_size]
    have : c' * 3 + d * 3 = cap * 3 := by rw [← Nat.add_mul, hc]
    omega
  · rw [ho hp']
    have e : cl L = cl (L.take d) ++ cl (L.drop d) := by rw [← cl_append, List.take_append_drop]
    have h1 := h.hat
    rw [e] at h1
    have h2 := h1.right
    rw [cl_len, List.length_take, Nat.min_eq_left (by omega)] at h2
    exact h2.put_apart hp (.inr (by omega))

/-- the last two operations: data, then aged -/
theorem KMid.out_none (h : KIn w g bd ba c n b o cap l0 l4 hz f L V A Bd Bs cs) (hm : KMid w w2 g bd ba c n b o' c' l0 l4 hz f rest A Bd Bs cs') (hr : rest = []) (F3 : Fr [bd] w2 w3) (M3 : MapIs w3 bd n (upd f c none)) (F4 : Fr [ba] w3 w4) (hb : Bd w4) :
    KOut w w4 g bd ba c n b l0 l4 hz f rest Bd Bs := by
  have ngd := hm.md.ne_cells hm.rg
  refine ⟨(hm.fr.trans1 F3 (.inl (by simp))).trans1 F4 (.inl (by simp)), F4.get (F3.get hm.rg (by simp [ngd.symm])) (by simp [h.nga.symm]), none, (M3.keep F4 (by simp [h.nba.symm])).mono (by omega), fun _ => rfl, fun h' => absurd hr h', fun h' => ?_, fun _ => hb⟩
  rw [hr] at h'
  cases h'
theorem KMid.out_some (h : KIn w g bd ba c n b o cap l0 l4 hz f L V A Bd Bs cs) (hm : KMid w w2 g bd ba c n b o' c' l0 l4 hz f rest A Bd Bs cs') {m : Nat} (hlen : rest.length = m) (hr : 0 < m) (F3 : Fr [bd] w2 w3) (M3 : MapIs w3 bd (n + 1) (upd f c (some (.slice (some ⟨b, o', none⟩) m c')))) (F4 : Fr [ba] w3 w4)
    (hs : agB rest = true → Bs w4) (hd : agB rest = false → Bd w4) : KOut w w4 g bd ba c n b l0 l4 hz f rest Bd Bs := by
  subst hlen
  have ngd := hm.md.ne_cells hm.rg
  have nbd := hm.md.ne_cells hm.rb
  have hcap := hm.hcap
  have hc' : 0 < c' := by omega
  exact ⟨(hm.fr.trans1 F3 (.inl (by simp))).trans1 F4 (.inl (by simp)), F4.get (F3.get hm.rg (by simp [ngd.symm])) (by simp [h.nga.symm]), _, M3.keep F4 (by simp [h.nba.symm]), fun e => (by rw [e] at hr; simp at hr),
    fun _ => ⟨o', c', cs', rfl, hcap, hm.hfit hc', F4.get (F3.get hm.rb (by simp [nbd.symm])) (by simp [h.nbb.symm]), hm.hat hc'⟩, hs, hd⟩
end
end Go.Proofs.Ybulkdusa
