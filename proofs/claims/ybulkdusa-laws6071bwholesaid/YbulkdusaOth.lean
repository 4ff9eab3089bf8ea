import Derived.Test.YbulkdusaSt
import Derived.LoopN
namespace Go.Proofs.Ybulkdusa
open Go.RowKit Base

/-- the store, but for what it holds of the key c -/
structure Oth (w : World) (g bd ba n N : Nat) (l0 l4 hz : Int) (f : Nat → Option Value) (T : Nat → List Ver) (B : Nat → Nat) (ag : Nat → Bool) (c : Nat) : Prop where
  rg : w.heap[g]? = some (.cells (stRow l0 l4 bd ba hz) 52)
  md : MapIs w bd n f
  ma : MapIs w ba n (agF ag)
  nba : ba ≠ bd
  key : ∀ d, d < 4 → d ≠ c → Key w N (f d) (T d) (B d)
  apart : ∀ d e, d < 4 → e < 4 → d ≠ e → d ≠ c → e ≠ c → T d ≠ [] → T e ≠ [] → B d ≠ B e
  aged : ∀ d, d < 4 → d ≠ c → ag d = true → T d ≠ []

variable {w w' : World} {g bd ba n N : Nat} {l0 l4 hz : Int} {f : Nat → Option Value} {T : Nat → List Ver} {B : Nat → Nat} {ag : Nat → Bool} {S : List Nat} {c : Nat}

theorem St.oth (h : St w g bd ba n N l0 l4 hz f T B ag) (c : Nat) : Oth w g bd ba n N l0 l4 hz f T B ag c :=
  ⟨h.rg, h.md, h.ma, h.nba, fun d hd _ => h.key d hd, fun d e hd he hde _ _ => h.apart d e hd he hde, fun d hd _ => h.aged d hd⟩

theorem Oth.blk (h : Oth w g bd ba n N l0 l4 hz f T B ag c) {d : Nat} (hd : d < 4) (hdc : d ≠ c) (hne : T d ≠ []) : ∃ cs, w.heap[B d]? = some (.cells cs 66) := by
  obtain ⟨_, _, cs, _, _, _, h4, _⟩ := (h.key d hd hdc).one hne
  exact ⟨cs, h4⟩
theorem Oth.keep0 (h : Oth w g bd ba n N l0 l4 hz f T B ag c) (F : Fr [] w w') : Oth w' g bd ba n N l0 l4 hz f T B ag c :=
  ⟨F.get h.rg (by simp), h.md.keep F (by simp), h.ma.keep F (by simp), h.nba, fun d hd hdc => (h.key d hd hdc).keep F (fun _ => by simp) (by simp), h.apart, h.aged⟩
theorem Oth.keepb (h : Oth w g bd ba n N l0 l4 hz f T B ag c) {b : Nat} (F : Fr [b] w w') {cs : Array Value} (hb : w.heap[b]? = some (.cells cs 66)) (hap : ∀ d, d < 4 → d ≠ c → T d ≠ [] → B d ≠ b) : Oth w' g bd ba n N l0 l4 hz f T B ag c := by
  refine ⟨F.get h.rg (by simp; exact ne_type h.rg hb (by decide)), h.md.keep F (by simp [h.md.ne_cells hb]), h.ma.keep F (by simp [h.ma.ne_cells hb]), h.nba, fun d hd hdc => (h.key d hd hdc).keep F (fun hne => by simp; exact hap d hd hdc hne) (fun x hx y e => ?_), h.apart, h.aged⟩
  simp at hx
  subst hx
  exact ne_type hb e (by decide) rfl
theorem Oth.mono (h : Oth w g bd ba n N l0 l4 hz f T B ag c) {N' : Nat} (h2 : N ≤ N') : Oth w g bd ba n N' l0 l4 hz f T B ag c :=
  ⟨h.rg, h.md, h.ma, h.nba, fun d hd hdc => ⟨(h.key d hd hdc).nil, (h.key d hd hdc).one, (h.key d hd hdc).srt, (h.key d hd hdc).ok, Nat.le_trans (h.key d hd hdc).len h2⟩, h.apart, h.aged⟩

/-- what 'keep' leaves is a store again -/
theorem Oth.kept {b : Nat} {rest : List Ver} (h : Oth w g bd ba n N l0 l4 hz f T B ag c) (hK : KOut w w' g bd ba c n b l0 l4 hz f rest (fun w => MapIs w ba (n + 1) (upd (agF ag) c none)) (fun w => MapIs w ba (n + 1) (upd (agF ag) c (some (.bool true)))))
    {cs : Array Value} (hb : w.heap[b]? = some (.cells cs 66)) (hs : Srt rest) (hok : ∀ x ∈ rest, OKv w x.val) (hlen : rest.length ≤ N) (hap : ∀ d, d < 4 → d ≠ c → T d ≠ [] → B d ≠ b) :
    ∃ f', St w' g bd ba (n + 1) N l0 l4 hz f' (upd T c rest) (upd B c b) (upd ag c (agB rest)) := by
  obtain ⟨F, rg, fv, md, hn, h1, hBs, hBd⟩ := hK
  have h5 : ∀ x ∈ [bd, ba, b], ∀ y : Int, w.heap[x]? ≠ some (.cells #[.int .u8 y] 5) := by
    intro x hx y e
    simp at hx
    rcases hx with rfl | rfl | rfl
    · exact h.md.ne_cells e rfl
    · exact h.ma.ne_cells e rfl
    · exact ne_type hb e (by decide) rfl
  refine ⟨upd f c fv, rg, md, ?_, h.nba, fun d hd => ?_, fun d e hd he hde => ?_, fun d hd => ?_⟩
  · rw [agF_upd]
    cases hag : agB rest with
    | true => exact hBs hag
    | false => exact hBd hag
  · by_cases hdc : d = c
    · subst hdc
      rw [upd_same, upd_same, upd_same]
      refine ⟨hn, fun hne => ?_, hs, fun x hx => (hok x hx).keep F h5, hlen⟩
      obtain ⟨o', c', cs', e1, e2, e3, e4, e5⟩ := h1 hne
      exact ⟨o', c', cs', e1, e2, e3, e4, e5⟩
    · rw [upd_other _ hdc, upd_other _ hdc, upd_other _ hdc]
      refine (h.key d hd hdc).keep F (fun hne => ?_) h5
      obtain ⟨cs', h4⟩ := h.blk hd hdc hne
      simp
      exact ⟨(h.md.ne_cells h4).symm, (h.ma.ne_cells h4).symm, hap d hd hdc hne⟩
  · by_cases hdc : d = c
    · subst hdc
      rw [upd_same, upd_same, upd_other _ (Ne.symm hde), upd_other _ (Ne.symm hde)]
      exact fun _ hne => (hap e he (Ne.symm hde) hne).symm
    · rw [upd_other _ hdc, upd_other _ hdc]
      by_cases hec : e = c
      · subst hec
        rw [upd_same, upd_same]
        exact fun hne _ => hap d hd hdc hne
      · rw [upd_other _ hec, upd_other _ hec]
        exact h.apart d e hd he hde hdc hec
  · by_cases hdc : d = c
    · subst hdc
      rw [upd_same, upd_same]
      intro ha e
      rw [e] at ha
      cases ha
    · rw [upd_other _ hdc, upd_other _ hdc]
      exact h.aged d hd hdc

/-- the shift: the versions from i on lie one place up -/
structure Shf (wA wr : World) (b o cap : Nat) (t : Int) (L : List Ver) (i : Nat) (cs : Array Value) : Prop where
  rb : wr.heap[b]? = some (.cells cs 66)
  fit : o + cap * 3 ≤ cs.size
  hm : L.length + 1 ≤ cap
  hi : i ≤ L.length
  lo : At cs o (cl (L.take i))
  up : At cs (o + (i + 1) * 3) (cl (L.drop i))
  gt : ∀ (k : Nat) (hk : k < L.length), i ≤ k → t < (L[k]).at_
  fr : Fr [b] wA wr

variable {wA wr w2 : World} {b o cap i k : Nat} {t : Int} {L : List Ver} {cs : Array Value}

theorem Shf.ver (h : Shf wA wr b o cap t L (k + 1) cs) (hk : k < L.length) : At cs (o + k * 3) (enc L[k]) := by
  have := at_ver h.lo (i := k) (by rw [List.length_take]; have := h.hi; omega)
  simpa using this
theorem Shf.cell (h : Shf wA wr b o cap t L (k + 1) cs) (hk : k < L.length) : wr.cell? ⟨b, o + k * 3, none⟩ = some (.int .u64 (L[k]).at_) := by
  rw [cell_of_row wr b _ cs 66 _ h.rb]
  exact enc_0 (h.ver hk)
theorem enc_len (x : Ver) : (enc x).length = 3 := rfl
theorem Shf.room (h : Shf wA wr b o cap t L i cs) (x : Ver) : o + i * 3 + (enc x).length ≤ cs.size := by
  have h1 := h.fit
  have h2 := h.hm
  have h3 := h.hi
  rw [enc_len]
  have : (i + 1) * 3 ≤ cap * 3 := Nat.mul_le_mul_right _ (by omega)
  omega
theorem cl_drop (L : List Ver) (k : Nat) (hk : k < L.length) : cl (L.drop k) = enc L[k] ++ cl (L.drop (k + 1)) := by
  rw [List.drop_eq_getElem_cons hk, cl_cons]
theorem Shf.shift (h : Shf wA wr b o cap t L (k + 1) cs) (hk : k < L.length) (hg : t < (L[k]).at_) (hs : Srt L) (F : Fr [b] wr w2) (rb : w2.heap[b]? = some (.cells (put cs (o + (k + 1) * 3) (enc L[k])) 66)) :
    Shf wA w2 b o cap t L k (put cs (o + (k + 1) * 3) (enc L[k])) := by
  have hr := h.room L[k]
  refine ⟨rb, by rw [put_size]; exact h.fit, h.hm, by omega, ?_, ?_, fun j hj hkj => ?_, h.fr.trans1 F (.inl (by simp))⟩
  · have e : cl (L.take (k + 1)) = cl (L.take k) ++ enc L[k] := by rw [List.take_succ_eq_append_getElem hk, cl_append]; simp [cl]
    have h1 := h.lo
    rw [e] at h1
    refine h1.left.put_apart hr (.inl ?_)
    rw [cl_len, List.length_take]
    have : (min k L.length) * 3 ≤ k * 3 := Nat.mul_le_mul_right _ (by omega)
    omega
  · rw [cl_drop L k hk]
    refine At.append (At.put_same hr) ?_
    rw [enc_len]
    have h1 := h.up
    rw [show o + (k + 1 + 1) * 3 = o + (k + 1) * 3 + 3 by omega] at h1
    exact h1.put_apart hr (.inr (by rw [enc_len]; omega))
  · exact Int.lt_of_lt_of_le hg (hs.get hkj hj)
theorem Shf.done (h : Shf wA wr b o cap t L i cs) (x : Ver) : At (put cs (o + i * 3) (enc x)) o (cl (L.take i ++ x :: L.drop i)) := by
  have hr := h.room x
  have hi := h.hi
  rw [cl_append, cl_cons]
  have hl : (cl (L.take i)).length = i * 3 := by rw [cl_len, List.length_take, Nat.min_eq_left hi]
  refine At.append (h.lo.put_apart hr (.inl (by omega))) (At.append ?_ ?_)
  · rw [hl]
    exact At.put_same hr
  · rw [hl, enc_len]
    have h1 := h.up
    rw [show o + (i + 1) * 3 = o + i * 3 + 3 by omega] at h1
    exact h1.put_apart hr (.inr (by rw [enc_len]; omega))
theorem ins_len (x : Ver) (L : List Ver) (i : Nat) (hi : i ≤ L.length) : (L.take i ++ x :: L.drop i).length = L.length + 1 := by simp; omega
theorem ins_mem {x y : Ver} {L : List Ver} {i : Nat} (h : y ∈ L.take i ++ x :: L.drop i) : y = x ∨ y ∈ L := by
  rcases List.mem_append.1 h with h | h
  · exact .inr (List.mem_of_mem_take h)
  · rcases List.mem_cons.1 h with h | h
    · exact .inl h
    · exact .inr (List.mem_of_mem_drop h)
end Go.Proofs.Ybulkdusa
