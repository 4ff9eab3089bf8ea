import Derived.Test.YbulkdusaKeepC
namespace Go.Proofs.Ybulkdusa
open Go.RowKit Base

section
variable {w : World} {g bd ba c n b o cap : Nat} {l0 l4 hz : Int} {f : Nat → Option Value} {L : List Ver} {V : List Nat} {A Bd Bs : World → Prop} {cs : Array Value}

set_option maxHeartbeats 400000 in
set_option maxRecDepth 100000 in
theorem keep_ET1 (h : KIn w g bd ba c n b o cap l0 l4 hz f L V A Bd Bs cs) (m : Nat) (hk : cle hz L = 1) (hdk : ∀ h, (L[0]'h).del = false) (hlen : Hid (L.length = m)) (h1 : 1 < m) (ha : agB L = true)  :
    Calls Yba.prog 11 #[.pointer (some ⟨g, 0, none⟩), .string (keyS c), .slice (some ⟨b, o, none⟩) m cap] w fun e w' => e = .returned (.tuple #[]) ∧ KOut w w' g bd ba c n b l0 l4 hz f L Bd Bs := by
  have h1i : (1 : Int) < (m : Int) := by omega
  have sg := h.seg hlen
  have hl := h.hl
  go_enter Yba.func11, Yba.ntmps11
  go_wp2_with (first
    | (refine wpList_load_cell rfl 27 _ rfl (some 11) rfl g 23 (.int .u64 hz) rfl 52 _ (0, 0) h.rg rfl _ Yba.underlying27 rfl ?_)
    | (go_at_call 25; refine (latest_one _ hz L _ h.srt h.hl sg hk).mono ?_; rintro e w2 ⟨rfl, F2⟩; have M := h.mid0 F2; have c20 := h.delk F2 (k := 0) (by have := hlen; unfold Hid at this; omega) (hdk _); obtain ⟨dd, hdd⟩ := raw_slice b o m cap; obtain ⟨w3, r3, M3, F3, -⟩ := M.md.store (T := 25) (E := 60) Yba.underlying25 h.hn h.hc hdd; have rg3 := F3.get M.rg (by simp [(M.md.ne_cells M.rg).symm]); have A3 := h.keepA [bd] _ w3 M.inA F3 (fun x hx => by simp; intro e; exact h.vbd (e ▸ hx)); obtain ⟨w4, r4, B4, F4⟩ := h.set w3 A3)
    | (refine wpList_load_cell rfl 25 _ rfl (some 70) rfl g 21 (.map (some bd)) rfl 52 _ (0, 0) M.rg rfl _ Yba.underlying25 rfl ?_)
    | (refine wpList_update rfl 25 _ _ _ rfl _ _ _ rfl rfl rfl w3 r3 ?_)
    | (refine wpList_load_cell rfl 26 _ rfl (some 76) rfl g 22 (.map (some ba)) rfl 52 _ (0, 0) rg3 rfl _ Yba.underlying26 rfl ?_)
    | (refine wpList_update rfl 26 _ _ _ rfl _ _ _ rfl rfl rfl w4 r4 ?_))
  go_end0
  exact ⟨rfl, M.out_some h hlen (by omega) F3 M3 F4 (fun _ => B4) (fun e => absurd (ha.symm.trans e) (by decide))⟩

set_option maxHeartbeats 400000 in
set_option maxRecDepth 100000 in
theorem keep_ET3 (h : KIn w g bd ba c n b o cap l0 l4 hz f L V A Bd Bs cs) (hk : cle hz L = 1) (hdk : ∀ h, (L[0]'h).del = false) (hlen : Hid (L.length = 1)) (hd0 : ∀ h, (L[0]'h).del = false) (ha : agB L = false)  :
    Calls Yba.prog 11 #[.pointer (some ⟨g, 0, none⟩), .string (keyS c), .slice (some ⟨b, o, none⟩) 1 cap] w fun e w' => e = .returned (.tuple #[]) ∧ KOut w w' g bd ba c n b l0 l4 hz f L Bd Bs := by
  have sg := h.seg hlen
  have hl := h.hl
  go_enter Yba.func11, Yba.ntmps11
  go_wp2_with (first
    | (refine wpList_load_cell rfl 27 _ rfl (some 11) rfl g 23 (.int .u64 hz) rfl 52 _ (0, 0) h.rg rfl _ Yba.underlying27 rfl ?_)
    | (go_at_call 25; refine (latest_one _ hz L _ h.srt h.hl sg hk).mono ?_; rintro e w2 ⟨rfl, F2⟩; have M := h.mid0 F2; have c20 := h.delk F2 (k := 0) (by have := hlen; unfold Hid at this; omega) (hdk _); have c65 := M.del0 (by rw [show L.length = 1 from hlen]; decide) hd0; obtain ⟨dd, hdd⟩ := raw_slice b o 1 cap; obtain ⟨w3, r3, M3, F3, -⟩ := M.md.store (T := 25) (E := 60) Yba.underlying25 h.hn h.hc hdd; have rg3 := F3.get M.rg (by simp [(M.md.ne_cells M.rg).symm]); have A3 := h.keepA [bd] _ w3 M.inA F3 (fun x hx => by simp; intro e; exact h.vbd (e ▸ hx)); obtain ⟨w4, r4, B4, F4⟩ := h.del w3 A3)
    | (refine wpList_load_cell rfl 25 _ rfl (some 35) rfl g 21 (.map (some bd)) rfl 52 _ (0, 0) M.rg rfl _ Yba.underlying25 rfl ?_)
    | (refine wpList_update rfl 25 _ _ _ rfl _ _ _ rfl rfl rfl w3 r3 ?_)
    | (refine wpList_load_cell rfl 26 _ rfl (some 41) rfl g 22 (.map (some ba)) rfl 52 _ (0, 0) rg3 rfl _ Yba.underlying26 rfl ?_)
    | (refine wpList_do rfl none rfl _ w4 (exec_delete rfl rfl rfl r4) ?_))
  go_end0
  exact ⟨rfl, M.out_some h hlen (by decide) F3 M3 F4 (fun e => absurd (ha.symm.trans e) (by decide)) (fun _ => B4)⟩

set_option maxHeartbeats 400000 in
set_option maxRecDepth 100000 in
theorem keep_DT1 (h : KIn w g bd ba c n b o cap l0 l4 hz f L V A Bd Bs cs) (m mL k c' : Nat) (hk : cle hz L = k + 1) (hL : Hid (L.length = mL)) (hkm : k < mL) (hmd : Hid (m + k = mL)) (hcd : Hid (c' + k = cap)) (hk0 : 0 < k) (hdk : ∀ h, (L[k]'h).del = false) (hlen : Hid ((L.drop k).length = m)) (h1 : 1 < m) (ha : agB (L.drop k) = true)  :
    Calls Yba.prog 11 #[.pointer (some ⟨g, 0, none⟩), .string (keyS c), .slice (some ⟨b, o, none⟩) mL cap] w fun e w' => e = .returned (.tuple #[]) ∧ KOut w w' g bd ba c n b l0 l4 hz f (L.drop k) Bd Bs := by
  have h1i : (1 : Int) < (m : Int) := by omega
  have sg := h.seg hL
  have hl := h.hl
  go_enter Yba.func11, Yba.ntmps11
  go_wp2_with (first
    | (refine wpList_load_cell rfl 27 _ rfl (some 11) rfl g 23 (.int .u64 hz) rfl 52 _ (0, 0) h.rg rfl _ Yba.underlying27 rfl ?_)
    | (go_at_call 25; refine (latest_succ _ hz L _ h.srt h.hl sg k hk).mono ?_; rintro e w2 ⟨rfl, F2⟩; have hcc := h.hcap; have hff := h.hfit; have hL' : L.length = mL := hL; have hmd' : m + k = mL := hmd; have hcd' : c' + k = cap := hcd; have hdc : k * 3 ≤ cap * 3 := Nat.mul_le_mul_right _ (by omega); have hdcap : k ≤ cap := (by omega); have c20 := h.delk F2 (k := k) (by omega) (hdk _); obtain ⟨zs, hzs, rc⟩ := clear60 (b := b) (o := o) (i := k) (cap := cap) (cs := cs) (w := w2) (by omega) (F2.get h.rb (by simp)) (by omega); obtain ⟨o', ho', rs⟩ := slice60_from' (b := b) (o := o) (n := mL) (cap := cap) (i := k) (m := m) (c' := c') hmd hcd (by omega); have M := h.mid F2 hzs (m := m) (by omega) hcd ho'; clear hcc hff hL' hmd' hcd' hdc; generalize w2.setCells b o zs = wm at rc M; obtain ⟨dd, hdd⟩ := raw_slice b o' m c'; obtain ⟨w3, r3, M3, F3, -⟩ := M.md.store (T := 25) (E := 60) Yba.underlying25 h.hn h.hc hdd; have rg3 := F3.get M.rg (by simp [(M.md.ne_cells M.rg).symm]); have A3 := h.keepA [bd] _ w3 M.inA F3 (fun x hx => by simp; intro e; exact h.vbd (e ▸ hx)); obtain ⟨w4, r4, B4, F4⟩ := h.set w3 A3)
    | (refine wpList_load_cell rfl 25 _ rfl (some 70) rfl g 21 (.map (some bd)) rfl 52 _ (0, 0) M.rg rfl _ Yba.underlying25 rfl ?_)
    | (refine wpList_update rfl 25 _ _ _ rfl _ _ _ rfl rfl rfl w3 r3 ?_)
    | (refine wpList_load_cell rfl 26 _ rfl (some 76) rfl g 22 (.map (some ba)) rfl 52 _ (0, 0) rg3 rfl _ Yba.underlying26 rfl ?_)
    | (refine wpList_update rfl 26 _ _ _ rfl _ _ _ rfl rfl rfl w4 r4 ?_))
  go_end0
  exact ⟨rfl, M.out_some h hlen (by omega) F3 M3 F4 (fun _ => B4) (fun e => absurd (ha.symm.trans e) (by decide))⟩

set_option maxHeartbeats 400000 in
set_option maxRecDepth 100000 in
theorem keep_DT3 (h : KIn w g bd ba c n b o cap l0 l4 hz f L V A Bd Bs cs) (mL k c' : Nat) (hk : cle hz L = k + 1) (hL : Hid (L.length = mL)) (hkm : k < mL) (hmd : Hid (1 + k = mL)) (hcd : Hid (c' + k = cap)) (hk0 : 0 < k) (hdk : ∀ h, (L[k]'h).del = false) (hlen : Hid ((L.drop k).length = 1)) (hd0 : ∀ h, ((L.drop k)[0]'h).del = false) (ha : agB (L.drop k) = false)  :
    Calls Yba.prog 11 #[.pointer (some ⟨g, 0, none⟩), .string (keyS c), .slice (some ⟨b, o, none⟩) mL cap] w fun e w' => e = .returned (.tuple #[]) ∧ KOut w w' g bd ba c n b l0 l4 hz f (L.drop k) Bd Bs := by
  have sg := h.seg hL
  have hl := h.hl
  go_enter Yba.func11, Yba.ntmps11
  go_wp2_with (first
    | (refine wpList_load_cell rfl 27 _ rfl (some 11) rfl g 23 (.int .u64 hz) rfl 52 _ (0, 0) h.rg rfl _ Yba.underlying27 rfl ?_)
    | (go_at_call 25; refine (latest_succ _ hz L _ h.srt h.hl sg k hk).mono ?_; rintro e w2 ⟨rfl, F2⟩; have hcc := h.hcap; have hff := h.hfit; have hL' : L.length = mL := hL; have hmd' : 1 + k = mL := hmd; have hcd' : c' + k = cap := hcd; have hdc : k * 3 ≤ cap * 3 := Nat.mul_le_mul_right _ (by omega); have hdcap : k ≤ cap := (by omega); have c20 := h.delk F2 (k := k) (by omega) (hdk _); obtain ⟨zs, hzs, rc⟩ := clear60 (b := b) (o := o) (i := k) (cap := cap) (cs := cs) (w := w2) (by omega) (F2.get h.rb (by simp)) (by omega); obtain ⟨o', ho', rs⟩ := slice60_from' (b := b) (o := o) (n := mL) (cap := cap) (i := k) (m := 1) (c' := c') hmd hcd (by omega); have M := h.mid F2 hzs (m := 1) (by omega) hcd ho'; clear hcc hff hL' hmd' hcd' hdc; generalize w2.setCells b o zs = wm at rc M; have c65 := M.del0 (by rw [show (L.drop k).length = 1 from hlen]; decide) hd0; obtain ⟨dd, hdd⟩ := raw_slice b o' 1 c'; obtain ⟨w3, r3, M3, F3, -⟩ := M.md.store (T := 25) (E := 60) Yba.underlying25 h.hn h.hc hdd; have rg3 := F3.get M.rg (by simp [(M.md.ne_cells M.rg).symm]); have A3 := h.keepA [bd] _ w3 M.inA F3 (fun x hx => by simp; intro e; exact h.vbd (e ▸ hx)); obtain ⟨w4, r4, B4, F4⟩ := h.del w3 A3)
    | (refine wpList_load_cell rfl 25 _ rfl (some 35) rfl g 21 (.map (some bd)) rfl 52 _ (0, 0) M.rg rfl _ Yba.underlying25 rfl ?_)
    | (refine wpList_update rfl 25 _ _ _ rfl _ _ _ rfl rfl rfl w3 r3 ?_)
    | (refine wpList_load_cell rfl 26 _ rfl (some 41) rfl g 22 (.map (some ba)) rfl 52 _ (0, 0) rg3 rfl _ Yba.underlying26 rfl ?_)
    | (refine wpList_do rfl none rfl _ w4 (exec_delete rfl rfl rfl r4) ?_))
  go_end0
  exact ⟨rfl, M.out_some h hlen (by decide) F3 M3 F4 (fun e => absurd (ha.symm.trans e) (by decide)) (fun _ => B4)⟩
end
end Go.Proofs.Ybulkdusa
