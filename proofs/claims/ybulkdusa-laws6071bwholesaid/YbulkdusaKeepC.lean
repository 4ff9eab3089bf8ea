import Derived.Test.YbulkdusaKeepB
namespace Go.Proofs.Ybulkdusa
open Go.RowKit Base

theorem raw_slice (b o n cap : Nat) : ∃ d, rawR (.slice (some ⟨b, o, none⟩) n cap) = some (d, []) := ⟨_, rfl⟩
theorem agB_many {L : List Ver} (h : 1 < L.length) : agB L = true := by
  match L with
  | [] => simp at h
  | [_] => simp at h
  | _ :: _ :: _ => rfl
theorem agB_one {L : List Ver} (h : L.length = 1) (hi : 0 < L.length) : agB L = (L[0]).del := by
  match L with
  | [] => simp at h
  | [x] => rfl
  | _ :: _ :: _ => simp at h

section
variable {w : World} {g bd ba c n b o cap : Nat} {l0 l4 hz : Int} {f : Nat → Option Value} {L : List Ver} {V : List Nat} {A Bd Bs : World → Prop} {cs : Array Value}

theorem latest_one (v : Value) (h : Int) (L : List Ver) (w : World) (hs : Srt L) (hl : L.length ≤ 1000000) (hv : Seg w v 66 3 L.length (cl L)) (hk : cle h L = 1) :
    Calls Yba.prog 25 #[v, .int .u64 h] w fun e w' => e = .returned (.int .i64 0) ∧ Fr [] w w' := latest_succ v h L w hs hl hv 0 hk
theorem KIn.delk (h : KIn w g bd ba c n b o cap l0 l4 hz f L V A Bd Bs cs) {w2 : World} (F : Fr [] w w2) {k : Nat} (hk : k < L.length) {d : Bool} (hd : (L[k]).del = d) : w2.cell? ⟨b, o + k * 3 + 2, none⟩ = some (.bool d) := by
  subst hd
  exact (VRow.cells (n := L.length) ⟨rfl, _, F.get h.rb (by simp), h.hat⟩ hk).2.2
theorem KMid.del0 {w2 : World} {o' c' : Nat} {rest : List Ver} {cs' : Array Value} (hm : KMid w w2 g bd ba c n b o' c' l0 l4 hz f rest A Bd Bs cs') (h0 : 0 < rest.length) {d : Bool} (hd : ∀ h, (rest[0]'h).del = d) : w2.cell? ⟨b, o' + 2, none⟩ = some (.bool d) := by
  rw [← hd h0]
  have hc := hm.hcap
  have := (VRow.cells (n := rest.length) ⟨rfl, _, hm.rb, hm.hat (by omega)⟩ h0).2.2
  simpa using this

set_option maxHeartbeats 400000 in
set_option maxRecDepth 100000 in
theorem keep_AT1 (h : KIn w g bd ba c n b o cap l0 l4 hz f L V A Bd Bs cs) (m : Nat) (hk : cle hz L = 0) (hlen : Hid (L.length = m)) (h1 : 1 < m) (ha : agB L = true)  :
    Calls Yba.prog 11 #[.pointer (some ⟨g, 0, none⟩), .string (keyS c), .slice (some ⟨b, o, none⟩) m cap] w fun e w' => e = .returned (.tuple #[]) ∧ KOut w w' g bd ba c n b l0 l4 hz f L Bd Bs := by
  have h1i : (1 : Int) < (m : Int) := by omega
  have sg := h.seg hlen
  have hl := h.hl
  go_enter Yba.func11, Yba.ntmps11
  go_wp2_with (first
    | (refine wpList_load_cell rfl 27 _ rfl (some 11) rfl g 23 (.int .u64 hz) rfl 52 _ (0, 0) h.rg rfl _ Yba.underlying27 rfl ?_)
    | (go_at_call 25; refine (latest_zero _ hz L _ h.srt h.hl sg hk).mono ?_; rintro e w2 ⟨rfl, F2⟩; have M := h.mid0 F2; obtain ⟨dd, hdd⟩ := raw_slice b o m cap; obtain ⟨w3, r3, M3, F3, -⟩ := M.md.store (T := 25) (E := 60) Yba.underlying25 h.hn h.hc hdd; have rg3 := F3.get M.rg (by simp [(M.md.ne_cells M.rg).symm]); have A3 := h.keepA [bd] _ w3 M.inA F3 (fun x hx => by simp; intro e; exact h.vbd (e ▸ hx)); obtain ⟨w4, r4, B4, F4⟩ := h.set w3 A3)
    | (refine wpList_load_cell rfl 25 _ rfl (some 70) rfl g 21 (.map (some bd)) rfl 52 _ (0, 0) M.rg rfl _ Yba.underlying25 rfl ?_)
    | (refine wpList_update rfl 25 _ _ _ rfl _ _ _ rfl rfl rfl w3 r3 ?_)
    | (refine wpList_load_cell rfl 26 _ rfl (some 76) rfl g 22 (.map (some ba)) rfl 52 _ (0, 0) rg3 rfl _ Yba.underlying26 rfl ?_)
    | (refine wpList_update rfl 26 _ _ _ rfl _ _ _ rfl rfl rfl w4 r4 ?_))
  go_end0
  exact ⟨rfl, M.out_some h hlen (by omega) F3 M3 F4 (fun _ => B4) (fun e => absurd (ha.symm.trans e) (by decide))⟩

set_option maxHeartbeats 400000 in
set_option maxRecDepth 100000 in
theorem keep_AT2 (h : KIn w g bd ba c n b o cap l0 l4 hz f L V A Bd Bs cs) (hk : cle hz L = 0) (hlen : Hid (L.length = 1)) (hd0 : ∀ h, (L[0]'h).del = true) (ha : agB L = true)  :
    Calls Yba.prog 11 #[.pointer (some ⟨g, 0, none⟩), .string (keyS c), .slice (some ⟨b, o, none⟩) 1 cap] w fun e w' => e = .returned (.tuple #[]) ∧ KOut w w' g bd ba c n b l0 l4 hz f L Bd Bs := by
  have sg := h.seg hlen
  have hl := h.hl
  go_enter Yba.func11, Yba.ntmps11
  go_wp2_with (first
    | (refine wpList_load_cell rfl 27 _ rfl (some 11) rfl g 23 (.int .u64 hz) rfl 52 _ (0, 0) h.rg rfl _ Yba.underlying27 rfl ?_)
    | (go_at_call 25; refine (latest_zero _ hz L _ h.srt h.hl sg hk).mono ?_; rintro e w2 ⟨rfl, F2⟩; have M := h.mid0 F2; have c65 := M.del0 (by rw [show L.length = 1 from hlen]; decide) hd0; obtain ⟨dd, hdd⟩ := raw_slice b o 1 cap; obtain ⟨w3, r3, M3, F3, -⟩ := M.md.store (T := 25) (E := 60) Yba.underlying25 h.hn h.hc hdd; have rg3 := F3.get M.rg (by simp [(M.md.ne_cells M.rg).symm]); have A3 := h.keepA [bd] _ w3 M.inA F3 (fun x hx => by simp; intro e; exact h.vbd (e ▸ hx)); obtain ⟨w4, r4, B4, F4⟩ := h.set w3 A3)
    | (refine wpList_load_cell rfl 25 _ rfl (some 70) rfl g 21 (.map (some bd)) rfl 52 _ (0, 0) M.rg rfl _ Yba.underlying25 rfl ?_)
    | (refine wpList_update rfl 25 _ _ _ rfl _ _ _ rfl rfl rfl w3 r3 ?_)
    | (refine wpList_load_cell rfl 26 _ rfl (some 76) rfl g 22 (.map (some ba)) rfl 52 _ (0, 0) rg3 rfl _ Yba.underlying26 rfl ?_)
    | (refine wpList_update rfl 26 _ _ _ rfl _ _ _ rfl rfl rfl w4 r4 ?_))
  go_end0
  exact ⟨rfl, M.out_some h hlen (by decide) F3 M3 F4 (fun _ => B4) (fun e => absurd (ha.symm.trans e) (by decide))⟩

set_option maxHeartbeats 400000 in
set_option maxRecDepth 100000 in
theorem keep_AT3 (h : KIn w g bd ba c n b o cap l0 l4 hz f L V A Bd Bs cs) (hk : cle hz L = 0) (hlen : Hid (L.length = 1)) (hd0 : ∀ h, (L[0]'h).del = false) (ha : agB L = false)  :
    Calls Yba.prog 11 #[.pointer (some ⟨g, 0, none⟩), .string (keyS c), .slice (some ⟨b, o, none⟩) 1 cap] w fun e w' => e = .returned (.tuple #[]) ∧ KOut w w' g bd ba c n b l0 l4 hz f L Bd Bs := by
  have sg := h.seg hlen
  have hl := h.hl
  go_enter Yba.func11, Yba.ntmps11
  go_wp2_with (first
    | (refine wpList_load_cell rfl 27 _ rfl (some 11) rfl g 23 (.int .u64 hz) rfl 52 _ (0, 0) h.rg rfl _ Yba.underlying27 rfl ?_)
    | (go_at_call 25; refine (latest_zero _ hz L _ h.srt h.hl sg hk).mono ?_; rintro e w2 ⟨rfl, F2⟩; have M := h.mid0 F2; have c65 := M.del0 (by rw [show L.length = 1 from hlen]; decide) hd0; obtain ⟨dd, hdd⟩ := raw_slice b o 1 cap; obtain ⟨w3, r3, M3, F3, -⟩ := M.md.store (T := 25) (E := 60) Yba.underlying25 h.hn h.hc hdd; have rg3 := F3.get M.rg (by simp [(M.md.ne_cells M.rg).symm]); have A3 := h.keepA [bd] _ w3 M.inA F3 (fun x hx => by simp; intro e; exact h.vbd (e ▸ hx)); obtain ⟨w4, r4, B4, F4⟩ := h.del w3 A3)
    | (refine wpList_load_cell rfl 25 _ rfl (some 35) rfl g 21 (.map (some bd)) rfl 52 _ (0, 0) M.rg rfl _ Yba.underlying25 rfl ?_)
    | (refine wpList_update rfl 25 _ _ _ rfl _ _ _ rfl rfl rfl w3 r3 ?_)
    | (refine wpList_load_cell rfl 26 _ rfl (some 41) rfl g 22 (.map (some ba)) rfl 52 _ (0, 0) rg3 rfl _ Yba.underlying26 rfl ?_)
    | (refine wpList_do rfl none rfl _ w4 (exec_delete rfl rfl rfl r4) ?_))
  go_end0
  exact ⟨rfl, M.out_some h hlen (by decide) F3 M3 F4 (fun e => absurd (ha.symm.trans e) (by decide)) (fun _ => B4)⟩
end
end Go.Proofs.Ybulkdusa
