import Derived.Test.YbulkdusaApA
namespace Go.Proofs.Ybulkdusa
open Go.RowKit Base Go.RwLone

theorem size59 : (Yba.prog.info? 59).map (·.size) = some 3 := by kernel_rfl
theorem zero59 (w : World) : (zeroValue 59).run Yba.prog w = .ok (.agg #[.string ⟨#[]⟩, .slice none 0 0, .bool false]) w := by kernel_rfl
theorem build66 (w : World) : (Instr.build 66 #[]).run Yba.prog w = .ok (.agg #[.int .u64 0, .slice none 0 0, .bool false]) w := by kernel_rfl
theorem buildS66 (w : World) : (Instr.buildSlice 60 1 #[(0, .agg #[.int .u64 0, .slice none 0 0, .bool false])]).run Yba.prog w = .ok (.slice (some ⟨w.heap.size, 0, none⟩) 1 1) (w.alloc (.cells #[.int .u64 0, .slice none 0 0, .bool false] 66)) := by kernel_rfl

theorem build66v (t : Int) (del : Bool) {w0 : World} {val : Value} (h : OKv w0 val) (w : World) : (Instr.build 66 #[(0, .int .u64 t), (1, val), (2, .bool del)]).run Yba.prog w = .ok (.agg #[.int .u64 t, val, .bool del]) w := by
  rcases h with rfl | ⟨b, x, rfl, _⟩ <;> kernel_rfl

variable {w : World} {g bd ba n N : Nat} {hz : Int} {f : Nat → Option Value} {T : Nat → List Ver} {B : Nat → Nat} {ag : Nat → Bool}

def Fin (w wr : World) (g bd ba n N : Nat) (hz : Int) (T : Nat → List Ver) (B : Nat → Nat) : Prop :=
  ∃ f' T' B' ag', Fr (own g bd ba T B) w wr ∧ St wr g bd ba (n + 1) (N + 1) 1 (-1073741824) hz f' T' B' ag' ∧ ∀ x ∈ own g bd ba T' B', x ∈ own g bd ba T B ∨ w.heap.size ≤ x

set_option maxHeartbeats 400000 in
set_option maxRecDepth 100000 in
theorem apply_any (t : Int) (bw c : Nat) (val : Value) (del : Bool) (hS : St w g bd ba n N 0 0 hz f T B ag) (hc : c < 4) (hn : n < maxLen) (hN : N + 1 ≤ 1000000) (hw : w.heap[bw]? = some (.cells #[.string (keyS c), val, .bool del] 59)) (hval : OKv w val) :
    Calls Yba.prog 4 #[.pointer (some ⟨g, 0, none⟩), .int .u64 t, .slice (some ⟨bw, 0, none⟩) 1 1] w fun e w' => e = .returned (.tuple #[]) ∧ Fr (own g bd ba T B) w w' ∧ ∃ f' T' B' ag', St w' g bd ba (n + 1) (N + 1) 0 0 hz f' T' B' ag' ∧ ∀ x ∈ own g bd ba T' B', x ∈ own g bd ba T B ∨ w.heap.size ≤ x := by
  go_enter_defers Yba.func4, Yba.ntmps4
  go_wp2_with (first
    | (go_at_call 9; refine (wlock_free Yba.rwWLib g 15 _ _ _ (st_c0 hS.rg) (st_c2 hS.rg) (st_c3 hS.rg) (st_c4 hS.rg) (st_z hS.rg 15) (st_z hS.rg _)).mono ?_; rintro e w1 ⟨rfl, hw1⟩; obtain ⟨rg1, F1⟩ := st_set hS.rg _ _ hw1; have S1 := hS.row F1 rg1; clear hw1))
  have hw1 := F1.get hw (by simp; exact ne_type hw hS.rg (by decide))
  have hval1 : OKv w1 val := hval.keep F1 (fun b hb x e => by simp at hb; subst hb; exact ne_type hS.rg e (by decide) rfl)
  have FO : Fr (own g bd ba T B) w w1 := F1.mono (fun x hx => .inl (mem_own.2 (.inl (by simpa using hx))))
  clear hS hw hval F1
  go_loopw [19] (fun i wr => (i = .int .i64 0 ∧ wr = w1) ∨ (i = .int .i64 1 ∧ Fin w wr g bd ba n N hz T B)) (fun i _ => 1 - (intOf i).toNat)
  case atStart => exact .inl ⟨rfl, rfl⟩
  case round =>
    rcases hrel with ⟨rfl, rfl⟩ | ⟨rfl, hF⟩
    · have hone : (#[Value.string (keyS c), val, Value.bool del] : Array Value).all (·.oneCell') = true := by simpa [Value.oneCell'] using hval1.one
      go_wp2_with (first
        | (refine wpList_load_arr rfl 59 _ rfl (some 22) rfl bw rfl 59 _ _ hw1 _ Yba.underlying59 rfl size59 ?_)
        | (refine wpList_alloc rfl 59 rfl (some 7) rfl _ _ (zero59 _) rfl ?_; intro b7 w2 e7 F2 r7 s7)
        | (refine wpList_store_arr rfl 59 _ _ rfl b7 #[.string (keyS c), val, .bool del] rfl rfl 59 _ r7 size59 rfl hone ?_; intro w3 F3 r7' s3))
      have F23 : Fr [] wr w3 := F2.trans F3 (fun x hx => by simp at hx; subst hx; exact .inr (Nat.le_of_eq e7.out.symm))
      have Fd := F23.trans0 (Fr.drew w3)
      have Sd := S1.keep0 Fd
      have hlk := fun (w' : World) (h : MapIs w' bd n f) => (h.look (T := 25) (E := 60) Yba.underlying25 (zero60 w') (zd := _) rfl hc).2
      refine wp_region_noPanic ?_
      refine any_begin (fun w' => w'.heap[g]? = some (.cells (stRow 1 (-1073741824) bd ba hz) 52) ∧ w'.heap[b7]? = some (.cells #[.string (keyS c), val, .bool del] 59) ∧ MapIs w' bd n f) (by kernel_rfl) ⟨Sd.rg, r7', Sd.md⟩ ?_
      refine any_take 0 rfl (some 23) rfl (by kernel_rfl) (by kernel_rfl) (by kernel_rfl) rfl (.pointer (some ⟨g, 0, none⟩)) (fun _ _ _ h => h) (fun _ _ => rfl) ⟨Sd.rg, r7', Sd.md⟩ ?_
      simp only [Act.put, List.setIfInBounds_toArray, List.set_cons_zero, List.set_cons_succ]
      refine any_take 1 rfl (some 24) rfl (by kernel_rfl) (by kernel_rfl) (by kernel_rfl) rfl (.pointer (some ⟨g, 0, none⟩)) (fun _ _ _ h => h) (fun _ _ => rfl) ⟨Sd.rg, r7', Sd.md⟩ ?_
      simp only [Act.put, List.setIfInBounds_toArray, List.set_cons_zero, List.set_cons_succ]
      refine any_take 2 rfl (some 25) rfl (by kernel_rfl) (by kernel_rfl) (by kernel_rfl) rfl (.pointer (some ⟨g, 21, none⟩)) (fun _ _ _ h => h) (fun _ _ => by kernel_rfl) ⟨Sd.rg, r7', Sd.md⟩ ?_
      simp only [Act.put, List.setIfInBounds_toArray, List.set_cons_zero, List.set_cons_succ]
      refine any_take 3 rfl (some 26) rfl (by kernel_rfl) (by kernel_rfl) (by kernel_rfl) rfl (.map (some bd)) (fun _ _ _ h => h) (fun w h => exec_load_cell (ad := ⟨g, 21, none⟩) rfl rfl (by rw [cell_of_row w g 21 _ 52 _ h.1]; rfl) Yba.underlying25 rfl) ⟨Sd.rg, r7', Sd.md⟩ ?_
      simp only [Act.put, List.setIfInBounds_toArray, List.set_cons_zero, List.set_cons_succ]
      refine any_take 4 rfl (some 27) rfl (by kernel_rfl) (by kernel_rfl) (by kernel_rfl) rfl (.pointer (some ⟨b7, 0, none⟩)) (fun _ _ _ h => h) (fun _ _ => by kernel_rfl) ⟨Sd.rg, r7', Sd.md⟩ ?_
      simp only [Act.put, List.setIfInBounds_toArray, List.set_cons_zero, List.set_cons_succ]
      refine any_take 5 rfl (some 28) rfl (by kernel_rfl) (by kernel_rfl) (by kernel_rfl) rfl (.string (keyS c)) (fun _ _ _ h => h) (fun w h => exec_load_cell (ad := ⟨b7, 0, none⟩) rfl rfl (by rw [cell_of_row w b7 0 _ 59 _ h.2.1]; rfl) Yba.underlying9 rfl) ⟨Sd.rg, r7', Sd.md⟩ ?_
      simp only [Act.put, List.setIfInBounds_toArray, List.set_cons_zero, List.set_cons_succ]
      refine any_take 6 rfl (some 29) rfl (by kernel_rfl) (by kernel_rfl) (by kernel_rfl) rfl ((f c).getD (.slice none 0 0)) (fun _ _ _ h => h) (fun w h => exec_lookup rfl rfl rfl (hlk w h.2.2)) ⟨Sd.rg, r7', Sd.md⟩ ?_
      simp only [Act.put, List.setIfInBounds_toArray, List.set_cons_zero, List.set_cons_succ]
      refine any_take 7 rfl (some 30) rfl (by kernel_rfl) (by kernel_rfl) (by kernel_rfl) rfl (.agg #[.int .u64 0, .slice none 0 0, .bool false]) (fun _ _ _ h => h) (fun w h => exec_build (parts := []) rfl rfl (build66 w)) ⟨Sd.rg, r7', Sd.md⟩ ?_
      simp only [Act.put, List.setIfInBounds_toArray, List.set_cons_zero, List.set_cons_succ]
      refine any_buildSlice 8 rfl (by kernel_rfl) rfl (some 31) rfl 60 1 [(0, .tmp 30)] rfl [(0, .agg #[.int .u64 0, .slice none 0 0, .bool false])] rfl _ 66 buildS66 ?_
      intro b31 w4 e31 F4 r31 s4
      have F04 := Fd.trans0 F4
      have S4 := S1.keep0 F04
      have r74 := F4.get (show w3.drew.heap[b7]? = _ from r7') (by simp)
      refine ⟨⟨S4.rg, r74, S4.md⟩, ?_⟩
      simp only [Act.put, List.setIfInBounds_toArray, List.set_cons_zero, List.set_cons_succ]
      obtain ⟨b, o, cap, cs, w5, hap5, rb, hcap, hfit, hat, hor⟩ := ap_append S4 hc (by omega) (Fr.refl [] w4) r31
      obtain ⟨hI, hSh, h59⟩ := ap_start S1 FO F04 hc hn hN hval1 rb hcap hfit hat hor t
      have r75 := h59 _ _ r74
      refine any_val 9 rfl (by kernel_rfl) rfl (some 32) rfl _ w5 (exec_append rfl rfl rfl hap5) ⟨⟨hI.oth.rg, r75, hI.oth.md⟩, ?_⟩
      simp only [Act.put, List.setIfInBounds_toArray, List.set_cons_zero, List.set_cons_succ]
      clear hap5 hor h59 S4 Sd hlk Fd F23 F04 F4 F3 F2 S1 FO hval1 r7 r7' r74 r31 hw1 rg1
      refine any_take 10 rfl (some 8) rfl (by kernel_rfl) (by kernel_rfl) (by kernel_rfl) rfl (.slice (some ⟨b, o, none⟩) ((T c).length + 1) cap) (fun _ _ _ h => h) (fun _ _ => rfl) ⟨hI.oth.rg, r75, hI.oth.md⟩ ?_
      simp only [Act.put, List.setIfInBounds_toArray, List.set_cons_zero, List.set_cons_succ]
      refine any_done (by kernel_rfl) ?_
      refine NoPanic.normal ?_
      have hL := hI.len
      have hm0 : Hid ((T c).length + 1 = (T c).length + 1) := rfl
      generalize hmm : (T c).length + 1 = m at hm0 ⊢
      replace hmm : Hid ((T c).length + 1 = m) := hmm
      generalize hkk : (T c).length = k0 at hSh
      replace hkk : Hid ((T c).length = k0) := hkk
      have hwr : wrap64 ((m : Int) - 1) = (k0 : Int) := by have h1 : (T c).length + 1 = m := hmm; have h2 : (T c).length = k0 := hkk; unfold wrap64; omega
      clear hm0
      obtain ⟨wo, rfl⟩ : ∃ wo : World, wo = wr := ⟨_, rfl⟩
      go_wp2
      simp only [hwr]
      clear hwr
      go_loopw [9] (fun v wr => ∃ (i : Nat) (cs : Array Value), v = .int .i64 i ∧ Shf w5 wr b o cap t (T c) i cs) (fun v _ => (intOf v).toNat)
      case atStart => exact ⟨k0, cs, rfl, hSh⟩
      case round =>
        obtain ⟨i, cs', rfl, H⟩ := hrel
        have h1 : (T c).length + 1 = m := hmm
        have h2 := H.hi
        have him : i < m := by omega
        have hokv := hI.okv
        have hx1 : ∀ v ∈ ([.int .u64 t, val, .bool del] : List Value), v.oneCell' = true := enc_one (w := w5) (v := ⟨t, val, del⟩) hokv
        have r7r := H.fr.get r75 (by simp; exact ne_type r75 hI.rb (by decide))
        clear h1 h2 hSh
        rcases Nat.eq_zero_or_pos i with hi0 | hip
        · subst hi0
          have hlast : ∀ k (hk : k < (T c).length), k + 1 = 0 → ((T c)[k]).at_ ≤ t := fun k _ h => absurd h (by omega)
          have hrm : o + ([.int .u64 t, val, .bool del] : List Value).length ≤ cs'.size := by have := H.room ⟨t, val, del⟩; simpa [enc] using this
          go_wp2_with (first
            | (refine wpList_load_cell rfl 55 _ rfl (some 62) rfl b7 1 val rfl 59 _ (0, 0) r7r rfl _ Yba.underlying55 rfl ?_)
            | (refine wpList_load_cell rfl 4 _ rfl (some 64) rfl b7 2 (.bool del) rfl 59 _ (0, 0) r7r rfl _ Yba.underlying4 rfl ?_)
            | (refine wpList_do rfl (some 65) rfl _ _ (exec_build (parts := [(0, .tmp 60), (1, .tmp 62), (2, .tmp 64)]) (vs := [(0, .int .u64 t), (1, val), (2, .bool del)]) rfl rfl (build66v t del hokv _)) ?_)
            | (refine wpList_store_seg rfl 66 (.tmp 66) _ rfl b o [.int .u64 t, val, .bool del] rfl rfl 66 cs' H.rb hrm size66 hx1 ?_; intro w7 F7 r7y s7x; have r7x : w7.heap[b]? = some (.cells (put cs' (o + 0 * 3) (enc ⟨t, val, del⟩)) 66) := r7y; have r77 := F7.get r7r (by simp; exact ne_type r75 hI.rb (by decide)); have hKI := hI.kin (x := ⟨t, val, del⟩) H hlast F7 r7x; have hKA := keep_any hKI (by rw [ins_len _ (T c) 0 H.hi]; exact Nat.succ_pos _); rw [ins_len _ (T c) 0 H.hi, hmm.out] at hKA)
            | (refine wpList_load_cell rfl 9 _ rfl (some 69) rfl b7 0 (.string (keyS c)) rfl 59 _ (0, 0) r77 rfl _ Yba.underlying9 rfl ?_)
            | (go_at_call 11; refine hKA.mono ?_; rintro e w8 ⟨rfl, hO⟩; have hFin : Fin w w8 g bd ba n N hz T B := hI.out (x := ⟨t, val, del⟩) H hKI.srt F7 r7x hO))
          go_roundw
          case rel => exact .inr ⟨by first | rfl | go_num, hFin⟩
          case measure => simp [intOf]
        · obtain ⟨k, hik⟩ : ∃ k, Hid (i = k + 1) := ⟨i - 1, show i = i - 1 + 1 by omega⟩
          have H' : Shf w5 wr b o cap t (T c) (k + 1) cs' := hik.out ▸ H
          have hkl : k < (T c).length := by have := H'.hi; omega
          have hkm : k < m := by have h1 : (T c).length + 1 = m := hmm; omega
          have hwri : wrap64 ((i : Int) - 1) = (k : Int) := by have h1 : i = k + 1 := hik; have h3 : (T c).length ≤ N := hI.len; unfold wrap64; omega
          have c44 := H'.cell hkl
          have e44 : Hid (((T c)[k]).at_ = ((T c)[k]).at_) := rfl
          generalize hp : ((T c)[k]).at_ = p at c44 e44
          replace hp : Hid (((T c)[k]).at_ = p) := hp
          clear e44
          by_cases hg : t < p
          · have hroom : o + i * 3 + (enc (T c)[k]).length ≤ cs'.size := by have := H'.room (T c)[k]; rwa [← hik.out] at this
            have hek : ∀ v ∈ enc (T c)[k], v.oneCell' = true := enc_one (hI.ok _ (List.getElem_mem hkl))
            have hver := H'.ver hkl
            have rbi := H'.rb
            generalize hy : enc (T c)[k] = ys at hroom hek hver
            replace hy : Hid (enc (T c)[k] = ys) := hy
            have hyl : some 3 = some ys.length := by rw [← hy.out]; rfl
            go_wp2_with (first
              | (refine wpList_load_seg rfl 66 _ rfl (some 56) rfl b (o + k * 3) rfl ys _ 66 cs' rbi hver Yba.underlying66 rfl (size66.trans hyl) ?_)
              | (refine wpList_store_seg rfl 66 (.tmp 57) _ rfl b (o + i * 3) ys rfl rfl 66 cs' rbi hroom (size66.trans hyl) hek ?_; intro w6 F6 r6 s6))
            have hsh : Shf w5 w6 b o cap t (T c) k (put cs' (o + (k + 1) * 3) (enc (T c)[k])) := H'.shift hkl (by rw [hp.out]; exact hg) hI.srt F6 (by rw [hy.out, ← hik.out]; exact r6)
            go_roundw
            case rel => first | exact ⟨k, _, by first | rfl | go_num, hsh⟩ | ((repeat apply Exists.intro); exact ⟨⟨k, _, by first | rfl | go_num, hsh⟩, rfl⟩)
            case measure => have := hik.out; simp [intOf]; omega
          · have hlast : ∀ j (hj : j < (T c).length), j + 1 = i → ((T c)[j]).at_ ≤ t := by
              intro j hj hji
              have : j = k := by have := hik.out; omega
              subst this
              rw [hp.out]
              omega
            clear H'
            have hrm : o + i * 3 + ([.int .u64 t, val, .bool del] : List Value).length ≤ cs'.size := by have := H.room ⟨t, val, del⟩; simpa [enc] using this
            go_wp2_with (first
              | (refine wpList_load_cell rfl 55 _ rfl (some 62) rfl b7 1 val rfl 59 _ (0, 0) r7r rfl _ Yba.underlying55 rfl ?_)
              | (refine wpList_load_cell rfl 4 _ rfl (some 64) rfl b7 2 (.bool del) rfl 59 _ (0, 0) r7r rfl _ Yba.underlying4 rfl ?_)
              | (refine wpList_do rfl (some 65) rfl _ _ (exec_build (parts := [(0, .tmp 60), (1, .tmp 62), (2, .tmp 64)]) (vs := [(0, .int .u64 t), (1, val), (2, .bool del)]) rfl rfl (build66v t del hokv _)) ?_)
              | (refine wpList_store_seg rfl 66 (.tmp 66) _ rfl b (o + i * 3) [.int .u64 t, val, .bool del] rfl rfl 66 cs' H.rb hrm size66 hx1 ?_; intro w7 F7 r7y s7x; have r7x : w7.heap[b]? = some (.cells (put cs' (o + i * 3) (enc ⟨t, val, del⟩)) 66) := r7y; have r77 := F7.get r7r (by simp; exact ne_type r75 hI.rb (by decide)); have hKI := hI.kin (x := ⟨t, val, del⟩) H hlast F7 r7x; have hKA := keep_any hKI (by rw [ins_len _ (T c) i H.hi]; exact Nat.succ_pos _); rw [ins_len _ (T c) i H.hi, hmm.out] at hKA)
              | (refine wpList_load_cell rfl 9 _ rfl (some 69) rfl b7 0 (.string (keyS c)) rfl 59 _ (0, 0) r77 rfl _ Yba.underlying9 rfl ?_)
              | (go_at_call 11; refine hKA.mono ?_; rintro e w8 ⟨rfl, hO⟩; have hFin : Fin w w8 g bd ba n N hz T B := hI.out (x := ⟨t, val, del⟩) H hKI.srt F7 r7x hO))
            go_roundw
            case rel => exact .inr ⟨by first | rfl | go_num, hFin⟩
            case measure => simp [intOf]
    · obtain ⟨f', T', B', ag', FF, SF, hown⟩ := hF
      have rg1 := SF.rg
      go_wp2
      refine leaves_cons (f := 10) (args := #[.pointer (some ⟨g, 15, none⟩)]) (by simp) (by simp [go_sem]) ?_
      refine (wunlock_deferred Yba.rwWLib g 15 _ _ .returning _ (st_c0 rg1) (st_c2 rg1) (st_c3 rg1) (st_c4 rg1) (st_z rg1 15) (st_z rg1 _)).mono ?_
      rintro e u' w4 ⟨rfl, rfl, hw4⟩
      obtain ⟨rg4, F4⟩ := st_set' rg1 _ _ hw4
      exact ⟨_, results_none rfl _ _ _, rfl, FF.trans1 F4 (.inl (mem_own.2 (.inl rfl))), f', T', B', ag', SF.row F4 rg4, hown⟩
end Go.Proofs.Ybulkdusa
