import Derived.Test.YbulkdusoFmtMainA
namespace Go.Proofs.YbulkdusoFmt
open Go.RowKit Base

set_option maxHeartbeats 4000000 in
set_option maxRecDepth 100000 in
theorem main_2_ff (a : Option Addr) (n cap : Nat) (l : List Int) (pos ao : Int) (pk : Bool) (em en most : Int) (w : World) (hn : Hid (l.length = n)) (hl : n ≤ 1048576) (ho : Oct l) (hb : Bs w a l) (hnil : a = none → n = 0) (hem0 : 0 ≤ em) (hem1 : em < 256) (hem : em % 3 = 2) (_hm0 : -9223372036854775808 ≤ most) (_hm1 : most ≤ 9223372036854775807) (_he0 : -9223372036854775808 ≤ en) (_he1 : en ≤ 9223372036854775807) :
    Calls Ybaf.prog 3 #[.slice a n cap, .int .i64 pos, .bool pk, .int .i64 ao, .bool false, .bool false, .int .u8 em, .int .i64 en, .int .i64 most] w fun e w' => e = .returned (.bool true) ∧ Fr [] w w' := by
  replace ho : Hid (Oct l) := ho
  replace hnil : Hid (a = none → n = 0) := hnil
  go_enter Ybaf.func3, Ybaf.ntmps3
  go_wp2_with (first
    | (go_at_call 4; refine (clone4 a n cap l _ hn.out hl hb hnil.out).mono ?_; rintro e w1 ⟨a1, c1, rfl, F1, hb1⟩; have G1 := F1)
    | (go_at_call 5; have hpp := hp; clear hpp; refine (clamp5 _ n _ hl).mono ?_; rintro e w3 ⟨⟨q, hq, rfl⟩, hw3⟩; have hw3' := hw3.symm; subst hw3')
    | (go_at_call 5; refine (clamp5 _ n _ hl).mono ?_; rintro e w2 ⟨⟨p, hp, rfl⟩, hw2⟩; have hw2' := hw2.symm; subst hw2')
    | (refine wpList_do rfl (some 56) rfl _ _ (exec_build (parts := [(2, .tmp 54), (3, .tmp 55)]) (vs := [(2, .slice a n cap), (3, .int .i64 p)]) rfl rfl (build34 a n cap p _)) ?_)
    | (refine wpList_box rfl 34 _ rfl (some 57) rfl _ (scn (.slice a n cap) p) rfl rfl ?_; intro sb w5 e5 F5 rs5 z5; have G5 := G1.trans0 F5; have hb5 := hb1.keep F5; have hpq := peq sb)
    | (refine wpList_do rfl (some 60) rfl _ _ (exec_build (parts := [(2, .tmp 59)]) (vs := [(2, .int .i64 q)]) rfl rfl (build41' q _)) ?_)
    | (refine wpList_do rfl (some 63) rfl _ _ (exec_build (parts := [(0, .tmp 58), (1, .tmp 60), (4, .tmp 61), (3, .tmp 62)]) (vs := [(0, .pointer (some ⟨sb, 0, none⟩)), (1, .agg (tlv (.int .u8 0) (.int .u64 0) (.bool false) q 0 0 0)), (4, .bool pk), (3, .nilIface)]) rfl rfl (build56n sb q pk _)) ?_)
    | (refine wpList_box rfl 56 _ rfl (some 64) rfl _ (dec (.pointer (some ⟨sb, 0, none⟩)) q .nilIface pk 0 (.slice none 0 0)) rfl rfl ?_; intro g w6 e6 F6 rg6 z6; have rs6 := F6.get rs5 (by simp); have G6 := G5.trans0 F6; have hb6 := hb5.keep F6; have hg : Hid (w.heap.size ≤ g) := (by show _ ≤ _; rw [e6.out]; exact G5.size); have hsg : sb ≠ g := (by have h1 := e6.out; have h2 := lt_of_get rs5; omega))
    | (go_at_call 7; refine (count_zero g _ .nilIface _ q most pk _ rg6).mono ?_; rintro e w9 ⟨rfl, hw9⟩; have hw9' := hw9.symm; subst hw9'; have G9 := G6; have cs3 := scn3 rs6; have cg4 := dec4 rg6; have cg0 := dec0 rg6; have hb9 := hb6)
    | (go_at_call 9; refine (equal9 a a1 n cap c1 l _ hn.out (hb.keep G9) hb9).mono ?_; rintro e wb ⟨rfl, hwb⟩; have hwb' := hwb.symm; subst hwb'))
  go_ret
  exact ⟨rfl, G9⟩

set_option maxHeartbeats 4000000 in
set_option maxRecDepth 100000 in
theorem main_2_ftt (a : Option Addr) (n cap : Nat) (l : List Int) (pos ao : Int) (em en most : Int) (w : World) (hn : Hid (l.length = n)) (hl : n ≤ 1048576) (ho : Oct l) (hb : Bs w a l) (hnil : a = none → n = 0) (hem0 : 0 ≤ em) (hem1 : em < 256) (hem : em % 3 = 2) (hm0 : -9223372036854775808 ≤ most) (hm1 : most ≤ 9223372036854775807) (_he0 : -9223372036854775808 ≤ en) (_he1 : en ≤ 9223372036854775807) :
    Calls Ybaf.prog 3 #[.slice a n cap, .int .i64 pos, .bool true, .int .i64 ao, .bool false, .bool true, .int .u8 em, .int .i64 en, .int .i64 most] w fun e w' => e = .returned (.bool true) ∧ Fr [] w w' := by
  replace ho : Hid (Oct l) := ho
  replace hnil : Hid (a = none → n = 0) := hnil
  go_enter Ybaf.func3, Ybaf.ntmps3
  go_wp2_with (first
    | (go_at_call 4; refine (clone4 a n cap l _ hn.out hl hb hnil.out).mono ?_; rintro e w1 ⟨a1, c1, rfl, F1, hb1⟩; have G1 := F1)
    | (go_at_call 5; have hpp := hp; clear hpp; refine (clamp5 _ n _ hl).mono ?_; rintro e w3 ⟨⟨q, hq, rfl⟩, hw3⟩; have hw3' := hw3.symm; subst hw3')
    | (go_at_call 5; refine (clamp5 _ n _ hl).mono ?_; rintro e w2 ⟨⟨p, hp, rfl⟩, hw2⟩; have hw2' := hw2.symm; subst hw2')
    | (refine wpList_do rfl (some 56) rfl _ _ (exec_build (parts := [(2, .tmp 54), (3, .tmp 55)]) (vs := [(2, .slice a n cap), (3, .int .i64 p)]) rfl rfl (build34 a n cap p _)) ?_)
    | (refine wpList_box rfl 34 _ rfl (some 57) rfl _ (scn (.slice a n cap) p) rfl rfl ?_; intro sb w5 e5 F5 rs5 z5; have G5 := G1.trans0 F5; have hb5 := hb1.keep F5; have hpq := peq sb)
    | (refine wpList_do rfl (some 60) rfl _ _ (exec_build (parts := [(2, .tmp 59)]) (vs := [(2, .int .i64 q)]) rfl rfl (build41' q _)) ?_)
    | (refine wpList_do rfl (some 63) rfl _ _ (exec_build (parts := [(0, .tmp 58), (1, .tmp 60), (4, .tmp 61), (3, .tmp 62)]) (vs := [(0, .pointer (some ⟨sb, 0, none⟩)), (1, .agg (tlv (.int .u8 0) (.int .u64 0) (.bool false) q 0 0 0)), (4, .bool true), (3, .nilIface)]) rfl rfl (build56n sb q true _)) ?_)
    | (refine wpList_box rfl 56 _ rfl (some 64) rfl _ (dec (.pointer (some ⟨sb, 0, none⟩)) q .nilIface true 0 (.slice none 0 0)) rfl rfl ?_; intro g w6 e6 F6 rg6 z6; have rs6 := F6.get rs5 (by simp); have G6 := G5.trans0 F6; have hb6 := hb5.keep F6; have hg : Hid (w.heap.size ≤ g) := (by show _ ≤ _; rw [e6.out]; exact G5.size); have hsg : sb ≠ g := (by have h1 := e6.out; have h2 := lt_of_get rs5; omega); have hg1 : Hid (w1.heap.size ≤ g) := (by show _ ≤ _; rw [e6.out]; exact Fr.size (F5)))
    | (refine wpList_do rfl (some 68) rfl _ _ (exec_build (parts := [(0, .const (.int .i64 0)), (1, .tmp 67)]) (vs := [(0, .int .i64 0), (1, .int .i64 en)]) rfl rfl (build58 en _)) ?_)
    | (refine wpList_buildSlice rfl (some 69) rfl 43 1 [(0, .tmp 68)] rfl [(0, .agg #[.int .i64 0, .int .i64 en])] rfl _ 58 (bs43 en) ?_; intro eb w7 e7 F7 re7 z7; have rs7 := F7.get rs6 (by simp); have rg7 := F7.get rg6 (by simp); have G7 := G6.trans0 F7; have hb7 := hb6.keep F7; have heg : eb ≠ g := (by have h1 := e7.out; have h2 := lt_of_get rg6; omega))
    | (refine wpList_do rfl (some 70) rfl _ _ (exec_build (parts := [(1, .const (.int .i64 1)), (2, .tmp 69)]) (vs := [(1, .int .i64 1), (2, .slice (some ⟨eb, 0, none⟩) 1 1)]) rfl rfl (build45 eb _)) ?_)
    | (refine wpList_store_seg rfl 45 (.tmp 72) (.tmp 70) rfl g 14 _ rfl rfl 56 _ rg7 (show 14 + 3 ≤ 24 by decide) size45 (by simp [Value.oneCell']) ?_; intro w8 F8 rg8'; have rg8 : w8.heap[g]? = some (.cells (dec (.pointer (some ⟨sb, 0, none⟩)) q .nilIface true 1 (.slice (some ⟨eb, 0, none⟩) 1 1)) 56) := rg8'; have rs8 := F8.get rs7 (by simpa using hsg); have re8 := F8.get re7 (by simpa using heg); have G8 := G7.trans1 F8 (.inr hg.out); clear rg8')
    | (go_at_call 7; refine (count_peek g sb eb cap p n q a l en most _ hn hl hq ho.out (hb.keep G8) ⟨rg8, rs8, re8⟩ hm0 hm1 (by omega)).mono ?_; rintro e w9 ⟨rfl, F9⟩; have G9 := G8.trans0 F9; have cs3 := scn3 (F9.get rs8 (by simp)); have cg4 := dec4 (F9.get rg8 (by simp)); have cg0 := dec0 (F9.get rg8 (by simp)); have X9 : Fr [] w1 _ := ((((F5).trans0 F6).trans0 F7).trans1 F8 (.inr hg1.out)).trans0 F9; have hb9 := hb1.keep X9)
    | (go_at_call 8; refine (want_loop a1 c1 q n l en most _ hn hl hq ho.out hb9 hm0 hm1 (by omega) (by omega)).mono ?_; rintro e wa ⟨rfl, hwa⟩; have hwa' := hwa.symm; subst hwa')
    | (go_at_call 9; refine (equal9 a a1 n cap c1 l _ hn.out (hb.keep G9) hb9).mono ?_; rintro e wb ⟨rfl, hwb⟩; have hwb' := hwb.symm; subst hwb'))
  go_ret
  exact ⟨rfl, G9⟩

set_option maxHeartbeats 4000000 in
set_option maxRecDepth 100000 in
theorem main_2_ftf (a : Option Addr) (n cap : Nat) (l : List Int) (pos ao : Int) (em en most : Int) (w : World) (hn : Hid (l.length = n)) (hl : n ≤ 1048576) (ho : Oct l) (hb : Bs w a l) (hnil : a = none → n = 0) (hem0 : 0 ≤ em) (hem1 : em < 256) (hem : em % 3 = 2) (hm0 : -9223372036854775808 ≤ most) (hm1 : most ≤ 9223372036854775807) (_he0 : -9223372036854775808 ≤ en) (_he1 : en ≤ 9223372036854775807) :
    Calls Ybaf.prog 3 #[.slice a n cap, .int .i64 pos, .bool false, .int .i64 ao, .bool false, .bool true, .int .u8 em, .int .i64 en, .int .i64 most] w fun e w' => e = .returned (.bool true) ∧ Fr [] w w' := by
  replace ho : Hid (Oct l) := ho
  replace hnil : Hid (a = none → n = 0) := hnil
  go_enter Ybaf.func3, Ybaf.ntmps3
  go_wp2_with (first
    | (go_at_call 4; refine (clone4 a n cap l _ hn.out hl hb hnil.out).mono ?_; rintro e w1 ⟨a1, c1, rfl, F1, hb1⟩; have G1 := F1)
    | (go_at_call 5; have hpp := hp; clear hpp; refine (clamp5 _ n _ hl).mono ?_; rintro e w3 ⟨⟨q, hq, rfl⟩, hw3⟩; have hw3' := hw3.symm; subst hw3')
    | (go_at_call 5; refine (clamp5 _ n _ hl).mono ?_; rintro e w2 ⟨⟨p, hp, rfl⟩, hw2⟩; have hw2' := hw2.symm; subst hw2')
    | (refine wpList_do rfl (some 56) rfl _ _ (exec_build (parts := [(2, .tmp 54), (3, .tmp 55)]) (vs := [(2, .slice a n cap), (3, .int .i64 p)]) rfl rfl (build34 a n cap p _)) ?_)
    | (refine wpList_box rfl 34 _ rfl (some 57) rfl _ (scn (.slice a n cap) p) rfl rfl ?_; intro sb w5 e5 F5 rs5 z5; have G5 := G1.trans0 F5; have hb5 := hb1.keep F5; have hpq := peq sb)
    | (refine wpList_do rfl (some 60) rfl _ _ (exec_build (parts := [(2, .tmp 59)]) (vs := [(2, .int .i64 q)]) rfl rfl (build41' q _)) ?_)
    | (refine wpList_do rfl (some 63) rfl _ _ (exec_build (parts := [(0, .tmp 58), (1, .tmp 60), (4, .tmp 61), (3, .tmp 62)]) (vs := [(0, .pointer (some ⟨sb, 0, none⟩)), (1, .agg (tlv (.int .u8 0) (.int .u64 0) (.bool false) q 0 0 0)), (4, .bool false), (3, .nilIface)]) rfl rfl (build56n sb q false _)) ?_)
    | (refine wpList_box rfl 56 _ rfl (some 64) rfl _ (dec (.pointer (some ⟨sb, 0, none⟩)) q .nilIface false 0 (.slice none 0 0)) rfl rfl ?_; intro g w6 e6 F6 rg6 z6; have rs6 := F6.get rs5 (by simp); have G6 := G5.trans0 F6; have hb6 := hb5.keep F6; have hg : Hid (w.heap.size ≤ g) := (by show _ ≤ _; rw [e6.out]; exact G5.size); have hsg : sb ≠ g := (by have h1 := e6.out; have h2 := lt_of_get rs5; omega); have hg1 : Hid (w1.heap.size ≤ g) := (by show _ ≤ _; rw [e6.out]; exact Fr.size (F5)))
    | (refine wpList_do rfl (some 68) rfl _ _ (exec_build (parts := [(0, .const (.int .i64 0)), (1, .tmp 67)]) (vs := [(0, .int .i64 0), (1, .int .i64 en)]) rfl rfl (build58 en _)) ?_)
    | (refine wpList_buildSlice rfl (some 69) rfl 43 1 [(0, .tmp 68)] rfl [(0, .agg #[.int .i64 0, .int .i64 en])] rfl _ 58 (bs43 en) ?_; intro eb w7 e7 F7 re7 z7; have rs7 := F7.get rs6 (by simp); have rg7 := F7.get rg6 (by simp); have G7 := G6.trans0 F7; have hb7 := hb6.keep F7; have heg : eb ≠ g := (by have h1 := e7.out; have h2 := lt_of_get rg6; omega))
    | (refine wpList_do rfl (some 70) rfl _ _ (exec_build (parts := [(1, .const (.int .i64 1)), (2, .tmp 69)]) (vs := [(1, .int .i64 1), (2, .slice (some ⟨eb, 0, none⟩) 1 1)]) rfl rfl (build45 eb _)) ?_)
    | (refine wpList_store_seg rfl 45 (.tmp 72) (.tmp 70) rfl g 14 _ rfl rfl 56 _ rg7 (show 14 + 3 ≤ 24 by decide) size45 (by simp [Value.oneCell']) ?_; intro w8 F8 rg8'; have rg8 : w8.heap[g]? = some (.cells (dec (.pointer (some ⟨sb, 0, none⟩)) q .nilIface false 1 (.slice (some ⟨eb, 0, none⟩) 1 1)) 56) := rg8'; have rs8 := F8.get rs7 (by simpa using hsg); have re8 := F8.get re7 (by simpa using heg); have G8 := G7.trans1 F8 (.inr hg.out); clear rg8')
    | (go_at_call 7; refine (count_plain g sb eb cap p n q a l en most .nilIface _ hn hl hp ho.out (hb.keep G8) ⟨rg8, rs8, re8⟩ hm0 hm1 (by omega)).mono ?_; rintro e w9 ⟨rfl, F9⟩; have G9 := G8.trans0 F9; have cs3 := scn3 (F9.get rs8 (by simp)); have cg4 := dec4 (F9.get rg8 (by simp)); have cg0 := dec0 (F9.get rg8 (by simp)); have X9 : Fr [] w1 _ := ((((F5).trans0 F6).trans0 F7).trans1 F8 (.inr hg1.out)).trans0 F9; have hb9 := hb1.keep X9)
    | (go_at_call 8; refine (want_loop a1 c1 p n l en most _ hn hl hp ho.out hb9 hm0 hm1 (by omega) (by omega)).mono ?_; rintro e wa ⟨rfl, hwa⟩; have hwa' := hwa.symm; subst hwa')
    | (go_at_call 9; refine (equal9 a a1 n cap c1 l _ hn.out (hb.keep G9) hb9).mono ?_; rintro e wb ⟨rfl, hwb⟩; have hwb' := hwb.symm; subst hwb'))
  go_ret
  exact ⟨rfl, G9⟩

set_option maxHeartbeats 4000000 in
set_option maxRecDepth 100000 in
theorem main_2_tf (a : Option Addr) (n cap : Nat) (l : List Int) (pos ao : Int) (pk : Bool) (em en most : Int) (w : World) (hn : Hid (l.length = n)) (hl : n ≤ 1048576) (ho : Oct l) (hb : Bs w a l) (hnil : a = none → n = 0) (hem0 : 0 ≤ em) (hem1 : em < 256) (hem : em % 3 = 2) (_hm0 : -9223372036854775808 ≤ most) (_hm1 : most ≤ 9223372036854775807) (_he0 : -9223372036854775808 ≤ en) (_he1 : en ≤ 9223372036854775807) :
    Calls Ybaf.prog 3 #[.slice a n cap, .int .i64 pos, .bool pk, .int .i64 ao, .bool true, .bool false, .int .u8 em, .int .i64 en, .int .i64 most] w fun e w' => e = .returned (.bool true) ∧ Fr [] w w' := by
  replace ho : Hid (Oct l) := ho
  replace hnil : Hid (a = none → n = 0) := hnil
  go_enter Ybaf.func3, Ybaf.ntmps3
  go_wp2_with (first
    | (go_at_call 4; refine (clone4 a n cap l _ hn.out hl hb hnil.out).mono ?_; rintro e w1 ⟨a1, c1, rfl, F1, hb1⟩; have G1 := F1)
    | (go_at_call 5; have hpp := hp; clear hpp; refine (clamp5 _ n _ hl).mono ?_; rintro e w3 ⟨⟨q, hq, rfl⟩, hw3⟩; have hw3' := hw3.symm; subst hw3')
    | (go_at_call 5; refine (clamp5 _ n _ hl).mono ?_; rintro e w2 ⟨⟨p, hp, rfl⟩, hw2⟩; have hw2' := hw2.symm; subst hw2')
    | (go_at_call 6; refine (new6 _ _).mono ?_; rintro e w4 ⟨⟨erx, rfl⟩, F4⟩; have G4 := G1.trans0 F4; have hb4 := hb1.keep F4)
    | (refine wpList_do rfl (some 56) rfl _ _ (exec_build (parts := [(2, .tmp 54), (3, .tmp 55)]) (vs := [(2, .slice a n cap), (3, .int .i64 p)]) rfl rfl (build34 a n cap p _)) ?_)
    | (refine wpList_box rfl 34 _ rfl (some 57) rfl _ (scn (.slice a n cap) p) rfl rfl ?_; intro sb w5 e5 F5 rs5 z5; have G5 := G4.trans0 F5; have hb5 := hb4.keep F5; have hpq := peq sb)
    | (refine wpList_do rfl (some 60) rfl _ _ (exec_build (parts := [(2, .tmp 59)]) (vs := [(2, .int .i64 q)]) rfl rfl (build41' q _)) ?_)
    | (refine wpList_do rfl (some 63) rfl _ _ (exec_build (parts := [(0, .tmp 58), (1, .tmp 60), (4, .tmp 61), (3, .tmp 62)]) (vs := [(0, .pointer (some ⟨sb, 0, none⟩)), (1, .agg (tlv (.int .u8 0) (.int .u64 0) (.bool false) q 0 0 0)), (4, .bool pk), (3, (.iface 63 erx))]) rfl rfl (build56i sb q pk 63 erx _)) ?_)
    | (refine wpList_box rfl 56 _ rfl (some 64) rfl _ (dec (.pointer (some ⟨sb, 0, none⟩)) q (.iface 63 erx) pk 0 (.slice none 0 0)) rfl rfl ?_; intro g w6 e6 F6 rg6 z6; have rs6 := F6.get rs5 (by simp); have G6 := G5.trans0 F6; have hb6 := hb5.keep F6; have hg : Hid (w.heap.size ≤ g) := (by show _ ≤ _; rw [e6.out]; exact G5.size); have hsg : sb ≠ g := (by have h1 := e6.out; have h2 := lt_of_get rs5; omega))
    | (go_at_call 7; refine (count_zero g _ (.iface 63 erx) _ q most pk _ rg6).mono ?_; rintro e w9 ⟨rfl, hw9⟩; have hw9' := hw9.symm; subst hw9'; have G9 := G6; have cs3 := scn3 rs6; have cg4 := dec4 rg6; have cg0 := dec0 rg6; have hb9 := hb6)
    | (go_at_call 9; refine (equal9 a a1 n cap c1 l _ hn.out (hb.keep G9) hb9).mono ?_; rintro e wb ⟨rfl, hwb⟩; have hwb' := hwb.symm; subst hwb'))
  go_ret
  exact ⟨rfl, G9⟩

set_option maxHeartbeats 4000000 in
set_option maxRecDepth 100000 in
theorem main_2_ttt (a : Option Addr) (n cap : Nat) (l : List Int) (pos ao : Int) (em en most : Int) (w : World) (hn : Hid (l.length = n)) (hl : n ≤ 1048576) (ho : Oct l) (hb : Bs w a l) (hnil : a = none → n = 0) (hem0 : 0 ≤ em) (hem1 : em < 256) (hem : em % 3 = 2) (_hm0 : -9223372036854775808 ≤ most) (_hm1 : most ≤ 9223372036854775807) (_he0 : -9223372036854775808 ≤ en) (_he1 : en ≤ 9223372036854775807) :
    Calls Ybaf.prog 3 #[.slice a n cap, .int .i64 pos, .bool true, .int .i64 ao, .bool true, .bool true, .int .u8 em, .int .i64 en, .int .i64 most] w fun e w' => e = .returned (.bool true) ∧ Fr [] w w' := by
  replace ho : Hid (Oct l) := ho
  replace hnil : Hid (a = none → n = 0) := hnil
  go_enter Ybaf.func3, Ybaf.ntmps3
  go_wp2_with (first
    | (go_at_call 4; refine (clone4 a n cap l _ hn.out hl hb hnil.out).mono ?_; rintro e w1 ⟨a1, c1, rfl, F1, hb1⟩; have G1 := F1)
    | (go_at_call 5; have hpp := hp; clear hpp; refine (clamp5 _ n _ hl).mono ?_; rintro e w3 ⟨⟨q, hq, rfl⟩, hw3⟩; have hw3' := hw3.symm; subst hw3')
    | (go_at_call 5; refine (clamp5 _ n _ hl).mono ?_; rintro e w2 ⟨⟨p, hp, rfl⟩, hw2⟩; have hw2' := hw2.symm; subst hw2')
    | (go_at_call 6; refine (new6 _ _).mono ?_; rintro e w4 ⟨⟨erx, rfl⟩, F4⟩; have G4 := G1.trans0 F4; have hb4 := hb1.keep F4)
    | (refine wpList_do rfl (some 56) rfl _ _ (exec_build (parts := [(2, .tmp 54), (3, .tmp 55)]) (vs := [(2, .slice a n cap), (3, .int .i64 p)]) rfl rfl (build34 a n cap p _)) ?_)
    | (refine wpList_box rfl 34 _ rfl (some 57) rfl _ (scn (.slice a n cap) p) rfl rfl ?_; intro sb w5 e5 F5 rs5 z5; have G5 := G4.trans0 F5; have hb5 := hb4.keep F5; have hpq := peq sb)
    | (refine wpList_do rfl (some 60) rfl _ _ (exec_build (parts := [(2, .tmp 59)]) (vs := [(2, .int .i64 q)]) rfl rfl (build41' q _)) ?_)
    | (refine wpList_do rfl (some 63) rfl _ _ (exec_build (parts := [(0, .tmp 58), (1, .tmp 60), (4, .tmp 61), (3, .tmp 62)]) (vs := [(0, .pointer (some ⟨sb, 0, none⟩)), (1, .agg (tlv (.int .u8 0) (.int .u64 0) (.bool false) q 0 0 0)), (4, .bool true), (3, (.iface 63 erx))]) rfl rfl (build56i sb q true 63 erx _)) ?_)
    | (refine wpList_box rfl 56 _ rfl (some 64) rfl _ (dec (.pointer (some ⟨sb, 0, none⟩)) q (.iface 63 erx) true 0 (.slice none 0 0)) rfl rfl ?_; intro g w6 e6 F6 rg6 z6; have rs6 := F6.get rs5 (by simp); have G6 := G5.trans0 F6; have hb6 := hb5.keep F6; have hg : Hid (w.heap.size ≤ g) := (by show _ ≤ _; rw [e6.out]; exact G5.size); have hsg : sb ≠ g := (by have h1 := e6.out; have h2 := lt_of_get rs5; omega); have hg1 : Hid (w1.heap.size ≤ g) := (by show _ ≤ _; rw [e6.out]; exact Fr.size (F4.trans0 F5)))
    | (refine wpList_do rfl (some 68) rfl _ _ (exec_build (parts := [(0, .const (.int .i64 0)), (1, .tmp 67)]) (vs := [(0, .int .i64 0), (1, .int .i64 en)]) rfl rfl (build58 en _)) ?_)
    | (refine wpList_buildSlice rfl (some 69) rfl 43 1 [(0, .tmp 68)] rfl [(0, .agg #[.int .i64 0, .int .i64 en])] rfl _ 58 (bs43 en) ?_; intro eb w7 e7 F7 re7 z7; have rs7 := F7.get rs6 (by simp); have rg7 := F7.get rg6 (by simp); have G7 := G6.trans0 F7; have hb7 := hb6.keep F7; have heg : eb ≠ g := (by have h1 := e7.out; have h2 := lt_of_get rg6; omega))
    | (refine wpList_do rfl (some 70) rfl _ _ (exec_build (parts := [(1, .const (.int .i64 1)), (2, .tmp 69)]) (vs := [(1, .int .i64 1), (2, .slice (some ⟨eb, 0, none⟩) 1 1)]) rfl rfl (build45 eb _)) ?_)
    | (refine wpList_store_seg rfl 45 (.tmp 72) (.tmp 70) rfl g 14 _ rfl rfl 56 _ rg7 (show 14 + 3 ≤ 24 by decide) size45 (by simp [Value.oneCell']) ?_; intro w8 F8 rg8'; have rg8 : w8.heap[g]? = some (.cells (dec (.pointer (some ⟨sb, 0, none⟩)) q (.iface 63 erx) true 1 (.slice (some ⟨eb, 0, none⟩) 1 1)) 56) := rg8'; have rs8 := F8.get rs7 (by simpa using hsg); have re8 := F8.get re7 (by simpa using heg); have G8 := G7.trans1 F8 (.inr hg.out); clear rg8')
    | (go_at_call 7; refine (count_err g _ erx _ 63 q most _ rg8).mono ?_; rintro e w9 ⟨rfl, hw9⟩; have hw9' := hw9.symm; subst hw9'; have G9 := G8; have cs3 := scn3 rs8; have cg4 := dec4 rg8; have cg0 := dec0 rg8; have X9 : Fr [] w1 _ := ((((F4.trans0 F5).trans0 F6).trans0 F7).trans1 F8 (.inr hg1.out)); have hb9 := hb1.keep X9)
    | (go_at_call 9; refine (equal9 a a1 n cap c1 l _ hn.out (hb.keep G9) hb9).mono ?_; rintro e wb ⟨rfl, hwb⟩; have hwb' := hwb.symm; subst hwb'))
  go_ret
  exact ⟨rfl, G9⟩

set_option maxHeartbeats 4000000 in
set_option maxRecDepth 100000 in
theorem main_2_ttf (a : Option Addr) (n cap : Nat) (l : List Int) (pos ao : Int) (em en most : Int) (w : World) (hn : Hid (l.length = n)) (hl : n ≤ 1048576) (ho : Oct l) (hb : Bs w a l) (hnil : a = none → n = 0) (hem0 : 0 ≤ em) (hem1 : em < 256) (hem : em % 3 = 2) (hm0 : -9223372036854775808 ≤ most) (hm1 : most ≤ 9223372036854775807) (_he0 : -9223372036854775808 ≤ en) (_he1 : en ≤ 9223372036854775807) :
    Calls Ybaf.prog 3 #[.slice a n cap, .int .i64 pos, .bool false, .int .i64 ao, .bool true, .bool true, .int .u8 em, .int .i64 en, .int .i64 most] w fun e w' => e = .returned (.bool true) ∧ Fr [] w w' := by
  replace ho : Hid (Oct l) := ho
  replace hnil : Hid (a = none → n = 0) := hnil
  go_enter Ybaf.func3, Ybaf.ntmps3
  go_wp2_with (first
    | (go_at_call 4; refine (clone4 a n cap l _ hn.out hl hb hnil.out).mono ?_; rintro e w1 ⟨a1, c1, rfl, F1, hb1⟩; have G1 := F1)
    | (go_at_call 5; have hpp := hp; clear hpp; refine (clamp5 _ n _ hl).mono ?_; rintro e w3 ⟨⟨q, hq, rfl⟩, hw3⟩; have hw3' := hw3.symm; subst hw3')
    | (go_at_call 5; refine (clamp5 _ n _ hl).mono ?_; rintro e w2 ⟨⟨p, hp, rfl⟩, hw2⟩; have hw2' := hw2.symm; subst hw2')
    | (go_at_call 6; refine (new6 _ _).mono ?_; rintro e w4 ⟨⟨erx, rfl⟩, F4⟩; have G4 := G1.trans0 F4; have hb4 := hb1.keep F4)
    | (refine wpList_do rfl (some 56) rfl _ _ (exec_build (parts := [(2, .tmp 54), (3, .tmp 55)]) (vs := [(2, .slice a n cap), (3, .int .i64 p)]) rfl rfl (build34 a n cap p _)) ?_)
    | (refine wpList_box rfl 34 _ rfl (some 57) rfl _ (scn (.slice a n cap) p) rfl rfl ?_; intro sb w5 e5 F5 rs5 z5; have G5 := G4.trans0 F5; have hb5 := hb4.keep F5; have hpq := peq sb)
    | (refine wpList_do rfl (some 60) rfl _ _ (exec_build (parts := [(2, .tmp 59)]) (vs := [(2, .int .i64 q)]) rfl rfl (build41' q _)) ?_)
    | (refine wpList_do rfl (some 63) rfl _ _ (exec_build (parts := [(0, .tmp 58), (1, .tmp 60), (4, .tmp 61), (3, .tmp 62)]) (vs := [(0, .pointer (some ⟨sb, 0, none⟩)), (1, .agg (tlv (.int .u8 0) (.int .u64 0) (.bool false) q 0 0 0)), (4, .bool false), (3, (.iface 63 erx))]) rfl rfl (build56i sb q false 63 erx _)) ?_)
    | (refine wpList_box rfl 56 _ rfl (some 64) rfl _ (dec (.pointer (some ⟨sb, 0, none⟩)) q (.iface 63 erx) false 0 (.slice none 0 0)) rfl rfl ?_; intro g w6 e6 F6 rg6 z6; have rs6 := F6.get rs5 (by simp); have G6 := G5.trans0 F6; have hb6 := hb5.keep F6; have hg : Hid (w.heap.size ≤ g) := (by show _ ≤ _; rw [e6.out]; exact G5.size); have hsg : sb ≠ g := (by have h1 := e6.out; have h2 := lt_of_get rs5; omega); have hg1 : Hid (w1.heap.size ≤ g) := (by show _ ≤ _; rw [e6.out]; exact Fr.size (F4.trans0 F5)))
    | (refine wpList_do rfl (some 68) rfl _ _ (exec_build (parts := [(0, .const (.int .i64 0)), (1, .tmp 67)]) (vs := [(0, .int .i64 0), (1, .int .i64 en)]) rfl rfl (build58 en _)) ?_)
    | (refine wpList_buildSlice rfl (some 69) rfl 43 1 [(0, .tmp 68)] rfl [(0, .agg #[.int .i64 0, .int .i64 en])] rfl _ 58 (bs43 en) ?_; intro eb w7 e7 F7 re7 z7; have rs7 := F7.get rs6 (by simp); have rg7 := F7.get rg6 (by simp); have G7 := G6.trans0 F7; have hb7 := hb6.keep F7; have heg : eb ≠ g := (by have h1 := e7.out; have h2 := lt_of_get rg6; omega))
    | (refine wpList_do rfl (some 70) rfl _ _ (exec_build (parts := [(1, .const (.int .i64 1)), (2, .tmp 69)]) (vs := [(1, .int .i64 1), (2, .slice (some ⟨eb, 0, none⟩) 1 1)]) rfl rfl (build45 eb _)) ?_)
    | (refine wpList_store_seg rfl 45 (.tmp 72) (.tmp 70) rfl g 14 _ rfl rfl 56 _ rg7 (show 14 + 3 ≤ 24 by decide) size45 (by simp [Value.oneCell']) ?_; intro w8 F8 rg8'; have rg8 : w8.heap[g]? = some (.cells (dec (.pointer (some ⟨sb, 0, none⟩)) q (.iface 63 erx) false 1 (.slice (some ⟨eb, 0, none⟩) 1 1)) 56) := rg8'; have rs8 := F8.get rs7 (by simpa using hsg); have re8 := F8.get re7 (by simpa using heg); have G8 := G7.trans1 F8 (.inr hg.out); clear rg8')
    | (go_at_call 7; refine (count_plain g sb eb cap p n q a l en most (.iface 63 erx) _ hn hl hp ho.out (hb.keep G8) ⟨rg8, rs8, re8⟩ hm0 hm1 (by omega)).mono ?_; rintro e w9 ⟨rfl, F9⟩; have G9 := G8.trans0 F9; have cs3 := scn3 (F9.get rs8 (by simp)); have cg4 := dec4 (F9.get rg8 (by simp)); have cg0 := dec0 (F9.get rg8 (by simp)); have X9 : Fr [] w1 _ := ((((F4.trans0 F5).trans0 F6).trans0 F7).trans1 F8 (.inr hg1.out)).trans0 F9; have hb9 := hb1.keep X9)
    | (go_at_call 8; refine (want_loop a1 c1 p n l en most _ hn hl hp ho.out hb9 hm0 hm1 (by omega) (by omega)).mono ?_; rintro e wa ⟨rfl, hwa⟩; have hwa' := hwa.symm; subst hwa')
    | (go_at_call 9; refine (equal9 a a1 n cap c1 l _ hn.out (hb.keep G9) hb9).mono ?_; rintro e wb ⟨rfl, hwb⟩; have hwb' := hwb.symm; subst hwb'))
  go_ret
  exact ⟨rfl, G9⟩

end Go.Proofs.YbulkdusoFmt
