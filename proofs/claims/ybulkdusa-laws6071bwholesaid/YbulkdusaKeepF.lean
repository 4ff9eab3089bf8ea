import Derived.Test.YbulkdusaKeepD
import Derived.Test.YbulkdusaKeepE
namespace Go.Proofs.Ybulkdusa
open Go.RowKit Base
theorem kN_zero {hz : Int} {L : List Ver} (h : cle hz L = 0) : kN hz L = 0 := by simp [kN, h]
theorem kN_true {hz : Int} {L : List Ver} {k : Nat} (h : cle hz L = k + 1) (hk : k < L.length) (hd : (L[k]).del = true) : kN hz L = k + 1 := by simp [kN, h, hk, hd]
theorem kN_false {hz : Int} {L : List Ver} {k : Nat} (h : cle hz L = k + 1) (hk : k < L.length) (hd : (L[k]).del = false) : kN hz L = k := by simp [kN, h, hk, hd]
theorem drop0_del {L : List Ver} {k : Nat} {d : Bool} (h : ∀ h, (L[k]'h).del = d) : ∀ h, ((L.drop k)[0]'h).del = d := by
  intro h'
  simp only [List.length_drop] at h'
  have := h (by omega)
  simpa using this

variable {w : World} {g bd ba c n b o cap : Nat} {l0 l4 hz : Int} {f : Nat → Option Value} {L : List Ver} {V : List Nat} {A Bd Bs : World → Prop} {cs : Array Value}

/-- 'keep' cuts what no view at or above the horizon can see -/
theorem keep_any (h : KIn w g bd ba c n b o cap l0 l4 hz f L V A Bd Bs cs) (hne : 0 < L.length) :
    Calls Yba.prog 11 #[.pointer (some ⟨g, 0, none⟩), .string (keyS c), .slice (some ⟨b, o, none⟩) L.length cap] w fun e w' => e = .returned (.tuple #[]) ∧ KOut w w' g bd ba c n b l0 l4 hz f (L.drop (kN hz L)) Bd Bs := by
  have hle := cle_le hz L
  have hcap := h.hcap
  generalize hk : cle hz L = j at hle
  cases j with
  | zero =>
    rw [kN_zero hk, List.drop_zero]
    rcases Nat.lt_or_ge 1 L.length with h1 | h1
    · exact keep_AT1 h L.length hk rfl h1 (agB_many h1)
    · have h1 : L.length = 1 := by omega
      have ha := agB_one h1 hne
      rw [h1]
      cases hd : (L[0]).del with
      | true => exact keep_AT2 h hk h1 (fun _ => hd) (ha.trans hd)
      | false => exact keep_AT3 h hk h1 (fun _ => hd) (ha.trans hd)
  | succ k =>
    have hkl : k < L.length := by omega
    cases hdk : (L[k]).del with
    | false =>
      rw [kN_false hk hkl hdk]
      have hdr : (L.drop k).length = L.length - k := List.length_drop
      rcases Nat.eq_zero_or_pos k with rfl | hk0
      · rw [List.drop_zero]
        rcases Nat.lt_or_ge 1 L.length with h1 | h1
        · exact keep_ET1 h L.length hk (fun _ => hdk) rfl h1 (agB_many h1)
        · have h1 : L.length = 1 := by omega
          have ha := agB_one h1 hne
          rw [h1]
          exact keep_ET3 h hk (fun _ => hdk) h1 (fun _ => hdk) (ha.trans hdk)
      · rcases Nat.lt_or_ge 1 (L.drop k).length with h1 | h1
        · exact keep_DT1 h (L.drop k).length L.length k (cap - k) hk rfl hkl (show _ = _ by omega) (show _ = _ by omega) hk0 (fun _ => hdk) rfl h1 (agB_many h1)
        · have h1 : (L.drop k).length = 1 := by omega
          have hd0 := drop0_del (L := L) (k := k) (fun _ => hdk)
          exact keep_DT3 h L.length k (cap - k) hk rfl hkl (show _ = _ by omega) (show _ = _ by omega) hk0 (fun _ => hdk) h1 hd0 ((agB_one h1 (by omega)).trans (hd0 _))
    | true =>
      rw [kN_true hk hkl hdk]
      have hdr : (L.drop (k + 1)).length = L.length - (k + 1) := List.length_drop
      rcases Nat.lt_or_ge 1 (L.drop (k + 1)).length with h1 | h1
      · exact keep_CT1 h (L.drop (k + 1)).length L.length k (cap - (k + 1)) (k + 1) hk rfl hkl (show _ = _ by omega) (show _ = _ by omega) rfl (by omega) (fun _ => hdk) rfl h1 (agB_many h1)
      · rcases Nat.eq_zero_or_pos (L.drop (k + 1)).length with h0 | h0
        · exact keep_CT0 h L.length k (cap - (k + 1)) (k + 1) hk rfl hkl (show _ = _ by omega) (show _ = _ by omega) rfl (by omega) (fun _ => hdk) (List.length_eq_zero_iff.1 h0)
        · have h1 : (L.drop (k + 1)).length = 1 := by omega
          have ha := agB_one h1 h0
          cases hd : ((L.drop (k + 1))[0]).del with
          | true => exact keep_CT2 h L.length k (cap - (k + 1)) (k + 1) hk rfl hkl (show _ = _ by omega) (show _ = _ by omega) rfl (by omega) (fun _ => hdk) h1 (fun _ => hd) (ha.trans hd)
          | false => exact keep_CT3 h L.length k (cap - (k + 1)) (k + 1) hk rfl hkl (show _ = _ by omega) (show _ = _ by omega) rfl (by omega) (fun _ => hdk) h1 (fun _ => hd) (ha.trans hd)
end Go.Proofs.Ybulkdusa
