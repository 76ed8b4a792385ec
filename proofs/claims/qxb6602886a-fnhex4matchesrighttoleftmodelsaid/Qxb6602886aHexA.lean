/-
  THE WALKS OF hexSpell, hex4 AND ZZHex4.
-/
import Derived.Test.Qxb6602886aRows
import Derived.Test.Qxb6602886aHexP
import Derived.WalkLawsBesides
import Derived.WalkSpells
import Derived.ProofKit
namespace Go.Proofs.Qxb6602886a
open Go.RowKit

def hexSp (d : Int) (u : Bool) : Int := if d < 10 then 48 + d else if u then 55 + d else 87 + d

theorem ret_int {k : IntKind} {a b : Int} (h : a = b) : Ending.returned (.int k a) = .returned (.int k b) := by rw [h]

set_option maxHeartbeats 400000 in
theorem hexSpell_any (d : Int) (u : Bool) (w : World) (h0 : 0 ≤ d) (h1 : d ≤ 15) :
    Calls Try.prog 13 #[.int .u8 d, .bool u] w fun e w' => e = .returned (.int .u8 (hexSp d u)) ∧ w' = w := by
  by_cases h : d < 10
  · have e : hexSp d u = 48 + d := by unfold hexSp; rw [if_pos h]
    rw [e]; clear e
    go_enter Try.func13, Try.ntmps13
    go_wp2
    go_ret
    exact ⟨rfl, rfl⟩
  · cases u
    · have e : hexSp d false = 87 + d := by unfold hexSp; rw [if_neg h]; rfl
      rw [e]; clear e
      go_enter Try.func13, Try.ntmps13
      go_wp2
      go_ret
      exact ⟨ret_int (by omega), rfl⟩
    · have e : hexSp d true = 55 + d := by unfold hexSp; rw [if_neg h]; rfl
      rw [e]; clear e
      go_enter Try.func13, Try.ntmps13
      go_wp2
      go_ret
      exact ⟨ret_int (by omega), rfl⟩

set_option maxHeartbeats 1000000 in
theorem hex4_any (b off len cap : Nat) (zs : List Int) (w : World) (hl : len ≤ 1048576) (hz : zs.length = len) (hc : ∀ k, k < len → w.cell? ⟨b, off + k, none⟩ = some (.int .u8 (zs.getD k 0))) (hr : ∀ k, 0 ≤ zs.getD k 0 ∧ zs.getD k 0 ≤ 255) :
    Calls Try.prog 22 #[.slice (some ⟨b, off, none⟩) len cap] w fun e w' => e = hexEnd (hexFrom 0 zs) ∧ w' = w := by
  go_enter Try.func22, Try.ntmps22
  go_wp2
  go_loop [9, 4] (fun i u => ∃ k : Nat, k ≤ len ∧ i = .int .i64 k ∧ ∃ v : Int, u = .int .i32 v ∧ Hid (hexFrom 0 zs = hexFrom v (zs.drop k))) (fun i _ => len - (intOf i).toNat)
  case atStart => exact ⟨0, Nat.zero_le _, rfl, 0, rfl, rfl⟩
  case round =>
    obtain ⟨k, hk, rfl, v, rfl, H⟩ := hrel
    have hck := hc k
    have hrk := hr k
    clear hc hr
    by_cases hlt : k < len
    · replace hck := hck hlt
      have hkz : k < zs.length := by omega
      have hgd : zs.getD k 0 = zs[k] := by simp [List.getD, hkz]
      obtain ⟨c, hcc⟩ : ∃ c, zs[k] = c := ⟨_, rfl⟩
      rw [hgd, hcc] at hck hrk
      have Hs := fun d => @hexFrom_some v d zs k c hkz hcc
      have Hn := @hexFrom_none v zs k c hkz hcc
      have HS : Hid (∀ d, hexv c = some d → hexFrom v (zs.drop k) = hexFrom (wrap32 (v * 16 + d)) (zs.drop (k + 1))) := Hs
      have HN : Hid (hexv c = none → hexFrom v (zs.drop k) = none) := Hn
      clear Hs Hn hgd hcc hkz
      rcases (show (48 ≤ c ∧ c ≤ 57) ∨ (97 ≤ c ∧ c ≤ 102) ∨ (65 ≤ c ∧ c ≤ 70) ∨ (¬ (48 ≤ c ∧ c ≤ 57) ∧ ¬ (97 ≤ c ∧ c ≤ 102) ∧ ¬ (65 ≤ c ∧ c ≤ 70)) by omega) with ⟨g, g'⟩ | ⟨g, g'⟩ | ⟨g, g'⟩ | ⟨g1, g2, g3⟩
      · go_wp2
        go_round
        case rel => exact ⟨k + 1, by omega, by go_num, _, rfl, (by rw [H.out, or_step _ _ (by omega) (by omega)]; exact HS.out _ (hexv_dec g g'))⟩
        case measure => simp [intOf]; omega
      · go_wp2
        go_round
        case rel => exact ⟨k + 1, by omega, by go_num, _, rfl, (by rw [H.out, or_step _ _ (by omega) (by omega)]; exact HS.out _ (hexv_low g g'))⟩
        case measure => simp [intOf]; omega
      · go_wp2
        go_round
        case rel => exact ⟨k + 1, by omega, by go_num, _, rfl, (by rw [H.out, or_step _ _ (by omega) (by omega)]; exact HS.out _ (hexv_upp g g'))⟩
        case measure => simp [intOf]; omega
      · have HH : Hid (hexFrom 0 zs = none) := by rw [H.out]; exact HN.out (hexv_no g1 g2 g3)
        go_wp2
        all_goals
          go_ret2
          exact ⟨by rw [HH.out]; rfl, rfl⟩
    · have HH : Hid (hexFrom 0 zs = some v) := by rw [H.out, List.drop_of_length_le (by omega)]; rfl
      go_wp2
      go_ret2
      exact ⟨by rw [HH.out]; rfl, rfl⟩

set_option maxHeartbeats 400000 in
theorem zzhex4_any (b off len cap : Nat) (zs : List Int) (w : World) (hl : len ≤ 1048576) (hz : zs.length = len) (hc : ∀ k, k < len → w.cell? ⟨b, off + k, none⟩ = some (.int .u8 (zs.getD k 0))) (hr : ∀ k, 0 ≤ zs.getD k 0 ∧ zs.getD k 0 ≤ 255) :
    Calls Try.prog 12 #[.slice (some ⟨b, off, none⟩) len cap] w fun e w' => e = hexEnd (hexFrom 0 zs) ∧ w' = w := by
  have H : Hid (Calls Try.prog 22 #[.slice (some ⟨b, off, none⟩) len cap] w fun e w' => e = hexEnd (hexFrom 0 zs) ∧ w' = w) := hex4_any b off len cap zs w hl hz hc hr
  clear hc hr hz hl
  cases h : hexFrom 0 zs with
  | none =>
    rw [h] at H; clear h
    have H2 : Hid (Calls Try.prog 22 #[.slice (some ⟨b, off, none⟩) len cap] w fun e w' => e = .returned (.tuple #[.int .i32 0, .bool false]) ∧ w' = w) := H
    clear H
    show Calls Try.prog 12 #[.slice (some ⟨b, off, none⟩) len cap] w fun e w' => e = .returned (.tuple #[.int .i32 0, .bool false]) ∧ w' = w
    go_enter Try.func12, Try.ntmps12
    go_wp2_with (go_at_call 22; refine H2.out.mono ?_; rintro e w' ⟨rfl, rfl⟩)
    go_ret2
    exact ⟨rfl, rfl⟩
  | some u =>
    rw [h] at H; clear h
    have H2 : Hid (Calls Try.prog 22 #[.slice (some ⟨b, off, none⟩) len cap] w fun e w' => e = .returned (.tuple #[.int .i32 u, .bool true]) ∧ w' = w) := H
    clear H
    show Calls Try.prog 12 #[.slice (some ⟨b, off, none⟩) len cap] w fun e w' => e = .returned (.tuple #[.int .i32 u, .bool true]) ∧ w' = w
    go_enter Try.func12, Try.ntmps12
    go_wp2_with (go_at_call 22; refine H2.out.mono ?_; rintro e w' ⟨rfl, rfl⟩)
    go_ret2
    exact ⟨rfl, rfl⟩
end Go.Proofs.Qxb6602886a
