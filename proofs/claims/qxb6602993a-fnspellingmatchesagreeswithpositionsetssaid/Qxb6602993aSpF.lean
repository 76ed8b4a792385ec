/-
  THE WALK OF THE LAW FnSpellingMatchesAgreesWithPositionSets.
-/
import Derived.Test.Qxb6602993aSpE
namespace Go.Proofs.Qxb6602993a.Sp
open Go.RowKit
set_option linter.unusedVariables false

theorem zzmatch_any (SS : List (List ByteArray)) (ao : Option Addr) (n c : Nat) (s : ByteArray) (w : World) (hn : SS.length = n) (hc : n ≤ c) (hl : n ≤ 256) (hs : s.size ≤ maxLen) (hsp : Spell w ao SS) :
    Calls Try.prog 13 #[.slice ao n c, .string s] w fun e w' => e = .returned (.bool (mB (bss SS) s.toList)) ∧ w = w' := by
  subst hn
  have H : Hid (Calls Try.prog 23 #[.slice ao SS.length c, .string s] w fun e w' => e = .returned (.bool (mB (bss SS) s.toList)) ∧ w = w') := (matches_any SS ao c s w hc hl hs hsp).mono fun _ _ h => ⟨h.1, h.2.symm⟩
  obtain ⟨v, hv⟩ : ∃ v, mB (bss SS) s.toList = v := ⟨_, rfl⟩
  rw [hv] at H ⊢
  clear hv hsp hs
  go_enter Try.func13, Try.ntmps13
  go_wp2_with (go_at_call 23; refine H.out.mono ?_; rintro e w' ⟨rfl, rfl⟩)
  go_ret
  exact ⟨rfl, rfl⟩

set_option maxRecDepth 100000 in
set_option maxHeartbeats 2000000 in
theorem walk (SS : List (List ByteArray)) (ao : Option Addr) (n c : Nat) (s : ByteArray) (w : World) (hn : SS.length = n) (hm : n ≤ maxLen) (hs : s.size ≤ maxLen) (hnone : ao = none → n = 0 ∧ c = 0) (hsp : Spell w ao SS) :
    Calls Try.prog 5 #[.slice ao n c, .string s] w fun e w' => e = .returned (.bool true) ∧ Below w.heap.size w w' := by
  have HG : Hid (Calls Try.prog 10 #[.slice ao n c, .string s] w (GEnd w)) := sbytes_any SS ao n c s w hn hm hsp
  have HB : Hid (n ≤ 256 → s.size ≤ 1048576 → Calls Try.prog 11 #[.slice ao n c, .string s] w (BEnd SS w)) := fun h1 h2 => sbig_any SS ao n c s w hn h1 h2 hsp
  have HC : Hid (n ≤ 256 → (∀ ss ∈ SS, ss.length ≤ 65536) → Calls Try.prog 12 #[.slice ao n c] w (CSEnd SS w)) := fun h1 h2 => by
    cases ao with
    | none =>
      obtain ⟨rfl, rfl⟩ := hnone rfl
      obtain rfl : SS = [] := List.eq_nil_of_length_eq_zero hn
      exact spell_nil w
    | some x => exact spell_clone SS x n c w hn h1 h2 hsp
  have HN : Hid (SS.length = n) := hn
  clear hsp hn hnone
  unfold maxLen at hm hs
  by_cases h1 : 256 < n
  · go_enter Try.func5, Try.ntmps5
    go_wp2_with fail
    refine HG.out.mono ?_
    rintro e w1 ⟨⟨v, rfl⟩, rfl⟩
    cases v <;> (go_wp2; go_ret; exact ⟨rfl, Below.refl _ _⟩)
  by_cases h2 : 1048576 < s.size
  · go_enter Try.func5, Try.ntmps5
    go_wp2_with fail
    refine HG.out.mono ?_
    rintro e w1 ⟨⟨v, rfl⟩, rfl⟩
    cases v <;> (go_wp2; go_ret; exact ⟨rfl, Below.refl _ _⟩)
  go_enter Try.func5, Try.ntmps5
  go_wp2_with fail
  refine HG.out.mono ?_
  rintro e w1 ⟨⟨v, rfl⟩, rfl⟩
  cases v
  · go_wp2
    go_ret
    exact ⟨rfl, Below.refl _ _⟩
  go_wp2_with fail
  refine (HB.out (by omega) (by omega)).mono ?_
  rintro e w1 ⟨⟨v, rfl, hv⟩, rfl⟩
  cases v
  rotate_left
  · clear hv
    go_wp2
    go_ret
    exact ⟨rfl, Below.refl _ _⟩
  have HLen : Hid (∀ ss ∈ SS, ss.length ≤ 65536) := hv rfl
  clear hv HB HG
  go_wp2_with fail
  refine (HC.out (by omega) HLen.out).mono ?_
  rintro e w1 ⟨bo, rfl, hsp1, hb1⟩
  rw [HN.out]
  have HZ : Hid (Calls Try.prog 13 #[.slice bo n n, .string s] w1 fun e w' => e = .returned (.bool (mB (bss SS) s.toList)) ∧ w1 = w') := zzmatch_any SS bo n n s w1 HN.out (Nat.le_refl _) (by omega) (by unfold maxLen; omega) hsp1
  have HM : Hid (Calls Try.prog 14 #[.slice bo n n, .string s] w1 (ModEnd s.toList (bss SS) w1)) := by
    have := model_any SS bo n s w1 (by have := HN.out; omega) (by omega) hsp1
    rw [HN.out] at this; exact this
  have HB1 : Hid (Below w.heap.size w w1) := hb1
  obtain ⟨mm, hmm⟩ : ∃ m, mB (bss SS) s.toList = m := ⟨_, rfl⟩
  have HMM : Hid (mB (bss SS) s.toList = mm) := hmm
  rw [hmm] at HZ
  clear hmm hsp1 hb1 HC
  go_wp2_with fail
  refine HZ.out.mono ?_
  rintro e w2 ⟨rfl, rfl⟩
  go_wp2_with fail
  refine HM.out.mono ?_
  rintro e w3 ⟨v, rfl, hv, hb3⟩
  obtain rfl : mm = v := by
    have h := agree s.toList (bss SS)
    rw [HMM.out] at h
    rw [Bool.eq_iff_iff]
    exact h.trans hv.symm
  have HB3 : Hid (Below w.heap.size w w3) := HB1.out.trans (hb3.mono HB1.out.size)
  clear hv hb3 HM HZ
  have hee : (mm == mm) = true := by simp
  go_wp2
  go_ret
  exact ⟨by simp, HB3.out⟩
end Go.Proofs.Qxb6602993a.Sp
