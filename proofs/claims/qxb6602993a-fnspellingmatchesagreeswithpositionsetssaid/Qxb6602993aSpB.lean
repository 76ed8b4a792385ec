/-
  THE WALK OF matches.
-/
import Derived.Test.Qxb6602993aColC
import Derived.Test.Qxb6602993aSpA
namespace Go.Proofs.Qxb6602993a.Sp
open Go.RowKit

/-- A cell that holds a part: a slice of strings. -/
def Part (w : World) (v : Value) (ss : List ByteArray) : Prop :=
  ∃ a c, v = .slice a ss.length c ∧ (a = none → ss = [] ∧ c = 0) ∧ ss.length ≤ c ∧ c ≤ maxLen ∧ (∀ s ∈ ss, s.size ≤ maxLen) ∧ Row w a ss

/-- A spelling in memory. -/
def Spell (w : World) (ao : Option Addr) (SS : List (List ByteArray)) : Prop :=
  SS = [] ∨ ∃ b off, ao = some ⟨b, off, none⟩ ∧ ∀ j, j < SS.length → ∃ v, w.cell? ⟨b, off + j, none⟩ = some v ∧ Part w v (SS.getD j [])

/-- Its bytes. -/
def bss (SS : List (List ByteArray)) : List (List (List UInt8)) := SS.map bs

theorem spell_at {w : World} {ao : Option Addr} {SS : List (List ByteArray)} (h : Spell w ao SS) {k : Nat} (hk : k < SS.length) :
    ∃ b off a c ss, ao = some ⟨b, off, none⟩ ∧ SS.getD k [] = ss ∧ w.cell? ⟨b, off + k, none⟩ = some (.slice a ss.length c) ∧ (a = none → ss = [] ∧ c = 0) ∧ ss.length ≤ c ∧ c ≤ maxLen ∧ (∀ s ∈ ss, s.size ≤ maxLen) ∧ Row w a ss := by
  rcases h with hh | ⟨b, off, rfl, hc⟩
  · rw [hh] at hk; simp at hk
  · obtain ⟨v, hv, a, c, rfl, h1, h2, h3, h4, h5⟩ := hc k hk
    exact ⟨b, off, a, c, _, rfl, rfl, hv, h1, h2, h3, h4, h5⟩

theorem Spell.tail {w : World} {b off n c : Nat} {P : List ByteArray} {R : List (List ByteArray)} (h : Spell w (some ⟨b, off, none⟩) (P :: R)) (hn : R.length + 1 = n) (hc : n ≤ c) :
    Spell w (if c = 1 then some ⟨b, off, none⟩ else some ⟨b, off + 1, none⟩) R := by
  by_cases e : c = 1
  · exact .inl (List.eq_nil_of_length_eq_zero (by omega))
  · rw [if_neg e]
    rcases h with hh | ⟨b', off', e', hcc⟩
    · cases hh
    · obtain ⟨rfl, rfl⟩ : b = b' ∧ off = off' := by simpa using e'
      refine .inr ⟨b, off + 1, rfl, fun j hj => ?_⟩
      obtain ⟨v, hv, hp⟩ := hcc (j + 1) (by simp; omega)
      refine ⟨v, ?_, by simpa using hp⟩
      rw [← hv]; congr 2; omega

theorem any_hit {P : List (List UInt8)} {f : List UInt8 → Bool} {k : Nat} (hk : k < P.length) (h : f (P.getD k []) = true) : P.any f = true := by
  rw [List.any_eq_true]
  refine ⟨P[k], List.getElem_mem hk, ?_⟩
  simpa [List.getD, hk] using h
theorem any_none {P : List (List UInt8)} {f : List UInt8 → Bool} (h : ∀ i, i < P.length → f (P.getD i []) = false) : P.any f = false := by
  rw [List.any_eq_false]
  intro x hx
  obtain ⟨i, hi, rfl⟩ := List.getElem_of_mem hx
  have := h i hi
  simpa [List.getD, hi] using this

theorem ret_bool' {a b : Bool} (h : a = b) : Ending.returned (.bool a) = .returned (.bool b) := by rw [h]

set_option maxRecDepth 100000 in
set_option maxHeartbeats 1000000 in
theorem matches_any (SS : List (List ByteArray)) : ∀ (ao : Option Addr) (c : Nat) (s : ByteArray) (w : World), SS.length ≤ c → SS.length ≤ 256 → s.size ≤ maxLen → Spell w ao SS →
    Calls Try.prog 23 #[.slice ao SS.length c, .string s] w fun e w' => e = .returned (.bool (mB (bss SS) s.toList)) ∧ w' = w := by
  induction SS with
  | nil =>
    intro ao c s w hc hl hs hsp
    clear hsp
    show Calls Try.prog 23 #[.slice ao 0 c, .string s] w fun e w' => e = .returned (.bool s.toList.isEmpty) ∧ w' = w
    go_enter Try.func23, Try.ntmps23
    go_wp2
    go_ret
    exact ⟨ret_bool' (by simp), rfl⟩
  | cons P R ih =>
    intro ao c s w hc hl hs hsp
    obtain ⟨b, off, a, c1, ss, rfl, hss, hcell, hnone, hssc, hcm, hsz, hrow⟩ := spell_at hsp (k := 0) (by simp)
    obtain rfl : P = ss := by simpa using hss
    have hsp' := hsp.tail (n := R.length + 1) rfl (by simpa using hc)
    rw [Nat.add_zero] at hcell
    obtain ⟨n, hn⟩ : ∃ n, R.length = n := ⟨_, rfl⟩
    have HIH : Hid (∀ t : ByteArray, t.size ≤ maxLen → Calls Try.prog 23 #[.slice (if c = 1 then some ⟨b, off, none⟩ else some ⟨b, off + 1, none⟩) n (c - 1), .string t] w fun e w' => e = .returned (.bool (mB (bss R) t.toList)) ∧ w' = w) :=
      fun t ht => by
        have := ih (if c = 1 then some ⟨b, off, none⟩ else some ⟨b, off + 1, none⟩) (c - 1) t w (by simp at hc; omega) (by simp at hl; omega) ht hsp'
        rw [hn] at this; exact this
    have HR : Hid (Row w a P) := hrow
    have HZ : Hid (∀ s ∈ P, s.size ≤ maxLen) := hsz
    obtain ⟨mm, hmm⟩ : ∃ m, mB (bss (P :: R)) s.toList = m := ⟨_, rfl⟩
    have HM : Hid (mm = (bs P).any fun a => a.isPrefixOf s.toList && mB (bss R) (s.toList.drop a.length)) := hmm.symm
    rw [hmm]
    have hlen : (P :: R).length = n + 1 := by simp [hn]
    rw [hlen] at hc hl ⊢
    obtain ⟨np, hnp⟩ : ∃ np, P.length = np := ⟨_, rfl⟩
    have HNP : Hid (P.length = np ∧ (bs P).length = np) := ⟨hnp, by rw [bs_len]; exact hnp⟩
    rw [hnp] at hcell
    unfold maxLen at hs
    have hnpl : np ≤ 9223372036854775807 := by unfold maxLen at hcm; omega
    have hn1 : ((n : Int) + 1 == 0) = false := by simp; omega
    clear hmm hss hsp hsp' hrow hsz ih hn hlen hnp hnone hssc hcm
    go_enter Try.func23, Try.ntmps23
    go_wp2
    go_loopg [6, 7, 8, 18] (np + 1) (fun g _ _ _ i wr => ∃ k : Nat, k ≤ np ∧ g = np + 1 - k ∧ i = .int .i64 k ∧ Hid (∀ i, i < k → (((bs P).getD i []).isPrefixOf s.toList && mB (bss R) (s.toList.drop ((bs P).getD i []).length)) = false) ∧ wr = w)
    case atStart => exact ⟨0, Nat.zero_le _, rfl, rfl, fun i hi => by omega, rfl⟩
    case round =>
      obtain ⟨k, hk, hg, rfl, HA, rfl⟩ := hrel
      by_cases hlt : k < np
      · obtain ⟨b1, off1, y, rfl, hcy, hy⟩ := row_at HR.out (k := k) (by have := HNP.out; omega)
        have HY : Hid ((bs P).getD k [] = y.toList) := hy
        have HC : Hid (Calls Try.prog 26 #[.string s, .string y] wr fun e w' => e = .returned (.tuple #[.string (cutS s y), .bool (y.toList.isPrefixOf s.toList)]) ∧ w' = wr) := cut_any s y wr
        clear hy
        cases hb : y.toList.isPrefixOf s.toList with
        | false =>
          have HN : Hid (∀ i, i < k + 1 → (((bs P).getD i []).isPrefixOf s.toList && mB (bss R) (s.toList.drop ((bs P).getD i []).length)) = false) := by
            intro i hi
            by_cases hik : i < k
            · exact HA.out i hik
            · have : i = k := by omega
              subst this
              rw [HY.out, hb, Bool.false_and]
          rw [hb] at HC
          clear hb
          go_wp2_with (go_at_call 26; refine HC.out.mono ?_; rintro e w' ⟨rfl, rfl⟩)
          go_roundg (np + 1 - (k + 1))
          case measure => omega
          case rel => exact ⟨k + 1, by omega, rfl, by go_num, HN, rfl⟩
        | true =>
          have hcs : cutS s y = s.extract y.size s.size := by unfold cutS; rw [if_pos hb]
          have HT : Hid ((s.extract y.size s.size).toList = s.toList.drop y.toList.length) := by show _ = _; rw [rest_toList, len_toList]
          have HI := HIH.out (s.extract y.size s.size) (by simp; unfold maxLen; omega)
          rw [HT.out] at HI
          obtain ⟨vv, hvv⟩ : ∃ vv, mB (bss R) (s.toList.drop y.toList.length) = vv := ⟨_, rfl⟩
          have HVV : Hid (mB (bss R) (s.toList.drop y.toList.length) = vv) := hvv
          rw [hvv] at HI
          have HI2 : Hid (Calls Try.prog 23 #[.slice (if c = 1 then some ⟨b, off, none⟩ else some ⟨b, off + 1, none⟩) n (c - 1), .string (s.extract y.size s.size)] wr fun e w' => e = .returned (.bool vv) ∧ w' = wr) := HI
          have HB : Hid (y.toList.isPrefixOf s.toList = true) := hb
          rw [hb, hcs] at HC
          clear hb hcs HI hvv HIH
          by_cases hc1 : c = 1
          · subst hc1
            rw [if_pos rfl, Nat.sub_self] at HI2
            obtain rfl : n = 0 := by omega
            clear hn1
            cases vv with
            | true =>
              have HF : Hid (mm = true) := by
                show _ = _
                rw [HM.out]
                exact any_hit (k := k) (by rw [HNP.out.2]; exact hlt) (by rw [HY.out, HB.out, HVV.out]; rfl)
              go_wp2_with (first | (go_at_call 26; refine HC.out.mono ?_; rintro e w' ⟨rfl, rfl⟩) | (go_at_call 23; refine HI2.out.mono ?_; rintro e w' ⟨rfl, rfl⟩))
              go_ret
              exact ⟨ret_bool' HF.out.symm, rfl⟩
            | false =>
              have HN : Hid (∀ i, i < k + 1 → (((bs P).getD i []).isPrefixOf s.toList && mB (bss R) (s.toList.drop ((bs P).getD i []).length)) = false) := by
                intro i hi
                by_cases hik : i < k
                · exact HA.out i hik
                · have : i = k := by omega
                  subst this
                  rw [HY.out, HVV.out, Bool.and_false]
              go_wp2_with (first | (go_at_call 26; refine HC.out.mono ?_; rintro e w' ⟨rfl, rfl⟩) | (go_at_call 23; refine HI2.out.mono ?_; rintro e w' ⟨rfl, rfl⟩))
              go_roundg (np + 1 - (k + 1))
              case measure => omega
              case rel => exact ⟨k + 1, by omega, rfl, by go_num, HN, rfl⟩
          · rw [if_neg hc1] at HI2
            cases vv with
            | true =>
              have HF : Hid (mm = true) := by
                show _ = _
                rw [HM.out]
                exact any_hit (k := k) (by rw [HNP.out.2]; exact hlt) (by rw [HY.out, HB.out, HVV.out]; rfl)
              go_wp2_with (first | (go_at_call 26; refine HC.out.mono ?_; rintro e w' ⟨rfl, rfl⟩) | (go_at_call 23; refine HI2.out.mono ?_; rintro e w' ⟨rfl, rfl⟩))
              go_ret
              exact ⟨ret_bool' HF.out.symm, rfl⟩
            | false =>
              have HN : Hid (∀ i, i < k + 1 → (((bs P).getD i []).isPrefixOf s.toList && mB (bss R) (s.toList.drop ((bs P).getD i []).length)) = false) := by
                intro i hi
                by_cases hik : i < k
                · exact HA.out i hik
                · have : i = k := by omega
                  subst this
                  rw [HY.out, HVV.out, Bool.and_false]
              go_wp2_with (first | (go_at_call 26; refine HC.out.mono ?_; rintro e w' ⟨rfl, rfl⟩) | (go_at_call 23; refine HI2.out.mono ?_; rintro e w' ⟨rfl, rfl⟩))
              go_roundg (np + 1 - (k + 1))
              case measure => omega
              case rel => exact ⟨k + 1, by omega, rfl, by go_num, HN, rfl⟩
      · have HF : Hid (mm = false) := by
          show _ = _
          rw [HM.out]
          exact any_none (fun i hi => HA.out i (by rw [HNP.out.2] at hi; omega))
        go_wp2
        go_ret
        exact ⟨ret_bool' HF.out.symm, rfl⟩
end Go.Proofs.Qxb6602993a.Sp
