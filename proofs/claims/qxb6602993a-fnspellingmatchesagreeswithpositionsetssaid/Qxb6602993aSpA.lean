/-
  THE WALKS OF strings.CutPrefix, hasAt, matches.
-/
import Derived.Test.Qxb6602993aColA
import Derived.Test.Qxb6602993aSpP
import Derived.Lib.Strings
import Derived.Laws.BitsLemmas
namespace Go.Proofs.Qxb6602993a.Sp
open Go.RowKit

theorem len_toList (s : ByteArray) : s.toList.length = s.size := by
  rw [Lib.toList_data]; exact Array.length_toList

theorem pre_iff (s p : ByteArray) : ((s.extract 0 p.size).toList == p.toList) = p.toList.isPrefixOf s.toList := by
  rw [Lib.extract_toList, List.drop_zero, ← Lib.toList_data, Nat.sub_zero, ← len_toList p]
  rw [Bool.eq_iff_iff, beq_iff_eq, List.isPrefixOf_iff_prefix, List.prefix_iff_eq_take]
  exact eq_comm
theorem pre_no (s p : ByteArray) (h : ¬ p.size ≤ s.size) : p.toList.isPrefixOf s.toList = false := by
  rw [Bool.eq_false_iff]
  intro hh
  have := (List.isPrefixOf_iff_prefix.1 hh).length_le
  rw [len_toList, len_toList] at this
  exact h this
theorem rest_toList (s : ByteArray) (n : Nat) : (s.extract n s.size).toList = s.toList.drop n := by
  rw [Lib.extract_toList, ← Lib.toList_data, ← len_toList]
  rw [List.take_of_length_le (by simp)]

/-- CutPrefix: what is left, and whether it was there. -/
def cutS (s p : ByteArray) : ByteArray := if p.toList.isPrefixOf s.toList then s.extract p.size s.size else s

set_option maxHeartbeats 1000000 in
theorem cut_any (s p : ByteArray) (w : World) : Calls Try.prog 26 #[.string s, .string p] w fun e w' => e = .returned (.tuple #[.string (cutS s p), .bool (p.toList.isPrefixOf s.toList)]) ∧ w' = w := by
  by_cases h : p.size ≤ s.size
  · have e1 := pre_iff s p
    unfold cutS
    rw [← e1]
    cases hb : ((s.extract 0 p.size).toList == p.toList)
    · rw [if_neg (by decide)]
      clear e1
      go_enter Try.func26, Try.ntmps26
      go_wp2
      go_ret2
      exact ⟨rfl, rfl⟩
    · rw [if_pos rfl]
      clear e1
      go_enter Try.func26, Try.ntmps26
      go_wp2
      go_ret2
      exact ⟨rfl, rfl⟩
  · have e1 := pre_no s p h
    unfold cutS
    rw [e1, if_neg (by decide)]
    clear e1
    go_enter Try.func26, Try.ntmps26
    go_wp2
    go_ret2
    exact ⟨rfl, rfl⟩

theorem get_toList (s : ByteArray) (k : Nat) (h : k < s.size) : s.toList[k]? = some (s[k]'h) := by
  rw [Lib.toList_data, List.getElem?_eq_getElem (by rw [Array.length_toList]; exact h)]
  rfl

theorem byte_eq {x y : UInt8} (h : (x.toNat : Int) = (y.toNat : Int)) : x = y := UInt8.toNat_inj.1 (by omega)

/-- a stands at place p, as far as its first k bytes. -/
def upTo (s a : List UInt8) (p k : Nat) : Prop := ∀ i, i < k → s[p + i]? = a[i]?

theorem upTo_all {s a : List UInt8} {p : Nat} (h : upTo s a p a.length) : a.isPrefixOf (s.drop p) = true := by
  rw [List.isPrefixOf_iff_prefix, List.prefix_iff_eq_take]
  apply List.ext_getElem?
  intro i
  by_cases hi : i < a.length
  · rw [List.getElem?_take, if_pos hi, List.getElem?_drop, h i hi]
  · rw [List.getElem?_eq_none (by omega), List.getElem?_take, if_neg hi]
theorem upTo_not {s a : List UInt8} {p k : Nat} (hk : k < a.length) (h : s[p + k]? ≠ a[k]?) : a.isPrefixOf (s.drop p) = false := by
  rw [Bool.eq_false_iff]
  intro hh
  rw [List.isPrefixOf_iff_prefix, List.prefix_iff_eq_take] at hh
  apply h
  rw [hh, List.getElem?_take, if_pos hk, List.getElem?_drop]

/-- How a quiet function ends that answers v. -/
def QEnd (v : Bool) (w : World) (e : Ending) (w' : World) : Prop := e = .returned (.bool v) ∧ ∃ m, w' = w.drewN m

theorem drewE2 (w : World) (m n : Nat) : ∃ k, (w.drewN m).drewN n = w.drewN k := ⟨m + n, by rw [World.drewN_drewN]⟩
theorem drewE (w : World) (m : Nat) : ∃ k, w.drewN m = w.drewN k := ⟨m, rfl⟩

set_option maxHeartbeats 1000000 in
theorem hasAt_any (s a : ByteArray) (p : Nat) (w : World) (hp : p ≤ s.size) (hs : s.size ≤ 1048576) (ha : a.size ≤ maxLen) :
    Calls Try.prog 24 #[.string s, .int .i64 p, .string a] w (QEnd (a.toList.isPrefixOf (s.toList.drop p)) w) := by
  unfold maxLen at ha
  obtain ⟨v, hv⟩ : ∃ v, a.toList.isPrefixOf (s.toList.drop p) = v := ⟨_, rfl⟩
  have HV : Hid (a.toList.isPrefixOf (s.toList.drop p) = v) := hv
  rw [hv]
  clear hv
  by_cases h : s.size - p < a.size
  · have HF : Hid (v = false) := by
      show _ = _
      rw [← HV.out, Bool.eq_false_iff]
      intro hh
      have := pre_len hh
      rw [len_toList, len_toList] at this
      omega
    go_enter Try.func24, Try.ntmps24
    go_wp2
    go_ret
    exact ⟨by rw [HF.out]; rfl, drewE w 0⟩
  · go_enter Try.func24, Try.ntmps24
    go_wp2
    go_loopg [7] (a.size + 1) (fun g i wr => ∃ k : Nat, k ≤ a.size ∧ g = a.size + 1 - k ∧ i = .int .i64 k ∧ Hid (upTo s.toList a.toList p k) ∧ ∃ m, wr = w.drewN m)
    case atStart => exact ⟨0, Nat.zero_le _, rfl, rfl, fun i hi => by omega, 0, rfl⟩
    case round =>
      obtain ⟨k, hk, hg, rfl, HU, m, rfl⟩ := hrel
      by_cases hlt : k < a.size
      · have h1 : (k : Int) < (a.size : Int) := by omega
        obtain ⟨q, hq⟩ : ∃ q, p + k = q := ⟨_, rfl⟩
        have h2 : (q : Int) < (s.size : Int) := by omega
        have h2' : q < s.size := by omega
        have hw : IntKind.i64.wrap ((p : Int) + (k : Int)) = (q : Int) := by rw [IntKind.wrap_i64]; omega
        have HQ : Hid (p + k = q) := hq
        clear hq
        have HS : Hid (s.toList[p + k]? = some (s[q]'h2') ∧ a.toList[k]? = some (a[k]'hlt)) := ⟨by rw [HQ.out]; exact get_toList s q h2', get_toList a k hlt⟩
        by_cases hxy : ((s[q]'h2').toNat : Int) = ((a[k]'hlt).toNat : Int)
        · have hb : (((s[q]'h2').toNat : Int) != ((a[k]'hlt).toNat : Int)) = false := by rw [hxy]; simp
          have HN : Hid (upTo s.toList a.toList p (k + 1)) := by
            intro i hi
            by_cases hik : i < k
            · exact HU.out i hik
            · have : i = k := by omega
              subst this
              rw [HS.out.1, HS.out.2, byte_eq hxy]
          clear hxy
          go_wp2
          go_quiet (fail)
          go_wp2
          go_roundg (a.size + 1 - (k + 1))
          case measure => omega
          case rel => exact ⟨k + 1, by omega, rfl, by go_num, HN, m + nq, by first | rfl | rw [World.drewN_drewN]⟩
        · have hb : (((s[q]'h2').toNat : Int) != ((a[k]'hlt).toNat : Int)) = true := by simpa using fun h => hxy (by rw [h])
          have HF : Hid (v = false) := by
            show _ = _
            rw [← HV.out]
            refine upTo_not (k := k) (by rw [len_toList]; exact hlt) ?_
            rw [HS.out.1, HS.out.2]
            intro hh
            exact hxy (by rw [Option.some.inj hh])
          clear hxy
          go_wp2
          go_quiet (fail)
          go_wp2
          go_ret
          refine ⟨by rw [HF.out]; rfl, ?_⟩
          first | exact drewE2 _ _ _ | exact drewE _ _
      · have HF : Hid (v = true) := by
          show _ = _
          rw [← HV.out]
          refine upTo_all ?_
          rw [len_toList, show a.size = k by omega]; exact HU.out
        go_wp2
        go_ret
        exact ⟨by rw [HF.out]; rfl, drewE _ _⟩
end Go.Proofs.Qxb6602993a.Sp
