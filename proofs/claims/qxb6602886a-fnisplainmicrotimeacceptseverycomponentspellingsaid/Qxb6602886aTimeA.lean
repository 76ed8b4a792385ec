/-
  THE WALKS OF isPlainMicroTime, ZZIsPlainMicroTime AND appendPadded.
-/
import Derived.Test.Qxb6602886aRows
import Derived.WalkKit
import Derived.WalkLawsBesides
import Derived.WalkSpells
import Derived.ProofKit
namespace Go.Proofs.Qxb6602886a
open Go.RowKit

abbrev plainB : ByteArray := { data := #[50, 48, 48, 54, 45, 48, 49, 45, 48, 50, 84, 49, 53, 58, 48, 52, 58, 48, 53, 46, 48, 48, 48, 48, 48, 48, 90] }

/-- What stands at place k of an accepted string, beside what the pattern has there. -/
def okAt (p c : Nat) : Prop := if 48 ≤ p ∧ p ≤ 57 then 48 ≤ c ∧ c ≤ 57 else c = p

set_option maxHeartbeats 400000 in
theorem plain_any (s : ByteArray) (w : World) (hs : s.size = 27) (hok : ∀ k (h : k < 27), okAt (plainB[k]'h).toNat (s[k]'(by omega)).toNat) :
    Calls Try.prog 23 #[.string s] w fun e w' => e = .returned (.bool true) ∧ w' = w := by
  have HK : Hid (∀ k (h : k < 27), okAt (plainB[k]'h).toNat (s[k]'(by omega)).toNat) := hok
  clear hok
  go_enter Try.func23, Try.ntmps23
  go_wp2
  go_loop [8] (fun i => ∃ k : Nat, k ≤ 27 ∧ i = .int .i64 k) (fun i => 27 - (intOf i).toNat)
  case atStart => exact ⟨0, Nat.zero_le _, rfl⟩
  case round =>
    obtain ⟨k, hk, rfl⟩ := hrel
    by_cases hlt : k < 27
    · have h := HK.out k hlt
      unfold okAt at h
      by_cases hd : 48 ≤ (plainB[k]'hlt).toNat ∧ (plainB[k]'hlt).toNat ≤ 57
      · rw [if_pos hd] at h
        have h1 : (48 : Int) ≤ ((plainB[k]'hlt).toNat : Int) := by omega
        have h2 : ((plainB[k]'hlt).toNat : Int) ≤ 57 := by omega
        have h3 : (48 : Int) ≤ ((s[k]'(by omega)).toNat : Int) := by omega
        have h4 : ((s[k]'(by omega)).toNat : Int) ≤ 57 := by omega
        clear h hd
        unfold plainB at h1 h2
        go_wp2
        go_round
        case rel => exact ⟨k + 1, by omega, by go_num⟩
        case measure => simp [intOf]; omega
      · rw [if_neg hd] at h
        have h5 : (((s[k]'(by omega)).toNat : Int) != ((plainB[k]'hlt).toNat : Int)) = false := by rw [h]; simp
        by_cases hl : (plainB[k]'hlt).toNat < 48
        · have h1 : ((plainB[k]'hlt).toNat : Int) < 48 := by omega
          clear h hd hl
          unfold plainB at h1 h5
          go_wp2
          go_round
          case rel => exact ⟨k + 1, by omega, by go_num⟩
          case measure => simp [intOf]; omega
        · have h1 : (48 : Int) ≤ ((plainB[k]'hlt).toNat : Int) := by omega
          have h2 : (57 : Int) < ((plainB[k]'hlt).toNat : Int) := by omega
          clear h hd hl
          unfold plainB at h1 h2 h5
          go_wp2
          go_round
          case rel => exact ⟨k + 1, by omega, by go_num⟩
          case measure => simp [intOf]; omega
    · go_wp2
      go_ret
      exact ⟨rfl, rfl⟩

theorem zzplain_any (s : ByteArray) (w : World) (hs : s.size = 27) (hok : ∀ k (h : k < 27), okAt (plainB[k]'h).toNat (s[k]'(by omega)).toNat) :
    Calls Try.prog 15 #[.string s] w fun e w' => e = .returned (.bool true) ∧ w' = w := by
  have H : Hid (Calls Try.prog 23 #[.string s] w fun e w' => e = .returned (.bool true) ∧ w' = w) := plain_any s w hs hok
  clear hs hok
  go_enter Try.func15, Try.ntmps15
  go_wp2_with (go_at_call 23; refine H.out.mono ?_; rintro e w' ⟨rfl, rfl⟩)
  go_ret
  exact ⟨rfl, rfl⟩

theorem Try.info5 : (Try.prog.info? 5).map (fun i => (i.zero, i.size, i.bytes)) = some (some (.int .u8 0), 1, 1) := by kernel_rfl

theorem own_base {w : World} {B g k cap : Nat} {xs : List Value} (h : w.ownsRow B 5 1 (.slice (some ⟨g, 0, none⟩) k cap) k xs) : B ≤ g := by
  obtain ⟨_, h | ⟨g', c', cur, e, hb, _⟩⟩ := h
  · cases h.1
  · simp at e; omega

set_option maxHeartbeats 1000000 in
theorem pad2_any (B g k cap : Nat) (xs : List Value) (v : Int) (w : World) (h0 : 0 ≤ v) (h1 : v ≤ 4294967295) (hown : w.ownsRow B 5 1 (.slice (some ⟨g, 0, none⟩) k cap) k xs) (hfit : k + 2 ≤ cap) (hB : B ≤ w.heap.size) :
    Calls Try.prog 14 #[.slice (some ⟨g, 0, none⟩) k cap, .int .u32 v, .int .i64 2] w fun e w' => e = .returned (.slice (some ⟨g, 0, none⟩) (k + 2) cap) ∧
      w'.ownsRow B 5 1 (.slice (some ⟨g, 0, none⟩) (k + 2) cap) (k + 2) (xs ++ [.int .u8 (48 + v / 10 % 10), .int .u8 (48 + v % 10)]) ∧ Below B w w' := by
  obtain ⟨i0, hi, hz0, hz1, hz2⟩ := info_parts Try.info5
  have HO : Hid (w.ownsRow B 5 1 (.slice (some ⟨g, 0, none⟩) k cap) k xs) := hown
  clear hown
  go_enter Try.func14, Try.ntmps14
  go_wp2
  refine wp_loop_rounds 3 ?_
  rw [rounds_succ]
  go_wp2
  rw [rounds_succ]
  go_wp2
  rw [rounds_succ]
  go_wp2_with (at_builtin; refine wpList_append_fits _ rfl (.tmp 23) (.tmp 25) 22 rfl B 5 i0 1 Try.underlying22 hi hz1 g k cap xs rfl (HO.out.alloc _) ⟨w.heap.size, 0, none⟩ 2 6 [.int .u8 (48 + v / 10 % 10), .int .u8 (48 + v % 10)] rfl rfl ?c1 ?c2 hfit ?_)
  case c1 =>
    intro j u hj
    match j, hj with
    | 0, hj => simp at hj; subst hj; simp [Addr.add]
    | 1, hj => simp at hj; subst hj; simp [Addr.add]
  case c2 => intro u hu; simp at hu; rcases hu with rfl | rfl <;> rfl
  intro w1 hown1 hgrow
  have R : Hid (w1.ownsRow B 5 1 (.slice (some ⟨g, 0, none⟩) (k + 2) cap) (k + 2) (xs ++ [.int .u8 (48 + v / 10 % 10), .int .u8 (48 + v % 10)]) ∧ Below B w w1) :=
    ⟨hown1, ((Below.refl B w).alloc hB _).grown hgrow (by simp; omega) (by rintro q ⟨⟩; exact own_base HO.out)⟩
  clear hown1 hgrow
  go_wp2
  go_ret
  exact ⟨rfl, R.out.1, R.out.2⟩

set_option maxHeartbeats 1000000 in
theorem pad4_any (B g k cap : Nat) (xs : List Value) (v : Int) (w : World) (h0 : 0 ≤ v) (h1 : v ≤ 4294967295) (hown : w.ownsRow B 5 1 (.slice (some ⟨g, 0, none⟩) k cap) k xs) (hfit : k + 4 ≤ cap) (hB : B ≤ w.heap.size) :
    Calls Try.prog 14 #[.slice (some ⟨g, 0, none⟩) k cap, .int .u32 v, .int .i64 4] w fun e w' => e = .returned (.slice (some ⟨g, 0, none⟩) (k + 4) cap) ∧
      w'.ownsRow B 5 1 (.slice (some ⟨g, 0, none⟩) (k + 4) cap) (k + 4) (xs ++ [.int .u8 (48 + v / 10 / 10 / 10 % 10), .int .u8 (48 + v / 10 / 10 % 10), .int .u8 (48 + v / 10 % 10), .int .u8 (48 + v % 10)]) ∧ Below B w w' := by
  obtain ⟨i0, hi, hz0, hz1, hz2⟩ := info_parts Try.info5
  have HO : Hid (w.ownsRow B 5 1 (.slice (some ⟨g, 0, none⟩) k cap) k xs) := hown
  clear hown
  go_enter Try.func14, Try.ntmps14
  go_wp2
  refine wp_loop_rounds 5 ?_
  rw [rounds_succ]
  go_wp2
  rw [rounds_succ]
  go_wp2
  rw [rounds_succ]
  go_wp2
  rw [rounds_succ]
  go_wp2
  rw [rounds_succ]
  go_wp2_with (at_builtin; refine wpList_append_fits _ rfl (.tmp 23) (.tmp 25) 22 rfl B 5 i0 1 Try.underlying22 hi hz1 g k cap xs rfl (HO.out.alloc _) ⟨w.heap.size, 0, none⟩ 4 6 [.int .u8 (48 + v / 10 / 10 / 10 % 10), .int .u8 (48 + v / 10 / 10 % 10), .int .u8 (48 + v / 10 % 10), .int .u8 (48 + v % 10)] rfl rfl ?c1 ?c2 hfit ?_)
  case c1 =>
    intro j u hj
    match j, hj with
    | 0, hj => simp at hj; subst hj; simp [Addr.add]
    | 1, hj => simp at hj; subst hj; simp [Addr.add]
    | 2, hj => simp at hj; subst hj; simp [Addr.add]
    | 3, hj => simp at hj; subst hj; simp [Addr.add]
  case c2 => intro u hu; simp at hu; rcases hu with rfl | rfl | rfl | rfl <;> rfl
  intro w1 hown1 hgrow
  have R : Hid (w1.ownsRow B 5 1 (.slice (some ⟨g, 0, none⟩) (k + 4) cap) (k + 4) (xs ++ [.int .u8 (48 + v / 10 / 10 / 10 % 10), .int .u8 (48 + v / 10 / 10 % 10), .int .u8 (48 + v / 10 % 10), .int .u8 (48 + v % 10)]) ∧ Below B w w1) :=
    ⟨hown1, ((Below.refl B w).alloc hB _).grown hgrow (by simp; omega) (by rintro q ⟨⟩; exact own_base HO.out)⟩
  clear hown1 hgrow
  go_wp2
  go_ret
  exact ⟨rfl, R.out.1, R.out.2⟩

set_option maxHeartbeats 1000000 in
theorem pad6_any (B g k cap : Nat) (xs : List Value) (v : Int) (w : World) (h0 : 0 ≤ v) (h1 : v ≤ 4294967295) (hown : w.ownsRow B 5 1 (.slice (some ⟨g, 0, none⟩) k cap) k xs) (hfit : k + 6 ≤ cap) (hB : B ≤ w.heap.size) :
    Calls Try.prog 14 #[.slice (some ⟨g, 0, none⟩) k cap, .int .u32 v, .int .i64 6] w fun e w' => e = .returned (.slice (some ⟨g, 0, none⟩) (k + 6) cap) ∧
      w'.ownsRow B 5 1 (.slice (some ⟨g, 0, none⟩) (k + 6) cap) (k + 6) (xs ++ [.int .u8 (48 + v / 10 / 10 / 10 / 10 / 10 % 10), .int .u8 (48 + v / 10 / 10 / 10 / 10 % 10), .int .u8 (48 + v / 10 / 10 / 10 % 10), .int .u8 (48 + v / 10 / 10 % 10), .int .u8 (48 + v / 10 % 10), .int .u8 (48 + v % 10)]) ∧ Below B w w' := by
  obtain ⟨i0, hi, hz0, hz1, hz2⟩ := info_parts Try.info5
  have HO : Hid (w.ownsRow B 5 1 (.slice (some ⟨g, 0, none⟩) k cap) k xs) := hown
  clear hown
  go_enter Try.func14, Try.ntmps14
  go_wp2
  refine wp_loop_rounds 7 ?_
  rw [rounds_succ]
  go_wp2
  rw [rounds_succ]
  go_wp2
  rw [rounds_succ]
  go_wp2
  rw [rounds_succ]
  go_wp2
  rw [rounds_succ]
  go_wp2
  rw [rounds_succ]
  go_wp2
  rw [rounds_succ]
  go_wp2_with (at_builtin; refine wpList_append_fits _ rfl (.tmp 23) (.tmp 25) 22 rfl B 5 i0 1 Try.underlying22 hi hz1 g k cap xs rfl (HO.out.alloc _) ⟨w.heap.size, 0, none⟩ 6 6 [.int .u8 (48 + v / 10 / 10 / 10 / 10 / 10 % 10), .int .u8 (48 + v / 10 / 10 / 10 / 10 % 10), .int .u8 (48 + v / 10 / 10 / 10 % 10), .int .u8 (48 + v / 10 / 10 % 10), .int .u8 (48 + v / 10 % 10), .int .u8 (48 + v % 10)] rfl rfl ?c1 ?c2 hfit ?_)
  case c1 =>
    intro j u hj
    match j, hj with
    | 0, hj => simp at hj; subst hj; simp [Addr.add]
    | 1, hj => simp at hj; subst hj; simp [Addr.add]
    | 2, hj => simp at hj; subst hj; simp [Addr.add]
    | 3, hj => simp at hj; subst hj; simp [Addr.add]
    | 4, hj => simp at hj; subst hj; simp [Addr.add]
    | 5, hj => simp at hj; subst hj; simp [Addr.add]
  case c2 => intro u hu; simp at hu; rcases hu with rfl | rfl | rfl | rfl | rfl | rfl <;> rfl
  intro w1 hown1 hgrow
  have R : Hid (w1.ownsRow B 5 1 (.slice (some ⟨g, 0, none⟩) (k + 6) cap) (k + 6) (xs ++ [.int .u8 (48 + v / 10 / 10 / 10 / 10 / 10 % 10), .int .u8 (48 + v / 10 / 10 / 10 / 10 % 10), .int .u8 (48 + v / 10 / 10 / 10 % 10), .int .u8 (48 + v / 10 / 10 % 10), .int .u8 (48 + v / 10 % 10), .int .u8 (48 + v % 10)]) ∧ Below B w w1) :=
    ⟨hown1, ((Below.refl B w).alloc hB _).grown hgrow (by simp; omega) (by rintro q ⟨⟩; exact own_base HO.out)⟩
  clear hown1 hgrow
  go_wp2
  go_ret
  exact ⟨rfl, R.out.1, R.out.2⟩

end Go.Proofs.Qxb6602886a
