/-
  THE WALKS OF THE BYTE GUARDS: each returns some bool and turns nothing.
-/
import Derived.Test.Qxb6602993aColA
namespace Go.Proofs.Qxb6602993a
open Go.RowKit

/-- A guard's end. -/
def SomeBool (w : World) (e : Ending) (w' : World) : Prop := (∃ v : Bool, e = .returned (.bool v)) ∧ w = w'

set_option maxHeartbeats 1000000 in
theorem bytes_any (ao ao' : Option Addr) (n n' c c' : Nat) (r : Int) (ss tt : List ByteArray) (w : World) (hn : ss.length = n) (hn' : tt.length = n') (hm : n ≤ maxLen) (hm' : n' ≤ maxLen) (hr : Row w ao ss) (hr' : Row w ao' tt) :
    Calls Try.prog 16 #[.slice ao n c, .slice ao' n' c', .int .i64 r] w (SomeBool w) := by
  have HR : Hid (Row w ao ss) := hr
  have HR' : Hid (Row w ao' tt) := hr'
  have HN : Hid (ss.length = n ∧ tt.length = n') := ⟨hn, hn'⟩
  clear hr hn hr' hn'
  unfold maxLen at hm hm'
  by_cases hb : n ≤ 1048576
  · go_enter Try.func16, Try.ntmps16
    go_wp2
    go_loop [7, 8] (fun t i => (∃ q : Int, t = .int .i64 q) ∧ ∃ k : Nat, k ≤ n ∧ i = .int .i64 k) (fun _ i => n - (intOf i).toNat)
    case atStart => exact ⟨⟨_, rfl⟩, 0, Nat.zero_le _, rfl⟩
    case round =>
      obtain ⟨⟨q, rfl⟩, k, hk, rfl⟩ := hrel
      by_cases hlt : k < n
      · rcases HR.out with hh | ⟨b, off, rfl, hc⟩
        · have := HN.out.1; rw [hh] at this; simp at this; omega
        have hck := hc k (by have := HN.out; omega)
        clear hc
        obtain ⟨y, hy⟩ : ∃ y, ss.getD k ByteArray.empty = y := ⟨_, rfl⟩
        rw [hy] at hck
        clear hy
        go_wp2
        all_goals first
          | (go_round
             case rel => exact ⟨⟨_, rfl⟩, k + 1, by omega, by go_num⟩
             case measure => simp [intOf]; omega)
          | (go_ret; exact ⟨⟨_, rfl⟩, rfl⟩)
      · by_cases hb' : n' ≤ 1048576
        · go_wp2
          all_goals first
            | (go_ret; exact ⟨⟨_, rfl⟩, rfl⟩)
            | skip
          go_loop [7, 9] (fun t i => (∃ q : Int, t = .int .i64 q) ∧ ∃ k : Nat, k ≤ n' ∧ i = .int .i64 k) (fun _ i => n' - (intOf i).toNat)
          case atStart => exact ⟨⟨_, rfl⟩, 0, Nat.zero_le _, rfl⟩
          case round =>
            obtain ⟨⟨q, rfl⟩, k, hk, rfl⟩ := hrel
            by_cases hlt' : k < n'
            · rcases HR'.out with hh | ⟨b, off, rfl, hc⟩
              · have := HN.out.2; rw [hh] at this; simp at this; omega
              have hck := hc k (by have := HN.out; omega)
              clear hc
              obtain ⟨y, hy⟩ : ∃ y, tt.getD k ByteArray.empty = y := ⟨_, rfl⟩
              rw [hy] at hck
              clear hy
              go_wp2
              all_goals first
                | (go_round
                   case rel => exact ⟨⟨_, rfl⟩, k + 1, by omega, by go_num⟩
                   case measure => simp [intOf]; omega)
                | (go_ret; exact ⟨⟨_, rfl⟩, rfl⟩)
            · go_wp2
              go_ret
              exact ⟨⟨_, rfl⟩, rfl⟩
        · go_wp2
          go_ret
          exact ⟨⟨_, rfl⟩, rfl⟩
  · go_enter Try.func16, Try.ntmps16
    go_wp2
    go_ret
    exact ⟨⟨_, rfl⟩, rfl⟩

set_option maxHeartbeats 1000000 in
theorem big_any (ao ao' : Option Addr) (n n' c c' : Nat) (ss tt : List ByteArray) (w : World) (hn : ss.length = n) (hn' : tt.length = n') (hm : n ≤ 4096) (hm' : n' ≤ 4096) (hr : Row w ao ss) (hr' : Row w ao' tt) :
    Calls Try.prog 17 #[.slice ao n c, .slice ao' n' c'] w (SomeBool w) := by
  have HR : Hid (Row w ao ss) := hr
  have HR' : Hid (Row w ao' tt) := hr'
  have HN : Hid (ss.length = n ∧ tt.length = n') := ⟨hn, hn'⟩
  clear hr hn hr' hn'
  go_enter Try.func17, Try.ntmps17
  go_wp2
  go_loop [5, 6] (fun t i => (∃ q : Int, t = .int .i64 q) ∧ ∃ k : Nat, k ≤ n ∧ i = .int .i64 k) (fun _ i => n - (intOf i).toNat)
  case atStart => exact ⟨⟨_, rfl⟩, 0, Nat.zero_le _, rfl⟩
  case round =>
    obtain ⟨⟨q, rfl⟩, k, hk, rfl⟩ := hrel
    by_cases hlt : k < n
    · rcases HR.out with hh | ⟨b, off, rfl, hc⟩
      · have := HN.out.1; rw [hh] at this; simp at this; omega
      have hck := hc k (by have := HN.out; omega)
      clear hc
      obtain ⟨y, hy⟩ : ∃ y, ss.getD k ByteArray.empty = y := ⟨_, rfl⟩
      rw [hy] at hck
      clear hy
      go_wp2
      all_goals first
        | (go_round
           case rel => exact ⟨⟨_, rfl⟩, k + 1, by omega, by go_num⟩
           case measure => simp [intOf]; omega)
        | (go_ret; exact ⟨⟨_, rfl⟩, rfl⟩)
    · go_wp2
      go_loop [5, 7] (fun t i => (∃ q : Int, t = .int .i64 q) ∧ ∃ k : Nat, k ≤ n' ∧ i = .int .i64 k) (fun _ i => n' - (intOf i).toNat)
      case atStart => exact ⟨⟨_, rfl⟩, 0, Nat.zero_le _, rfl⟩
      case round =>
        obtain ⟨⟨q, rfl⟩, k, hk, rfl⟩ := hrel
        by_cases hlt' : k < n'
        · rcases HR'.out with hh | ⟨b, off, rfl, hc⟩
          · have := HN.out.2; rw [hh] at this; simp at this; omega
          have hck := hc k (by have := HN.out; omega)
          clear hc
          obtain ⟨y, hy⟩ : ∃ y, tt.getD k ByteArray.empty = y := ⟨_, rfl⟩
          rw [hy] at hck
          clear hy
          go_wp2
          all_goals first
            | (go_round
               case rel => exact ⟨⟨_, rfl⟩, k + 1, by omega, by go_num⟩
               case measure => simp [intOf]; omega)
            | (go_ret; exact ⟨⟨_, rfl⟩, rfl⟩)
        · go_wp2
          go_ret
          exact ⟨⟨_, rfl⟩, rfl⟩
end Go.Proofs.Qxb6602993a
