/-
  zzIndexHB1: a search in a sorted row. (Own texts alone; no law.)
-/
import Derived.Test.Qxb6603412aG
namespace Go.Proofs.Qxb6603412a
open Go.RowKit Go.Maps
set_option linter.unusedVariables false

/-- The cells of a list of numbers. -/
def iC (xs : List Int) : List Value := xs.map (Value.int .i64)
theorem irow_i {w : World} {ao : Option Addr} {xs : List Int} (h : IRow w ao (iC xs)) {k : Nat} (hk : k < xs.length) : ∃ b off, ao = some ⟨b, off, none⟩ ∧ w.cell? ⟨b, off + k, none⟩ = some (.int .i64 (xs.getD k 0)) := by
  rcases h with hh | ⟨b, off, rfl, hc⟩
  · have := congrArg List.length hh; simp [iC] at this; subst this; simp at hk
  · exact ⟨b, off, rfl, hc k _ (by simp [iC, List.getD, hk])⟩

/-- Strictly increasing. -/
def Inc (xs : List Int) : Prop := ∀ i j, i < j → j < xs.length → xs.getD i 0 < xs.getD j 0
theorem Inc.nodup {xs : List Int} (h : Inc xs) {i j : Nat} (hi : i < xs.length) (hj : j < xs.length) (e : xs.getD i 0 = xs.getD j 0) : i = j := by
  by_cases h1 : i < j
  · have := h i j h1 hj; omega
  · by_cases h2 : j < i
    · have := h j i h2 hi; omega
    · omega

/-- Where the search stands. -/
def Between (xs : List Int) (x : Int) (lo hi : Nat) : Prop := lo ≤ hi ∧ hi ≤ xs.length ∧ (∀ i, i < lo → xs.getD i 0 < x) ∧ ∀ i, hi ≤ i → i < xs.length → x ≤ xs.getD i 0
theorem Between.up {xs : List Int} {x : Int} {lo hi mid : Nat} (h : Between xs x lo hi) (hinc : Inc xs) (h1 : lo ≤ mid) (h2 : mid < hi) (hx : xs.getD mid 0 < x) : Between xs x (mid + 1) hi :=
  ⟨by omega, h.2.1, fun i hi' => by
    by_cases e : i = mid
    · subst e; exact hx
    · have := hinc i mid (by omega) (by have := h.2.1; omega); omega, h.2.2.2⟩
theorem Between.down {xs : List Int} {x : Int} {lo hi mid : Nat} (h : Between xs x lo hi) (hinc : Inc xs) (h1 : lo ≤ mid) (h2 : mid < hi) (hx : ¬ xs.getD mid 0 < x) : Between xs x lo mid :=
  ⟨h1, by have := h.2.1; omega, h.2.2.1, fun i hi' hl => by
    by_cases e : i = mid
    · subst e; omega
    · have := hinc mid i (by omega) hl; omega⟩
/-- At the end: where x is, if it is there. -/
theorem Between.found {xs : List Int} {x : Int} {lo : Nat} (h : Between xs x lo lo) (hinc : Inc xs) (hx : x ∈ xs) : lo < xs.length ∧ xs.getD lo 0 = x := by
  obtain ⟨i, hi, e⟩ := List.mem_iff_getElem.1 hx
  have hg : xs.getD i 0 = x := by simp [List.getD, hi, e]
  by_cases h1 : i < lo
  · have := h.2.2.1 i h1; omega
  · by_cases h2 : i = lo
    · subst h2; exact ⟨hi, hg⟩
    · have h3 := h.2.2.2 lo (Nat.le_refl _) (by omega)
      have h4 := hinc lo i (by omega) hi
      omega

/-- Where x lies. -/
def ix (xs : List Int) (x : Int) : Nat := xs.idxOf x
theorem ix_lt {xs : List Int} {x : Int} (h : x ∈ xs) : ix xs x < xs.length := List.idxOf_lt_length_of_mem h
theorem ix_at {xs : List Int} {x : Int} (h : x ∈ xs) : xs.getD (ix xs x) 0 = x := by
  have := ix_lt h
  unfold ix at this ⊢
  simp [List.getD, this]
theorem ix_of {xs : List Int} {x : Int} {i : Nat} (hinc : Inc xs) (hi : i < xs.length) (e : xs.getD i 0 = x) : ix xs x = i := by
  have hm : x ∈ xs := by rw [← e]; simp [List.getD, hi]
  exact hinc.nodup (ix_lt hm) hi (by rw [ix_at hm, e])

set_option maxHeartbeats 2000000 in
theorem index_any (ao : Option Addr) (n c : Nat) (xs : List Int) (x : Int) (w : World) (hn : xs.length = n) (hl : n ≤ 4096) (hr : IRow w ao (iC xs)) (hinc : Inc xs) (hx : x ∈ xs) :
    Calls Try.prog 16 #[.slice ao n c, .int .i64 x] w fun e w' => e = .returned (.int .i64 (ix xs x)) ∧ w' = w := by
  have HR : Hid (IRow w ao (iC xs)) := hr
  have HN : Hid (xs.length = n) := hn
  have HI : Hid (Inc xs) := hinc
  have HX : Hid (x ∈ xs) := hx
  have H0 : Hid (Between xs x 0 n) := ⟨Nat.zero_le _, by omega, fun i hi => by omega, fun i h1 h2 => by omega⟩
  clear hr hn hinc hx
  go_enter Try.func16, Try.ntmps16
  go_wp2
  go_loopg [5, 6, 7] (n + 1) (fun g lo hi _ wr => ∃ l h : Nat, lo = .int .i64 l ∧ hi = .int .i64 h ∧ l ≤ h ∧ h ≤ n ∧ g = h - l + 1 ∧ Hid (Between xs x l h) ∧ wr = w)
  case atStart => exact ⟨0, n, rfl, rfl, Nat.zero_le _, Nat.le_refl _, by omega, H0, rfl⟩
  case round =>
    obtain ⟨l, h, rfl, rfl, hlh, hhn, hg, HB, rfl⟩ := hrel
    clear H0
    by_cases hlt : l < h
    · obtain ⟨mid, hmid⟩ : ∃ mid, mid = l + (h - l) / 2 := ⟨_, rfl⟩
      have hm1 : l ≤ mid := by omega
      have hm2 : mid < h := by omega
      have hme : (l : Int) + ((h : Int) - (l : Int)) / 2 = (mid : Int) := by omega
      clear hmid
      obtain ⟨b, off, rfl, hcm⟩ := irow_i HR.out (k := mid) (by have := HN.out; omega)
      obtain ⟨y, hy⟩ : ∃ y, xs.getD mid 0 = y := ⟨_, rfl⟩
      rw [hy] at hcm
      by_cases hyx : y < x
      · have HB2 : Hid (Between xs x (mid + 1) h) := HB.out.up HI.out hm1 hm2 (by rw [hy]; exact hyx)
        clear hy
        go_wp2
        go_roundg (h - (mid + 1) + 1)
        case measure => omega
        case rel => exact ⟨mid + 1, h, by go_num, rfl, by omega, hhn, rfl, HB2, rfl⟩
      · have HB2 : Hid (Between xs x l mid) := HB.out.down HI.out hm1 hm2 (by rw [hy]; exact hyx)
        clear hy
        go_wp2
        go_roundg (mid - l + 1)
        case measure => omega
        case rel => exact ⟨l, mid, rfl, by go_num, hm1, by omega, rfl, HB2, rfl⟩
    · obtain rfl : l = h := by omega
      obtain ⟨hll, hlx⟩ := HB.out.found HI.out HX.out
      have hll2 : l < n := by have := HN.out; omega
      have HE : Hid (ix xs x = l) := ix_of HI.out hll hlx
      obtain ⟨b, off, rfl, hcm⟩ := irow_i HR.out (k := l) hll
      rw [hlx] at hcm
      clear hlx hll
      go_wp2
      go_ret
      exact ⟨by rw [HE.out]; rfl, rfl⟩
end Go.Proofs.Qxb6603412a
