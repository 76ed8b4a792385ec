/-
  THE WALK OF columnsAcceptable.
-/
import Derived.Test.Qxb6602993aColA
namespace Go.Proofs.Qxb6602993a
open Go.RowKit

/-- Place i is good: its name is among header's later ones, and no later column repeats it. -/
def Good (G H : List (List UInt8)) (r i : Nat) : Prop :=
  fi (G.getD i []) (H.drop r) < (H.drop r).length ∧ ∀ m, i < m → m < G.length → G.getD m [] ≠ G.getD i []

theorem acc_of {G H : List (List UInt8)} {r : Nat} (h1 : r ≤ G.length) (h2 : ∀ i, i < r → G.getD i [] = H.getD i []) (h3 : ∀ i, r ≤ i → i < G.length → Good G H r i) : Acc G H r :=
  ⟨h1, h2, fun i hi hl => ⟨(h3 i hi hl).1, fun m hm hmi e => (h3 m hm (by omega)).2 i hmi hl e.symm⟩⟩
theorem good_of {G H : List (List UInt8)} {r i : Nat} (h : Acc G H r) (h1 : r ≤ i) (h2 : i < G.length) : Good G H r i :=
  ⟨(h.2.2 i h1 h2).1, h.later i h1⟩

/-- How columnsAcceptable ends. -/
def AccEnd (G H : List (List UInt8)) (r : Nat) (w : World) (e : Ending) (w' : World) : Prop :=
  ∃ v : Bool, e = .returned (.bool v) ∧ (v = true ↔ Acc G H r) ∧ ∃ m, w' = w.drewN m

theorem accEnd_no {G H : List (List UInt8)} {r : Nat} {w w' : World} (h : ¬ Acc G H r) (hw : ∃ m, w' = w.drewN m) : AccEnd G H r w (.returned (.bool false)) w' :=
  ⟨false, rfl, iff_of_false (by decide) h, hw⟩
theorem accEnd_yes {G H : List (List UInt8)} {r : Nat} {w w' : World} (h : Acc G H r) (hw : ∃ m, w' = w.drewN m) : AccEnd G H r w (.returned (.bool true)) w' :=
  ⟨true, rfl, iff_of_true rfl h, hw⟩
theorem drewE (w : World) (m : Nat) : ∃ k, w.drewN m = w.drewN k := ⟨m, rfl⟩
theorem drewE2 (w : World) (m n : Nat) : ∃ k, (w.drewN m).drewN n = w.drewN k := ⟨m + n, by rw [World.drewN_drewN]⟩

theorem fi_none {x : List UInt8} {H : List (List UInt8)} {r : Nat} (h : ∀ m, r ≤ m → m < H.length → H.getD m [] ≠ x) : ¬ fi x (H.drop r) < (H.drop r).length := by
  intro hh
  have h1 := fi_at x _ hh
  rw [getD_drop] at h1
  simp at hh
  exact h (r + fi x (H.drop r)) (by omega) (by omega) h1
theorem fi_some {x : List UInt8} {H : List (List UInt8)} {r q : Nat} (h1 : r ≤ q) (h2 : q < H.length) (e : H.getD q [] = x) : fi x (H.drop r) < (H.drop r).length := by
  refine fi_lt (m := q - r) (by simp; omega) ?_
  rw [getD_drop, show r + (q - r) = q by omega]; exact e

theorem row_at {w : World} {ao : Option Addr} {ss : List ByteArray} (h : Row w ao ss) {k : Nat} (hk : k < ss.length) :
    ∃ b off y, ao = some ⟨b, off, none⟩ ∧ w.cell? ⟨b, off + k, none⟩ = some (.string y) ∧ (bs ss).getD k [] = y.toList := by
  rcases h with hh | ⟨b, off, rfl, hc⟩
  · rw [hh] at hk; simp at hk
  · exact ⟨b, off, _, rfl, hc k hk, bs_at hk rfl⟩

theorem two_at {w : World} {ao : Option Addr} {ss : List ByteArray} (h : Row w ao ss) {k m : Nat} (hk : k < ss.length) (hm : m < ss.length) :
    ∃ b off y z, ao = some ⟨b, off, none⟩ ∧ w.cell? ⟨b, off + k, none⟩ = some (.string y) ∧ w.cell? ⟨b, off + m, none⟩ = some (.string z) ∧ (bs ss).getD k [] = y.toList ∧ (bs ss).getD m [] = z.toList := by
  rcases h with hh | ⟨b, off, rfl, hc⟩
  · rw [hh] at hk; simp at hk
  · exact ⟨b, off, _, _, rfl, hc k hk, hc m hm, bs_at hk rfl, bs_at hm rfl⟩

set_option maxRecDepth 100000 in
set_option maxHeartbeats 4000000 in
theorem acceptable_any (ao ao' : Option Addr) (n n' c c' : Nat) (r : Nat) (ss tt : List ByteArray) (w : World) (hn : ss.length = n) (hn' : tt.length = n') (hm : n ≤ 4096) (hm' : n' ≤ 4096) (hrr : r ≤ n') (hr : Row w ao ss) (hr' : Row w ao' tt) :
    Calls Try.prog 20 #[.slice ao n c, .slice ao' n' c', .int .i64 r] w (AccEnd (bs ss) (bs tt) r w) := by
  have HR : Hid (Row w ao ss) := hr
  have HR' : Hid (Row w ao' tt) := hr'
  have HN : Hid (ss.length = n ∧ tt.length = n') := ⟨hn, hn'⟩
  have HL : Hid ((bs ss).length = n ∧ (bs tt).length = n') := ⟨by rw [bs_len]; exact hn, by rw [bs_len]; exact hn'⟩
  clear hr hn hr' hn'
  by_cases hrn : n < r
  · have HF : Hid (¬ Acc (bs ss) (bs tt) r) := fun h => by have := h.1; have := HL.out; omega
    go_enter Try.func20, Try.ntmps20
    go_wp2
    go_ret
    exact accEnd_no HF.out (drewE w 0)
  go_enter Try.func20, Try.ntmps20
  go_wp2
  go_loopg [7] (r + 1) (fun g i wr => ∃ k : Nat, k ≤ r ∧ g = r + 1 - k ∧ i = .int .i64 k ∧ Hid (EqTo (bs ss) (bs tt) k) ∧ ∃ m, wr = w.drewN m)
  case atStart => exact ⟨0, Nat.zero_le _, by omega, rfl, fun i hi => by omega, 0, rfl⟩
  case round =>
    obtain ⟨k, hk, hg, rfl, HE, m, rfl⟩ := hrel
    by_cases hlt : k < r
    · obtain ⟨b, off, y, rfl, hc, hy⟩ := row_at HR.out (k := k) (by have := HN.out; omega)
      obtain ⟨b', off', y', rfl, hc', hy'⟩ := row_at HR'.out (k := k) (by have := HN.out; omega)
      have HY : Hid ((bs ss).getD k [] = y.toList ∧ (bs tt).getD k [] = y'.toList) := ⟨hy, hy'⟩
      clear hy hy'
      have hki : (k : Int) < (n : Int) := by omega
      have hki' : (k : Int) < (n' : Int) := by omega
      by_cases hxy : y.toList = y'.toList
      · have hb : (y.toList == y'.toList) = true := by simp [hxy]
        have HS : Hid (EqTo (bs ss) (bs tt) (k + 1)) := by
          intro i hi
          by_cases hik : i < k
          · exact HE.out i hik
          · have : i = k := by omega
            subst this
            rw [HY.out.1, HY.out.2, hxy]
        clear hxy
        go_wp2
        go_quiet (fail)
        go_wp2
        go_roundg (gk - 1)
        case measure => omega
        case rel => exact ⟨k + 1, by omega, by omega, by go_num, HS, m + nq, by first | rfl | rw [World.drewN_drewN]⟩
      · have hb : (y.toList == y'.toList) = false := by rw [beq_eq_false_iff_ne]; exact hxy
        have HF : Hid (¬ Acc (bs ss) (bs tt) r) := fun h => hxy (by have := h.2.1 k hlt; rwa [HY.out.1, HY.out.2] at this)
        clear hxy
        go_wp2
        go_quiet (fail)
        go_wp2
        go_ret
        first | exact accEnd_no HF.out (drewE2 _ _ _) | exact accEnd_no HF.out (drewE _ _)
    · have HEQ : Hid (EqTo (bs ss) (bs tt) r) := by
        have : k = r := by omega
        rw [← this]; exact HE.out
      clear HE hg
      go_wp2
      go_loopg [8, 9, 10, 11] (n + 1 - r) (fun g i _ _ _ wr => ∃ k : Nat, r ≤ k ∧ k ≤ n ∧ g = n + 1 - k ∧ i = .int .i64 k ∧ Hid (∀ i, r ≤ i → i < k → Good (bs ss) (bs tt) r i) ∧ ∃ m, wr = w.drewN m)
      case atStart => exact ⟨r, Nat.le_refl _, by omega, rfl, rfl, fun i h1 h2 => by omega, m, rfl⟩
      case round =>
        obtain ⟨i, hri, hin, hgi, rfl, HG, m1, rfl⟩ := hrel
        by_cases hlt : i < n
        · obtain ⟨b, off, y, rfl, hc, hy⟩ := row_at HR.out (k := i) (by have := HN.out; omega)
          have HY : Hid ((bs ss).getD i [] = y.toList) := hy
          clear hy
          have hii : (i : Int) < (n : Int) := by omega
          go_wp2
          go_loopg [9, 10] (n' + 1 - r) (fun g fnd j wr => fnd = .bool false ∧ ∃ q : Nat, r ≤ q ∧ q ≤ n' ∧ g = n' + 1 - q ∧ j = .int .i64 q ∧ Hid (∀ m, r ≤ m → m < q → (bs tt).getD m [] ≠ y.toList) ∧ ∃ m, wr = w.drewN m)
          case atStart => exact ⟨rfl, r, Nat.le_refl _, hrr, rfl, rfl, fun i h1 h2 => by omega, m1, rfl⟩
          case round =>
            obtain ⟨rfl, q, hrq, hqn, hgq, rfl, HQ, m2, rfl⟩ := hrel
            by_cases hltq : q < n'
            · obtain ⟨b', off', y', rfl, hc', hy'⟩ := row_at HR'.out (k := q) (by have := HN.out; omega)
              have HY' : Hid ((bs tt).getD q [] = y'.toList) := hy'
              clear hy'
              have hqi : (q : Int) < (n' : Int) := by omega
              by_cases hxy : y'.toList = y.toList
              · have hb : (y'.toList == y.toList) = true := by simp [hxy]
                have HF : Hid (fi y.toList ((bs tt).drop r) < ((bs tt).drop r).length) := fi_some hrq (by rw [HL.out.2]; exact hltq) (by rw [HY'.out, hxy])
                clear hxy
                go_wp2
                go_quiet (fail)
                go_wp2
                clear hb hgq hc'
                go_loopg [11] (n + 1 - (i + 1)) (fun g j wr => ∃ p : Nat, i + 1 ≤ p ∧ p ≤ n ∧ g = n + 1 - p ∧ j = .int .i64 p ∧ Hid (∀ m, i < m → m < p → (bs ss).getD m [] ≠ y.toList) ∧ ∃ m, wr = w.drewN m)
                case atStart => exact ⟨i + 1, Nat.le_refl _, by omega, rfl, by go_num, fun m h1 h2 => by omega, m2 + nq, by first | rfl | rw [World.drewN_drewN]⟩
                case round =>
                  obtain ⟨p, hip, hpn, hgp, rfl, HP, m3, rfl⟩ := hrel
                  by_cases hltp : p < n
                  · obtain ⟨b2, off2, z, hao, hcz, hz⟩ := row_at HR.out (k := p) (by have := HN.out; omega)
                    obtain ⟨rfl, rfl⟩ : b = b2 ∧ off = off2 := by simpa using hao
                    have HZ : Hid ((bs ss).getD p [] = z.toList) := hz
                    clear hz hao
                    have hpi : (p : Int) < (n : Int) := by omega
                    by_cases hzy : z.toList = y.toList
                    · have hb : (z.toList == y.toList) = true := by simp [hzy]
                      have HFF : Hid (¬ Acc (bs ss) (bs tt) r) := fun h => (h.later i hri p (by omega) (by rw [HL.out.1]; exact hltp)) (by rw [HZ.out, HY.out, hzy])
                      clear hzy
                      go_wp2
                      go_quiet (fail)
                      go_wp2
                      go_ret
                      first | exact accEnd_no HFF.out (drewE2 _ _ _) | exact accEnd_no HFF.out (drewE _ _)
                    · have hb : (z.toList == y.toList) = false := by rw [beq_eq_false_iff_ne]; exact hzy
                      have HS : Hid (∀ m, i < m → m < p + 1 → (bs ss).getD m [] ≠ y.toList) := by
                        intro m h1 h2
                        by_cases hm2 : m < p
                        · exact HP.out m h1 hm2
                        · have : m = p := by omega
                          subst this
                          rw [HZ.out]; exact hzy
                      clear hzy
                      go_wp2
                      go_quiet (fail)
                      go_wp2
                      go_roundg (n + 1 - (p + 1))
                      case measure => omega
                      case rel => exact ⟨p + 1, by omega, by omega, rfl, by go_num, HS, _, by first | rfl | rw [World.drewN_drewN]⟩
                  · have HS : Hid (∀ a, r ≤ a → a < i + 1 → Good (bs ss) (bs tt) r a) := by
                      intro a h1 h2
                      by_cases ha : a < i
                      · exact HG.out a h1 ha
                      · have : a = i := by omega
                        subst this
                        refine ⟨by rw [HY.out]; exact HF.out, fun m h3 h4 => ?_⟩
                        rw [HY.out]
                        exact HP.out m h3 (by rw [HL.out.1] at h4; omega)
                    go_wp2
                    go_roundg (n + 1 - (i + 1))
                    case measure => omega
                    case rel => exact ⟨i + 1, by omega, by omega, rfl, by go_num, HS, _, rfl⟩
              · have hb : (y'.toList == y.toList) = false := by rw [beq_eq_false_iff_ne]; exact hxy
                have HS : Hid (∀ m, r ≤ m → m < q + 1 → (bs tt).getD m [] ≠ y.toList) := by
                  intro m h1 h2
                  by_cases hm2 : m < q
                  · exact HQ.out m h1 hm2
                  · have : m = q := by omega
                    subst this
                    rw [HY'.out]; exact hxy
                clear hxy
                go_wp2
                go_quiet (fail)
                go_wp2
                go_roundg (n' + 1 - (q + 1))
                case measure => omega
                case rel => exact ⟨rfl, q + 1, by omega, by omega, rfl, by go_num, HS, _, by first | rfl | rw [World.drewN_drewN]⟩
            · have HFF : Hid (¬ Acc (bs ss) (bs tt) r) := fun h => by
                have h1 := (h.2.2 i hri (by rw [HL.out.1]; exact hlt)).1
                rw [HY.out] at h1
                exact fi_none (fun m h2 h3 => HQ.out m h2 (by rw [HL.out.2] at h3; omega)) h1
              go_wp2
              go_ret
              first | exact accEnd_no HFF.out (drewE2 _ _ _) | exact accEnd_no HFF.out (drewE _ _)
        · have HFF : Hid (Acc (bs ss) (bs tt) r) := acc_of (by rw [HL.out.1]; omega) HEQ.out (fun a h1 h2 => HG.out a h1 (by rw [HL.out.1] at h2; omega))
          go_wp2
          go_ret
          first | exact accEnd_yes HFF.out (drewE2 _ _ _) | exact accEnd_yes HFF.out (drewE _ _)
end Go.Proofs.Qxb6602993a
