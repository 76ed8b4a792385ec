/-
  OWNED ROWS BY THEIR BLOCKS; zzLastCopyHB1.
-/
import Derived.Test.Qxb6603412aA
import Derived.Maps.OwnSet
import Derived.Maps.OwnOps
import Derived.Deep.AppendLies
namespace Go.Proofs.Qxb6603412a
open Go.RowKit Go.Maps
set_option linter.unusedVariables false

theorem law3 : Keyed Try.prog 3 := int_keyed Try.underlying3
theorem zero3 (w : World) : (zeroValue 3).run Try.prog w = .ok (.int .i64 0) w := by kernel_rfl

/-- The block that a value owns lies among those from B on, and is there. -/
def Fr (B : Nat) (w : World) (v : Value) : Prop := ∀ g, v.ownBlock = some g → B ≤ g ∧ g < w.heap.size
/-- Two values own no block in common. -/
def Ap (u v : Value) : Prop := ∀ g, u.ownBlock = some g → v.ownBlock ≠ some g

theorem own_keepV {w w' : World} {e s n : Nat} {v : Value} {xs : List Value} (h : w.ownsRow 0 e s v n xs) (he : ∀ g, v.ownBlock = some g → w'.heap[g]? = w.heap[g]?) : w'.ownsRow 0 e s v n xs := by
  obtain ⟨h1, ⟨rfl, rfl⟩ | ⟨g', c', cur, rfl, hb, hh, hr⟩⟩ := h
  · exact ⟨h1, .inl ⟨rfl, rfl⟩⟩
  · exact ⟨h1, .inr ⟨g', c', cur, rfl, hb, by rw [he g' rfl]; exact hh, hr⟩⟩
theorem own_lt {w : World} {e s n : Nat} {v : Value} {xs : List Value} (h : w.ownsRow 0 e s v n xs) : ∀ g, v.ownBlock = some g → g < w.heap.size := by
  intro g hg
  obtain ⟨h1, ⟨rfl, rfl⟩ | ⟨g', c', cur, rfl, hb, hh, hr⟩⟩ := h
  · simp [Value.ownBlock] at hg
  · obtain rfl : g' = g := by simpa [Value.ownBlock] using hg
    by_cases hlt : g' < w.heap.size
    · exact hlt
    · rw [Array.getElem?_eq_none (by omega)] at hh; cases hh
theorem own_shape {w : World} {e s n : Nat} {v : Value} {xs : List Value} (h : w.ownsRow 0 e s v n xs) : (v = .slice none 0 0 ∧ n = 0) ∨ ∃ g c, v = .slice (some ⟨g, 0, none⟩) n c ∧ n ≤ c ∧ c ≤ maxLen := by
  obtain ⟨h1, h | ⟨g', c', cur, rfl, hb, hh, h2, h3, _⟩⟩ := h
  · exact .inl h
  · exact .inr ⟨g', c', rfl, h2, h3⟩

theorem map_keep {H : Type} {w w' : World} {b n : Nat} {D : DataW H} (h : w.ownsMap Try.prog 3 (plainElem Try.prog 3) b n D) (he : w'.heap[b]? = w.heap[b]?) : w'.ownsMap Try.prog 3 (plainElem Try.prog 3) b n D := by
  obtain ⟨es, clock, hb, hr⟩ := h
  exact ⟨es, clock, by rw [he]; exact hb, hr⟩
theorem map_lt {H : Type} {w : World} {b n : Nat} {D : DataW H} (h : w.ownsMap Try.prog 3 (plainElem Try.prog 3) b n D) : b < w.heap.size := by
  obtain ⟨es, clock, hb, hr⟩ := h
  by_cases hlt : b < w.heap.size
  · exact hlt
  · rw [Array.getElem?_eq_none (by omega)] at hb; cases hb

/-- What the grants' numbers are. -/
def WfG (G : List (Int × Int × Bool)) : Prop := ∀ g ∈ G, (Lit.int .i64 g.1).wf = true ∧ (Lit.int .i64 g.2.1).wf = true
theorem WfG.at {G : List (Int × Int × Bool)} (h : WfG G) {k : Nat} (hk : k < G.length) {t i : Int} {x : Bool} (e : G.getD k (0, 0, false) = (t, i, x)) : (Lit.int .i64 t).wf = true := by
  have : G[k] = (t, i, x) := by simpa [List.getD, hk] using e
  have h1 := (h _ (List.getElem_mem hk)).1
  rwa [this] at h1

/-- How zzLastCopyHB1 ends. -/
def LcEnd (n : Nat) (w : World) (e : Ending) (w' : World) : Prop :=
  e = .returned (.map (some w.heap.size)) ∧ Below w.heap.size w w' ∧ ∃ D : DataW Unit, w'.ownsMap Try.prog 3 (plainElem Try.prog 3) w.heap.size n D

set_option maxHeartbeats 2000000 in
theorem last_some {H : Type} (ao : Option Addr) (n c bm N : Nat) (G : List (Int × Int × Bool)) (D : DataW H) (w : World) (hn : G.length = n) (hl : n ≤ 4096) (hr : TRow w ao (G.map gV)) (hwf : WfG G) (hm : w.ownsMap Try.prog 3 (plainElem Try.prog 3) bm N D) :
    Calls Try.prog 9 #[.slice ao n c, .map (some bm)] w (LcEnd n w) := by
  have hmm := @run_makeMap Try.prog
  have HR : Hid (TRow w ao (G.map gV)) := hr
  have HN : Hid (G.length = n) := hn
  have HM : Hid (w.ownsMap Try.prog 3 (plainElem Try.prog 3) bm N D) := hm
  have HW : Hid (WfG G) := hwf
  have H0 : Hid (∃ D' : DataW Unit, (w.alloc (.map #[] 0)).ownsMap Try.prog 3 (plainElem Try.prog 3) w.heap.size 0 D' ∧ Below w.heap.size w (w.alloc (.map #[] 0))) := ⟨_, World.ownsMap_made _ _ _ _, (Below.refl _ _).alloc (Nat.le_refl _) _⟩
  have hbm := map_lt hm
  clear hr hn hm hwf
  go_enter Try.func9, Try.ntmps9
  go_wp2
  clear hmm
  go_loopg [6, 7, 8] (n + 1) (fun g i _ _ wr => ∃ k : Nat, k ≤ n ∧ g = n + 1 - k ∧ i = .int .i64 k ∧ Hid (∃ D' : DataW Unit, wr.ownsMap Try.prog 3 (plainElem Try.prog 3) w.heap.size k D' ∧ Below w.heap.size w wr))
  case atStart => exact ⟨0, Nat.zero_le _, rfl, rfl, H0⟩
  case round =>
    obtain ⟨k, hk, hg, rfl, HH⟩ := hrel
    clear H0
    obtain ⟨D', hown', hb⟩ := HH.out
    have HB : Hid (Below w.heap.size w wr) := hb
    have HO : Hid (wr.ownsMap Try.prog 3 (plainElem Try.prog 3) w.heap.size k D') := hown'
    clear HH
    by_cases hlt : k < n
    · obtain ⟨b, off, t, i, x, rfl, hG, h0, h1, h2⟩ := grow_at (HR.out.below hb) (k := k) (by have := HN.out; omega)
      have hwt := HW.out.at (by have := HN.out; omega) hG
      have HML : Hid (wr.ownsMap Try.prog 3 (plainElem Try.prog 3) bm N D) := map_keep HM.out (hb.block bm hbm)
      have HKey : Hid (keyOf Try.prog 3 (.int .i64 t) = some (.int .i64 t)) := keyOf_int_mk Try.underlying3 hwt
      clear hG h1 h2 hb hown' hwt
      cases hhas : Maps.has D (.int .i64 t) with
      | false =>
        go_wp2_with (at_lookup; refine wpList_lookup_own_ok_int _ rfl _ _ 24 rfl 3 3 .i64 law3 Try.underlying24 Try.underlying3 (zero3 _) bm N D rfl HML.out _ _ rfl HKey.out ?_; intro c hat hwc; clear hat hwc; rw [hhas])
        go_roundg (n + 1 - (k + 1))
        case measure => omega
        case rel => exact ⟨k + 1, by omega, rfl, by go_num, D', HO.out.mono (by omega), HB.out⟩
      | true =>
        go_wp2_with (first
          | (at_lookup; refine wpList_lookup_own_ok_int _ rfl _ _ 24 rfl 3 3 .i64 law3 Try.underlying24 Try.underlying3 (zero3 _) bm N D rfl HML.out _ _ rfl HKey.out ?_; intro c hat hwc; have HWC : Hid ((Lit.int .i64 c).wf = true) := hwc; clear hat hwc; rw [hhas])
          | (at_mapUpdate; refine wpList_mapUpdate_own _ rfl _ _ _ 24 rfl 3 3 law3 Try.underlying24 _ w.heap.size k D' rfl HO.out (by unfold maxLen; omega) _ _ _ rfl rfl HKey.out _ [] (plainElem_int Try.underlying3 HWC.out) ?_; intro w1 hown1 hgrow1; have HN1 : Hid (∃ D2 : DataW Unit, w1.ownsMap Try.prog 3 (plainElem Try.prog 3) w.heap.size (k + 1) D2 ∧ Below w.heap.size w w1) := ⟨_, hown1, HB.out.grown hgrow1 HB.out.size (by rintro q ⟨⟩; exact Nat.le_refl _)⟩; clear hown1 hgrow1))
        go_roundg (n + 1 - (k + 1))
        case measure => omega
        case rel => exact ⟨k + 1, by omega, rfl, by go_num, HN1⟩
    · have HF : Hid (∃ D : DataW Unit, wr.ownsMap Try.prog 3 (plainElem Try.prog 3) w.heap.size n D) := ⟨D', HO.out.mono (by omega)⟩
      clear hb hown'
      go_wp2
      go_ret
      exact ⟨rfl, HB.out, HF.out⟩

set_option maxHeartbeats 1000000 in
theorem last_nil (ao : Option Addr) (n c : Nat) (G : List (Int × Int × Bool)) (w : World) (hn : G.length = n) (hl : n ≤ 4096) (hr : TRow w ao (G.map gV)) (hwf : WfG G) :
    Calls Try.prog 9 #[.slice ao n c, .map none] w (LcEnd n w) := by
  have hmm := @run_makeMap Try.prog
  have HR : Hid (TRow w ao (G.map gV)) := hr
  have HN : Hid (G.length = n) := hn
  have HW : Hid (WfG G) := hwf
  have H0 : Hid ((w.alloc (.map #[] 0)).ownsMap (H := Unit) Try.prog 3 (plainElem Try.prog 3) w.heap.size 0 (.map []) ∧ Below w.heap.size w (w.alloc (.map #[] 0))) := ⟨World.ownsMap_made _ _ _ _, (Below.refl _ _).alloc (Nat.le_refl _) _⟩
  clear hr hn hwf
  go_enter Try.func9, Try.ntmps9
  go_wp2
  clear hmm
  go_loopg [6, 7, 8] (n + 1) (fun g i _ _ wr => ∃ k : Nat, k ≤ n ∧ g = n + 1 - k ∧ i = .int .i64 k ∧ wr = w.alloc (.map #[] 0))
  case atStart => exact ⟨0, Nat.zero_le _, rfl, rfl, rfl⟩
  case round =>
    obtain ⟨k, hk, hg, rfl, rfl⟩ := hrel
    by_cases hlt : k < n
    · obtain ⟨b, off, t, i, x, rfl, hG, h0, h1, h2⟩ := grow_at (HR.out.below H0.out.2) (k := k) (by have := HN.out; omega)
      have hwt := HW.out.at (by have := HN.out; omega) hG
      have hrun := look_nil (w := w.alloc (.map #[] 0)) true law3 Try.underlying24 (zero3 _) (keyOf_int_mk Try.underlying3 hwt)
      clear hG h1 h2 hwt
      go_wp2
      go_roundg (n + 1 - (k + 1))
      case measure => omega
      case rel => exact ⟨k + 1, by omega, rfl, by go_num, rfl⟩
    · go_wp2
      go_ret
      exact ⟨rfl, H0.out.2, _, H0.out.1.mono (by omega)⟩
end Go.Proofs.Qxb6603412a
