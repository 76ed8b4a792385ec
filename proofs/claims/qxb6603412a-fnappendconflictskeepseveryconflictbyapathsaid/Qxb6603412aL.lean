/-
  zzDistinctSortedHB1.
-/
import Derived.Test.Qxb6603412aI
namespace Go.Proofs.Qxb6603412a
open Go.RowKit Go.Maps
set_option linter.unusedVariables false

/-- x put into S at lo. -/
def ins (S : List Int) (lo : Nat) (x : Int) : List Int := S.take lo ++ x :: S.drop lo
theorem ins_len {S : List Int} {lo : Nat} (h : lo ≤ S.length) (x : Int) : (ins S lo x).length = S.length + 1 := by simp [ins]; omega
theorem ins_lt {S : List Int} {lo i : Nat} (h : lo ≤ S.length) (x : Int) (hi : i < lo) : (ins S lo x).getD i 0 = S.getD i 0 := by
  unfold ins
  simp only [List.getD]
  rw [List.getElem?_append_left (by simp; omega), List.getElem?_take, if_pos hi]
theorem ins_eq {S : List Int} {lo : Nat} (h : lo ≤ S.length) (x : Int) : (ins S lo x).getD lo 0 = x := by
  unfold ins
  simp only [List.getD]
  rw [List.getElem?_append_right (by simp; omega)]
  simp [show lo - min lo S.length = 0 by omega]
theorem ins_gt {S : List Int} {lo i : Nat} (h : lo ≤ S.length) (x : Int) (hi : lo < i) : (ins S lo x).getD i 0 = S.getD (i - 1) 0 := by
  unfold ins
  simp only [List.getD]
  rw [List.getElem?_append_right (by simp; omega), List.length_take, show i - min lo S.length = (i - 1 - lo) + 1 by omega, List.getElem?_cons_succ, List.getElem?_drop, show lo + (i - 1 - lo) = i - 1 by omega]
theorem mem_ins {S : List Int} {lo : Nat} {x y : Int} : y ∈ ins S lo x ↔ y ∈ S ∨ y = x := by
  unfold ins
  rw [List.mem_append, List.mem_cons]
  constructor
  · rintro (h | h | h)
    · exact .inl (List.mem_of_mem_take h)
    · exact .inr h
    · exact .inl (List.mem_of_mem_drop h)
  · rintro (h | h)
    · rw [← List.take_append_drop lo S, List.mem_append] at h
      rcases h with h | h
      · exact .inl h
      · exact .inr (.inr h)
    · exact .inr (.inl h)
theorem inc_ins {S : List Int} {lo : Nat} {x : Int} (hinc : Inc S) (hb : Between S x lo lo) (hx : ¬ (lo < S.length ∧ S.getD lo 0 = x)) : Inc (ins S lo x) := by
  have hl : lo ≤ S.length := hb.2.1
  intro i j hij hj
  rw [ins_len hl] at hj
  have hup : ∀ q, lo ≤ q → q < S.length → x < S.getD q 0 := by
    intro q h1 h2
    have h3 := hb.2.2.2 q h1 h2
    by_cases e : q = lo
    · subst e
      by_cases e2 : S.getD q 0 = x
      · exact absurd ⟨h2, e2⟩ hx
      · omega
    · have h4 := hb.2.2.2 lo (Nat.le_refl _) (by omega)
      have h5 := hinc lo q (by omega) h2
      omega
  by_cases h1 : j < lo
  · rw [ins_lt hl x (by omega), ins_lt hl x h1]; exact hinc i j hij (by omega)
  · by_cases h2 : j = lo
    · subst h2
      rw [ins_lt hl x hij, ins_eq hl]; exact hb.2.2.1 i hij
    · rw [ins_gt (i := j) hl x (by omega)]
      by_cases h3 : i < lo
      · rw [ins_lt hl x h3]
        have := hb.2.2.1 i h3
        have := hup (j - 1) (by omega) (by omega)
        omega
      · by_cases h4 : i = lo
        · subst h4
          rw [ins_eq hl]; exact hup (j - 1) (by omega) (by omega)
        · rw [ins_gt hl x (by omega)]
          exact hinc (i - 1) (j - 1) (by omega) (by omega)

/-- In the shift: a hole at j. -/
def sh (S : List Int) (j : Nat) : List Int := ins S j ((S ++ [0]).getD j 0)
theorem sh_start (S : List Int) : sh S S.length = S ++ [0] := by simp [sh, ins, List.getD]
theorem sh_len {S : List Int} {j : Nat} (h : j ≤ S.length) : (sh S j).length = S.length + 1 := ins_len h _
theorem sh_prev {S : List Int} {j : Nat} (h : j + 1 ≤ S.length) : (sh S (j + 1)).getD j 0 = S.getD j 0 := ins_lt h _ (by omega)
theorem ext_getD {a b : List Int} (hl : a.length = b.length) (h : ∀ i, i < a.length → a.getD i 0 = b.getD i 0) : a = b := by
  apply List.ext_getElem hl
  intro i h1 h2
  have := h i h1
  simpa [List.getD, h1, h2] using this
theorem getD_set {S : List Int} {j : Nat} (x : Int) (hj : j < S.length) (i : Nat) : (S.set j x).getD i 0 = if i = j then x else S.getD i 0 := by
  simp only [List.getD, List.getElem?_set]
  by_cases e : i = j
  · subst e; simp [hj]
  · simp [e, show ¬ j = i from fun h => e h.symm]
theorem sh_step {S : List Int} {j : Nat} (h : j + 1 ≤ S.length) : (sh S (j + 1)).set (j + 1) (S.getD j 0) = sh S j := by
  apply ext_getD
  · rw [List.length_set, sh_len h, sh_len (by omega)]
  · intro i hi
    rw [List.length_set, sh_len h] at hi
    rw [getD_set _ (by rw [sh_len h]; omega)]
    unfold sh
    by_cases e : i = j + 1
    · subst e
      rw [if_pos rfl, ins_gt (by omega) _ (by omega)]
      rfl
    · rw [if_neg e]
      by_cases h1 : i < j
      · rw [ins_lt h _ (by omega), ins_lt (by omega) _ h1]
      · by_cases h2 : i = j
        · subst h2
          rw [ins_lt h _ (by omega), ins_eq (by omega)]
          simp [List.getD, List.getElem?_append_left (show i < S.length by omega)]
        · rw [ins_gt h _ (by omega), ins_gt (by omega) _ (by omega)]
theorem sh_end {S : List Int} {j : Nat} (h : j ≤ S.length) (x : Int) : (sh S j).set j x = ins S j x := by
  apply ext_getD
  · rw [List.length_set, sh_len h, ins_len h]
  · intro i hi
    rw [List.length_set, sh_len h] at hi
    rw [getD_set _ (by rw [sh_len h]; omega)]
    unfold sh
    by_cases e : i = j
    · subst e; rw [if_pos rfl, ins_eq h]
    · rw [if_neg e]
      by_cases h1 : i < j
      · rw [ins_lt h _ h1, ins_lt h _ h1]
      · rw [ins_gt h _ (by omega), ins_gt h _ (by omega)]

theorem iC_set (S : List Int) (j : Nat) (x : Int) : (iC S).set j (.int .i64 x) = iC (S.set j x) := by simp [iC, List.map_set]
theorem iC_len (S : List Int) : (iC S).length = S.length := by simp [iC]

/-- The row so far. -/
structure DS (w : World) (S : List Int) (ov : Value) (wr : World) : Prop where
  own : wr.ownsRow 0 3 1 ov S.length (iC S)
  fr : ∀ g, ov.ownBlock = some g → w.heap.size ≤ g
  b : Below w.heap.size w wr
theorem DS.push {w wr w1 : World} {S : List Int} {ov : Value} {o : Obj} {g c : Nat} (h : DS w S ov wr) (hown : w1.ownsRow 0 3 1 (.slice (some ⟨g, 0, none⟩) (S.length + 1) c) (S.length + 1) (iC S ++ [.int .i64 0])) (hg : (wr.alloc o).grownBy w1 ov.ownBlock) (hloc : ov.ownBlock = some g ∨ g = wr.heap.size + 1) :
    w1.ownsRow 0 3 1 (.slice (some ⟨g, 0, none⟩) (S.length + 1) c) (S.length + 1) (iC (sh S S.length)) ∧ w.heap.size ≤ g ∧ Below w.heap.size w w1 := by
  have hsz := h.b.size
  refine ⟨?_, ?_, ?_⟩
  · rw [sh_start]; simpa [iC] using hown
  · rcases hloc with e | e
    · exact h.fr _ e
    · omega
  · exact (h.b.alloc hsz o).grown hg (by simp; omega) h.fr

/-- A row in block g of n cells. -/
def RowG (w0 : World) (g n c : Nat) (S : List Int) (wr : World) : Prop := wr.ownsRow 0 3 1 (.slice (some ⟨g, 0, none⟩) n c) n (iC S) ∧ w0.heap.size ≤ g ∧ Below w0.heap.size w0 wr
theorem RowG.len {w0 : World} {g n c : Nat} {S : List Int} {wr : World} (h : RowG w0 g n c S wr) : S.length = n := by have := h.1.1; rw [iC_len] at this; omega
theorem RowG.cell {w0 : World} {g n c : Nat} {S : List Int} {wr : World} (h : RowG w0 g n c S wr) {j : Nat} (hj : j < n) : wr.cell? ⟨g, j, none⟩ = some (.int .i64 (S.getD j 0)) := by
  have hl := h.len
  rw [World.ownsRow.cellAt h.1 j (by omega)]
  simp [iC, List.getD, show j < S.length by omega]
theorem RowG.frozen {w0 : World} {g n c : Nat} {S : List Int} {wr : World} (h : RowG w0 g n c S wr) (j : Nat) : wr.frozen? ⟨g, j, none⟩ = false := World.ownsRow.frozenAt h.1 j
theorem RowG.set {w0 : World} {g n c : Nat} {S : List Int} {wr : World} (h : RowG w0 g n c S wr) (j : Nat) (x : Int) : RowG w0 g n c (S.set j x) (wr.setCell ⟨g, j, none⟩ (.int .i64 x)) :=
  ⟨by rw [← iC_set]; exact (World.ownsRow.stored h.1 j _).1, h.2.1, h.2.2.setCell h.2.1 _⟩

theorem RowG.ds {w0 : World} {g n c : Nat} {S : List Int} {wr : World} (h : RowG w0 g n c S wr) (hn : S.length = n) : DS w0 S (.slice (some ⟨g, 0, none⟩) n c) wr := by
  subst hn
  refine ⟨h.1, fun q hq => ?_, h.2.2⟩
  rw [ob_slice] at hq
  obtain rfl : g = q := by simpa using hq
  exact h.2.1

/-- How zzDistinctSortedHB1 ends. -/
def DsEnd (xs : List Int) (w : World) (e : Ending) (w' : World) : Prop :=
  ∃ S ov, e = .returned ov ∧ DS w S ov w' ∧ Inc S ∧ (∀ y, y ∈ S ↔ y ∈ xs) ∧ S.length ≤ xs.length

set_option maxRecDepth 100000 in
set_option maxHeartbeats 4000000 in
theorem distinct_any (ao : Option Addr) (n c : Nat) (xs : List Int) (w : World) (hn : xs.length = n) (hl : n ≤ 4096) (hr : IRow w ao (iC xs)) : Calls Try.prog 15 #[.slice ao n c] w (DsEnd xs w) := by
  obtain ⟨i1, hj, hy0, hy1, hy2⟩ := info_parts Try.inf3
  have HR : Hid (IRow w ao (iC xs)) := hr
  have HN : Hid (xs.length = n) := hn
  clear hr hn
  go_enter Try.func15, Try.ntmps15
  go_wp2
  go_loopg [3, 4, 5, 6, 7, 8, 9] (n + 1) (fun g ov i _ _ _ _ _ wr => ∃ (k : Nat) (S : List Int), k ≤ n ∧ g = n + 1 - k ∧ i = .int .i64 k ∧ Hid (DS w S ov wr ∧ Inc S ∧ (∀ y, y ∈ S ↔ y ∈ xs.take k) ∧ S.length ≤ k))
  case atStart => exact ⟨0, [], Nat.zero_le _, rfl, rfl, ⟨World.ownsRow_nil _ _ _ _, fun g hg => by simp [Value.ownBlock] at hg, Below.refl _ _⟩, fun i j _ h => by simp at h, fun y => by simp, Nat.le_refl _⟩
  case round =>
    obtain ⟨k, S, hk, hg, rfl, HH⟩ := hrel
    by_cases hlt : k < n
    · obtain ⟨b, off, rfl, hcx⟩ := irow_i (HR.out.below HH.out.1.b) (k := k) (by have := HN.out; omega)
      obtain ⟨x, hx⟩ : ∃ x, xs.getD k 0 = x := ⟨_, rfl⟩
      rw [hx] at hcx
      have HX : Hid (∀ y, y ∈ xs.take (k + 1) ↔ y ∈ xs.take k ∨ y = x) := by
        intro y
        rw [take_snoc xs 0 (by have := HN.out; omega), hx]; simp
      have hSl : S.length ≤ 4096 := by have := HH.out.2.2.2; omega
      obtain ⟨ar, cr, hv, hir⟩ := own_irow HH.out.1.own
      subst hv
      have HIR : Hid (IRow wr ar (iC S)) := hir
      obtain ⟨w1, rfl⟩ : ∃ w1, w1 = wr := ⟨_, rfl⟩
      clear hx hir
      go_wp2
      go_loopg [6, 7, 8] (S.length + 1) (fun g lo hi _ wr => ∃ l h : Nat, lo = .int .i64 l ∧ hi = .int .i64 h ∧ l ≤ h ∧ h ≤ S.length ∧ g = h - l + 1 ∧ Hid (Between S x l h) ∧ wr = w1)
      case atStart => exact ⟨0, S.length, rfl, rfl, Nat.zero_le _, Nat.le_refl _, by omega, ⟨Nat.zero_le _, Nat.le_refl _, fun i hi => by omega, fun i h1 h2 => by omega⟩, rfl⟩
      case round =>
        obtain ⟨l, h, rfl, rfl, hlh, hhn, hg2, HB, rfl⟩ := hrel
        by_cases hlt2 : l < h
        · obtain ⟨mid, hmid⟩ : ∃ mid, mid = l + (h - l) / 2 := ⟨_, rfl⟩
          have hm1 : l ≤ mid := by omega
          have hm2 : mid < h := by omega
          have hme : (l : Int) + ((h : Int) - (l : Int)) / 2 = (mid : Int) := by omega
          obtain ⟨b2, off2, rfl, hcm⟩ := irow_i HIR.out (k := mid) (by omega)
          obtain ⟨y, hy⟩ : ∃ y, S.getD mid 0 = y := ⟨_, rfl⟩
          rw [hy] at hcm
          clear hmid
          by_cases hyx : y < x
          · have HB2 : Hid (Between S x (mid + 1) h) := HB.out.up HH.out.2.1 hm1 hm2 (by rw [hy]; exact hyx)
            clear hy
            go_wp2
            go_roundg (h - (mid + 1) + 1)
            case measure => omega
            case rel => exact ⟨mid + 1, h, by go_num, rfl, by omega, hhn, rfl, HB2, rfl⟩
          · have HB2 : Hid (Between S x l mid) := HB.out.down HH.out.2.1 hm1 hm2 (by rw [hy]; exact hyx)
            clear hy
            go_wp2
            go_roundg (mid - l + 1)
            case measure => omega
            case rel => exact ⟨l, mid, rfl, by go_num, hm1, by omega, rfl, HB2, rfl⟩
        · obtain rfl : l = h := by omega
          clear hlt2 hlh
          go_upto_region 12 with fail
          go_cut [51] (fun s wc => s = .bool (decide (l < S.length ∧ S.getD l 0 = x)) ∧ wc = wr)
          case first =>
            by_cases hll : l < S.length
            · obtain ⟨b2, off2, rfl, hcm⟩ := irow_i HIR.out (k := l) hll
              obtain ⟨y, hy⟩ : ∃ y, S.getD l 0 = y := ⟨_, rfl⟩
              rw [hy] at hcm
              by_cases hyx : y = x
              · have hb1 : (y == x) = true := by simp [hyx]
                have HD : Hid (l < S.length ∧ S.getD l 0 = x) := ⟨hll, by rw [hy, hyx]⟩
                clear hyx hy
                go_wp2
                go_meet
                exact ⟨congrArg Value.bool (decide_eq_true HD.out).symm, rfl⟩
              · have hb1 : (y == x) = false := by simp [hyx]
                have HD : Hid (¬ (l < S.length ∧ S.getD l 0 = x)) := fun h => hyx (by rw [← hy]; exact h.2)
                clear hyx hy
                go_wp2
                go_meet
                exact ⟨congrArg Value.bool (decide_eq_false HD.out).symm, rfl⟩
            · have HD : Hid (¬ (l < S.length ∧ S.getD l 0 = x)) := fun h => hll h.1
              go_wp2
              go_meet
              exact ⟨congrArg Value.bool (decide_eq_false HD.out).symm, rfl⟩
          case rest =>
            obtain ⟨rfl, hwc⟩ := hcut
            subst hwc
            by_cases hp : l < S.length ∧ S.getD l 0 = x
            · have hd : decide (l < S.length ∧ S.getD l 0 = x) = true := decide_eq_true hp
              have HS : Hid (∀ y, y ∈ S ↔ y ∈ xs.take (k + 1)) := by
                intro y
                rw [HX.out y, ← HH.out.2.2.1 y]
                constructor
                · exact .inl
                · rintro (h | rfl)
                  · exact h
                  · have hm : S[l]'hp.1 ∈ S := List.getElem_mem hp.1
                    have he : S[l]'hp.1 = y := by simpa [List.getD, hp.1] using hp.2
                    rwa [he] at hm
              rw [hd]
              clear hp hd
              go_wp2
              go_roundg (n + 1 - (k + 1))
              case measure => omega
              case rel => exact ⟨k + 1, S, by omega, rfl, by go_num, HH.out.1, HH.out.2.1, HS.out, by have := HH.out.2.2.2; omega⟩
            · have hd : decide (l < S.length ∧ S.getD l 0 = x) = false := decide_eq_false hp
              have HI : Hid (Inc (ins S l x) ∧ (∀ y, y ∈ ins S l x ↔ y ∈ xs.take (k + 1)) ∧ (ins S l x).length = S.length + 1) := ⟨inc_ins HH.out.2.1 HB.out hp, fun y => by rw [mem_ins, HX.out y, HH.out.2.2.1 y], ins_len hhn x⟩
              have HDS : Hid (DS w S (.slice ar S.length cr) wc ∧ S.length ≤ k) := ⟨HH.out.1, HH.out.2.2.2⟩
              rw [hd]
              clear hp hd HH HB HX hcx HIR
              go_wp2_with (at_builtin; refine wpList_append_lies _ rfl (.tmp 52) (.tmp 53) 28 rfl 0 3 i1 (.int .i64 0) 1 8 Try.underlying28 hj hy0 hy1 hy2 rfl (by decide) (.slice ar S.length cr) S.length (iC S) rfl (HDS.out.1.own.alloc _) ⟨wc.heap.size, 0, none⟩ 1 1 [.int .i64 0] rfl rfl (news0 _ _ _) (one_int _) (by decide) (by unfold maxLen; omega) (by omega) (Nat.zero_le _) (wc.heap.size + 1) (by simp) ?_; intro gT cT w2 hownT hgrowT hlocT hltT; have HF : Hid (RowG w gT (S.length + 1) cT (sh S S.length) w2) := HDS.out.1.push hownT hgrowT hlocT; clear hownT hgrowT hlocT hltT)
              go_loopg [9] (S.length - l + 1) (fun g jv wr => ∃ j : Nat, l ≤ j ∧ j ≤ S.length ∧ g = j - l + 1 ∧ jv = .int .i64 j ∧ Hid (RowG w gT (S.length + 1) cT (sh S j) wr))
              case atStart => exact ⟨S.length, hhn, Nat.le_refl _, by omega, by go_num, HF⟩
              case round =>
                obtain ⟨j, hlj, hjS, hgj, rfl, HJ⟩ := hrel
                clear HF
                by_cases hjl : l < j
                · obtain ⟨q, rfl⟩ : ∃ q, j = q + 1 := ⟨j - 1, by omega⟩
                  have hc1 := HJ.out.cell (j := q) (by omega)
                  rw [sh_prev hjS] at hc1
                  have hc2 := HJ.out.cell (j := q + 1) (by omega)
                  obtain ⟨z, hz⟩ : ∃ z, (sh S (q + 1)).getD (q + 1) 0 = z := ⟨_, rfl⟩
                  rw [hz] at hc2
                  have hfz := HJ.out.frozen (q + 1)
                  have HS := hide3 (HJ.out.set (q + 1) (S.getD q 0))
                  rw [sh_step hjS] at HS
                  obtain ⟨y, hy⟩ : ∃ y, S.getD q 0 = y := ⟨_, rfl⟩
                  rw [hy] at HS hc1
                  clear hy hz
                  go_wp2
                  go_roundg (q - l + 1)
                  case measure => omega
                  case rel => exact ⟨q, by omega, by omega, rfl, by go_num, HS⟩
                · obtain rfl : j = l := by omega
                  have hc2 := HJ.out.cell (j := j) (by omega)
                  obtain ⟨z, hz⟩ : ∃ z, (sh S j).getD j 0 = z := ⟨_, rfl⟩
                  rw [hz] at hc2
                  have hfz := HJ.out.frozen j
                  have HS := hide3 (HJ.out.set j x)
                  rw [sh_end hjS] at HS
                  clear hz
                  go_wp2
                  go_roundg (n + 1 - (k + 1))
                  case measure => omega
                  case rel => exact ⟨k + 1, ins S j x, by omega, rfl, by go_num, HS.out.ds HI.out.2.2, HI.out.1, HI.out.2.1, by rw [HI.out.2.2]; have := HDS.out.2; omega⟩
    · have HF : Hid (DS w S u3 wr ∧ Inc S ∧ (∀ y, y ∈ S ↔ y ∈ xs) ∧ S.length ≤ xs.length) := by
        have h1 := HH.out
        rw [List.take_of_length_le (by have := HN.out; omega)] at h1
        exact ⟨h1.1, h1.2.1, h1.2.2.1, by have := HN.out; have := h1.2.2.2; omega⟩
      go_wp2
      go_ret
      exact ⟨S, _, rfl, HF.out⟩
end Go.Proofs.Qxb6603412a
