/-
  zzKeptHB1.
-/
import Derived.Test.Qxb6603412aB
namespace Go.Proofs.Qxb6603412a
open Go.RowKit Go.Maps
set_option linter.unusedVariables false

theorem Try.inf3 : (Try.prog.info? 3).map (fun i => (i.zero, i.size, i.bytes)) = some (some (.int .i64 0), 1, 8) := by kernel_rfl
theorem Try.inf4 : (Try.prog.info? 4).map (fun i => (i.zero, i.size, i.bytes)) = some (some (.bool false), 1, 1) := by kernel_rfl

/-- What the map holds at a key. -/
def cOf (D : DataW Unit) (t : Int) : Int := match D.atKey (.int .i64 t) (.lit (.int .i64 0)) with
  | .lit (.int _ c) => c
  | _ => 0
theorem cOf_of {D : DataW Unit} {t c : Int} (h : D.atKey (.int .i64 t) (.lit (.int .i64 0)) = .lit (.int .i64 c)) : c = cOf D t := by
  unfold cOf; rw [h]

def keptB (D : DataW Unit) (g : Int × Int × Bool) : Bool := Maps.has D (.int .i64 g.1) && (cOf D g.1 == g.2.1)
/-- The kept locks: transaction, exclusive. -/
def kept (D : DataW Unit) (G : List (Int × Int × Bool)) : List (Int × Bool) := (G.filter (keptB D)).map fun g => (g.1, g.2.2)

theorem take_snoc {α : Type} (l : List α) (d : α) {k : Nat} (h : k < l.length) : l.take (k + 1) = l.take k ++ [l.getD k d] := by
  rw [List.take_succ_eq_append_getElem h]
  simp [List.getD, h]
theorem kept_yes {D : DataW Unit} {G : List (Int × Int × Bool)} {k : Nat} (hk : k < G.length) {g : Int × Int × Bool} (e : G.getD k (0, 0, false) = g) (h : keptB D g = true) : kept D (G.take (k + 1)) = kept D (G.take k) ++ [(g.1, g.2.2)] := by
  unfold kept
  rw [take_snoc G (0, 0, false) hk, e, List.filter_append, List.map_append]
  simp [h]
theorem kept_no {D : DataW Unit} {G : List (Int × Int × Bool)} {k : Nat} (hk : k < G.length) {g : Int × Int × Bool} (e : G.getD k (0, 0, false) = g) (h : keptB D g = false) : kept D (G.take (k + 1)) = kept D (G.take k) := by
  unfold kept
  rw [take_snoc G (0, 0, false) hk, e, List.filter_append, List.map_append]
  simp [h]
theorem kept_len (D : DataW Unit) (G : List (Int × Int × Bool)) (k : Nat) : (kept D (G.take k)).length ≤ k := by
  unfold kept
  rw [List.length_map]
  exact Nat.le_trans (List.length_filter_le _ _) (List.length_take_le _ _)

/-- The cells of the two lists. -/
def tC (K : List (Int × Bool)) : List Value := K.map fun x => .int .i64 x.1
def wC (K : List (Int × Bool)) : List Value := K.map fun x => .bool x.2
theorem tC_snoc (K : List (Int × Bool)) (t : Int) (x : Bool) : tC (K ++ [(t, x)]) = tC K ++ [.int .i64 t] := by simp [tC]
theorem wC_snoc (K : List (Int × Bool)) (t : Int) (x : Bool) : wC (K ++ [(t, x)]) = wC K ++ [.bool x] := by simp [wC]

/-- The two slices in the loop. -/
def KS (w : World) (K : List (Int × Bool)) (tv wv : Value) (wr : World) : Prop :=
  wr.ownsRow 0 3 1 tv K.length (tC K) ∧ wr.ownsRow 0 4 1 wv K.length (wC K) ∧ Fr w.heap.size wr tv ∧ Fr w.heap.size wr wv ∧ Ap tv wv ∧ Below w.heap.size w wr

theorem KS.alloc {w : World} {K : List (Int × Bool)} {tv wv : Value} {wr : World} (h : KS w K tv wv wr) (o : Obj) : KS w K tv wv (wr.alloc o) :=
  ⟨h.1.alloc o, h.2.1.alloc o, fun g hg => by have := h.2.2.1 g hg; simp; omega, fun g hg => by have := h.2.2.2.1 g hg; simp; omega, h.2.2.2.2.1, h.2.2.2.2.2.alloc h.2.2.2.2.2.size o⟩

theorem news1 (wr : World) (o : Obj) (c : Value) (ty : TypeId) : ∀ j u, [c][j]? = some u → ((wr.alloc o).alloc (.cells #[c] ty)).cell? ((⟨wr.heap.size + 1, 0, none⟩ : Addr).add j) = some u := by
  intro j u hj
  match j, hj with
  | 0, hj =>
    simp at hj; subst hj
    simp [Addr.add]
theorem news0 (wr : World) (c : Value) (ty : TypeId) : ∀ j u, [c][j]? = some u → (wr.alloc (.cells #[c] ty)).cell? ((⟨wr.heap.size, 0, none⟩ : Addr).add j) = some u := by
  intro j u hj
  match j, hj with
  | 0, hj => simp at hj; subst hj; simp [Addr.add]
theorem one_int (n : Int) : ∀ u ∈ [Value.int .i64 n], u.oneCell' = true := by
  intro u hu; simp at hu; subst hu; rfl
theorem one_bool (n : Bool) : ∀ u ∈ [Value.bool n], u.oneCell' = true := by
  intro u hu; simp at hu; subst hu; rfl

theorem hide3 {p : Prop} (h : p) : Hid p := h

theorem ob_slice (g n c : Nat) : (Value.slice (some ⟨g, 0, none⟩) n c).ownBlock = some g := rfl

/-- Between the two appends. -/
theorem KS.first {w : World} {K : List (Int × Bool)} {tv wv : Value} {wr w1 : World} {o1 o2 : Obj} {gT : Nat} (h : KS w K tv wv wr) (hg : ((wr.alloc o1).alloc o2).grownBy w1 tv.ownBlock) (hloc : tv.ownBlock = some gT ∨ gT = wr.heap.size + 2) (hlt : gT < w1.heap.size) :
    w1.ownsRow 0 4 1 wv K.length (wC K) ∧ (w.heap.size ≤ gT) ∧ Fr w.heap.size w1 wv ∧ (wv.ownBlock ≠ some gT) ∧ Below w.heap.size w w1 ∧ (∀ j, w1.cell? ⟨wr.heap.size, j, none⟩ = (wr.alloc o1).cell? ⟨wr.heap.size, j, none⟩) := by
  have hsz := h.2.2.2.2.2.size
  have hgs := hg.size
  simp at hgs
  have hnew : tv.ownBlock ≠ some wr.heap.size := fun e => by have := (h.2.2.1 _ e).2; omega
  refine ⟨?_, ?_, fun g hgv => ?_, ?_, ?_, fun j => ?_⟩
  · refine own_keepV h.2.1 fun g hgv => ?_
    have hlt2 := (h.2.2.2.1 g hgv).2
    rw [hg.block g (by simp; omega) (fun e => h.2.2.2.2.1 g e.symm hgv)]
    rw [Below.heap_alloc _ _ _ (by simp; omega), Below.heap_alloc _ _ _ hlt2]
  · rcases hloc with e | e
    · exact (h.2.2.1 _ e).1
    · omega
  · have := h.2.2.2.1 g hgv; omega
  · rcases hloc with e | e
    · exact h.2.2.2.2.1 _ e
    · intro e2; have := (h.2.2.2.1 _ e2).2; omega
  · exact ((h.2.2.2.2.2.alloc hsz o1).alloc (by simp; omega) o2).grown hg (by simp; omega) (fun q hq => (h.2.2.1 q hq).1)
  · refine (World.cell?_of_block (hg.block _ (by simp; omega) (fun e => hnew e.symm))).trans ?_
    exact World.cell?_of_block (Below.heap_alloc _ _ _ (by simp))

theorem KS.cell {w : World} {K : List (Int × Bool)} {tv wv : Value} {wr w1 : World} {o2 : Obj} {a b c : Value} {ty gT : Nat} (h : KS w K tv wv wr) (hg : ((wr.alloc (.cells #[a, b, c] ty)).alloc o2).grownBy w1 tv.ownBlock) (hloc : tv.ownBlock = some gT ∨ gT = wr.heap.size + 2) (hlt : gT < w1.heap.size) :
    w1.cell? ⟨wr.heap.size, 2, none⟩ = some c := by
  rw [(h.first hg hloc hlt).2.2.2.2.2 2]; simp

/-- Behind both. -/
theorem KS.second {w : World} {K : List (Int × Bool)} {wv : Value} {w1 w2 : World} {t : Int} {x : Bool} {o : Obj} {gT cT gW cW : Nat}
    (hT : w1.ownsRow 0 3 1 (.slice (some ⟨gT, 0, none⟩) (K.length + 1) cT) (K.length + 1) (tC K ++ [.int .i64 t])) (hgT : w.heap.size ≤ gT) (hgT1 : gT < w1.heap.size) (hF : Fr w.heap.size w1 wv) (hne : wv.ownBlock ≠ some gT) (hb : Below w.heap.size w w1)
    (hW : w2.ownsRow 0 4 1 (.slice (some ⟨gW, 0, none⟩) (K.length + 1) cW) (K.length + 1) (wC K ++ [.bool x])) (hg : (w1.alloc o).grownBy w2 wv.ownBlock) (hloc : wv.ownBlock = some gW ∨ gW = w1.heap.size + 1) (hlt : gW < w2.heap.size) :
    KS w (K ++ [(t, x)]) (.slice (some ⟨gT, 0, none⟩) (K.length + 1) cT) (.slice (some ⟨gW, 0, none⟩) (K.length + 1) cW) w2 := by
  have hsz := hb.size
  have hgs := hg.size
  simp at hgs
  have hlen : (K ++ [(t, x)]).length = K.length + 1 := by simp
  refine ⟨?_, ?_, fun g hgv => ?_, fun g hgv => ?_, fun g hgv => ?_, ?_⟩
  · rw [hlen, tC_snoc]
    refine own_keepV hT fun g hgv => ?_
    rw [ob_slice] at hgv
    obtain rfl : gT = g := by simpa using hgv
    rw [hg.block _ (by simp; omega) (fun e => hne e.symm), Below.heap_alloc _ _ _ hgT1]
  · rw [hlen, wC_snoc]; exact hW
  · rw [ob_slice] at hgv
    obtain rfl : gT = g := by simpa using hgv
    omega
  · rw [ob_slice] at hgv
    obtain rfl : gW = g := by simpa using hgv
    refine ⟨?_, hlt⟩
    rcases hloc with e | e
    · exact (hF _ e).1
    · omega
  · rw [ob_slice] at hgv ⊢
    obtain rfl : gT = g := by simpa using hgv
    intro e2
    obtain rfl : gW = gT := by simpa using e2
    rcases hloc with e | e
    · exact hne e
    · omega
  · exact (hb.alloc hsz o).grown hg (by simp; omega) (fun q hq => (hF q hq).1)

/-- How zzKeptHB1 ends. -/
def KEnd (D : DataW Unit) (G : List (Int × Int × Bool)) (w : World) (e : Ending) (w' : World) : Prop :=
  Below w.heap.size w w' ∧ (e = .returned (.tuple #[.slice none 0 0, .slice none 0 0, .bool false]) ∨
    ((∀ x ∈ kept D G, 0 ≤ x.1) ∧ ∃ tv wv, e = .returned (.tuple #[tv, wv, .bool true]) ∧ KS w (kept D G) tv wv w'))

set_option maxRecDepth 100000 in
set_option maxHeartbeats 2000000 in
theorem kept_any (ao : Option Addr) (n c bm N : Nat) (G : List (Int × Int × Bool)) (D : DataW Unit) (w : World) (hn : G.length = n) (hl : n ≤ 4096) (hr : TRow w ao (G.map gV)) (hwf : WfG G) (hm : w.ownsMap Try.prog 3 (plainElem Try.prog 3) bm N D) :
    Calls Try.prog 10 #[.slice ao n c, .map (some bm)] w (KEnd D G w) := by
  obtain ⟨i0, hi, hz0, hz1, hz2⟩ := info_parts Try.inf3
  obtain ⟨i1, hj, hy0, hy1, hy2⟩ := info_parts Try.inf4
  have HR : Hid (TRow w ao (G.map gV)) := hr
  have HN : Hid (G.length = n) := hn
  have HM : Hid (w.ownsMap Try.prog 3 (plainElem Try.prog 3) bm N D) := hm
  have HW : Hid (WfG G) := hwf
  have hbm := map_lt hm
  clear hr hn hm hwf
  go_enter Try.func10, Try.ntmps10
  go_wp2
  go_loopg [7, 8, 9, 10, 11, 12] (n + 1) (fun g tv wv i _ _ _ wr => ∃ k : Nat, k ≤ n ∧ g = n + 1 - k ∧ i = .int .i64 k ∧ Hid ((∀ x ∈ kept D (G.take k), 0 ≤ x.1) ∧ KS w (kept D (G.take k)) tv wv wr))
  case atStart => exact ⟨0, Nat.zero_le _, rfl, rfl, fun x hx => by simp [kept] at hx, World.ownsRow_nil _ _ _ _, World.ownsRow_nil _ _ _ _, fun g hg => by simp [Value.ownBlock] at hg, fun g hg => by simp [Value.ownBlock] at hg, fun g hg => by simp [Value.ownBlock] at hg, Below.refl _ _⟩
  case round =>
    obtain ⟨k, hk, hg, rfl, HH⟩ := hrel
    obtain ⟨K, hK⟩ : ∃ K, kept D (G.take k) = K := ⟨_, rfl⟩
    have HK : Hid (kept D (G.take k) = K ∧ K.length ≤ k) := ⟨hK, by rw [← hK]; exact kept_len D G k⟩
    rw [hK] at HH
    clear hK
    by_cases hlt : k < n
    · have hkG : k < G.length := by have := HN.out; omega
      obtain ⟨b, off, t, i, x, rfl, hG, h0, h1, h2⟩ := grow_at (HR.out.below HH.out.2.2.2.2.2.2) (k := k) hkG
      have hwt := HW.out.at hkG hG
      have hbw : b < wr.heap.size := World.block_lt_of_cell? wr _ h0
      have HML : Hid ((wr.alloc (.cells #[.int .i64 t, .int .i64 i, .bool x] 58)).ownsMap Try.prog 3 (plainElem Try.prog 3) bm N D) := (map_keep HM.out (HH.out.2.2.2.2.2.2.block bm hbm)).alloc _
      have HKey : Hid (keyOf Try.prog 3 (.int .i64 t) = some (.int .i64 t)) := keyOf_int_mk Try.underlying3 hwt
      have HG : Hid (G.getD k (0, 0, false) = (t, i, x) ∧ k < G.length) := ⟨hG, hkG⟩
      obtain ⟨cc, hcc⟩ : ∃ cc, cOf D t = cc := ⟨_, rfl⟩
      have HC : Hid (∀ c, D.atKey (.int .i64 t) (.lit (.int .i64 0)) = .lit (.int .i64 c) → c = cc) := fun c h => by rw [← hcc]; exact cOf_of h
      have HCC : Hid (cOf D t = cc) := hcc
      clear hG hkG hwt hcc
      cases hhas : Maps.has D (.int .i64 t) with
      | false =>
        have HS : Hid ((∀ x ∈ kept D (G.take (k + 1)), 0 ≤ x.1) ∧ KS w (kept D (G.take (k + 1))) u7 u8 (wr.alloc (.cells #[.int .i64 t, .int .i64 i, .bool x] 58))) := by
          rw [kept_no HG.out.2 HG.out.1 (by simp [keptB, hhas]), HK.out.1]
          exact ⟨HH.out.1, HH.out.2.alloc _⟩
        go_wp2_with (at_lookup; refine wpList_lookup_own_ok_int _ rfl _ _ 24 rfl 3 3 .i64 law3 Try.underlying24 Try.underlying3 (zero3 _) bm N D rfl HML.out _ _ rfl HKey.out ?_; intro c hat hwc; obtain rfl : c = cc := HC.out c hat; clear hat hwc; rw [hhas])
        go_roundg (n + 1 - (k + 1))
        case measure => omega
        case rel => exact ⟨k + 1, by omega, rfl, by go_num, HS⟩
      | true =>
        by_cases hci : cc = i
        rotate_left
        · have hcib : (cc != i) = true := by simpa using hci
          have HS : Hid ((∀ x ∈ kept D (G.take (k + 1)), 0 ≤ x.1) ∧ KS w (kept D (G.take (k + 1))) u7 u8 (wr.alloc (.cells #[.int .i64 t, .int .i64 i, .bool x] 58))) := by
            rw [kept_no HG.out.2 HG.out.1 (by simp [keptB, hhas, HCC.out, hci]), HK.out.1]
            exact ⟨HH.out.1, HH.out.2.alloc _⟩
          clear hci
          go_wp2_with (at_lookup; refine wpList_lookup_own_ok_int _ rfl _ _ 24 rfl 3 3 .i64 law3 Try.underlying24 Try.underlying3 (zero3 _) bm N D rfl HML.out _ _ rfl HKey.out ?_; intro c hat hwc; obtain rfl : c = cc := HC.out c hat; clear hat hwc; rw [hhas])
          go_roundg (n + 1 - (k + 1))
          case measure => omega
          case rel => exact ⟨k + 1, by omega, rfl, by go_num, HS⟩
        · subst hci
          have hcib : (cc != cc) = false := by simp
          have HKept : Hid (kept D (G.take (k + 1)) = K ++ [(t, x)]) := by
            show _ = _
            rw [kept_yes HG.out.2 HG.out.1 (by simp [keptB, hhas, HCC.out]), HK.out.1]
          by_cases htn : t < 0
          · go_wp2_with (at_lookup; refine wpList_lookup_own_ok_int _ rfl _ _ 24 rfl 3 3 .i64 law3 Try.underlying24 Try.underlying3 (zero3 _) bm N D rfl HML.out _ _ rfl HKey.out ?_; intro c hat hwc; obtain rfl : c = cc := HC.out c hat; clear hat hwc; rw [hhas])
            go_ret3
            exact ⟨(HH.out.2.alloc _).2.2.2.2.2, .inl rfl⟩
          · have HNN : Hid (∀ y ∈ K ++ [(t, x)], 0 ≤ y.1) := by
              intro y hy
              rcases List.mem_append.1 hy with hy | hy
              · exact HH.out.1 y hy
              · simp at hy; subst hy; show 0 ≤ t; omega
            have hKl : K.length ≤ 4096 := by have := HK.out.2; omega
            go_wp2_with (first
              | (at_lookup; refine wpList_lookup_own_ok_int _ rfl _ _ 24 rfl 3 3 .i64 law3 Try.underlying24 Try.underlying3 (zero3 _) bm N D rfl HML.out _ _ rfl HKey.out ?_; intro c hat hwc; obtain rfl : c = cc := HC.out c hat; clear hat hwc; rw [hhas])
              | (at_builtin; refine wpList_append_lies _ rfl (.tmp 41) (.tmp 44) 28 rfl 0 3 i0 (.int .i64 0) 1 8 Try.underlying28 hi hz0 hz1 hz2 rfl (by decide) u7 K.length (tC K) rfl ((HH.out.2.1.alloc _).alloc _) ⟨wr.heap.size + 1, 0, none⟩ 1 1 [.int .i64 t] rfl rfl (news1 _ _ _ _) (one_int _) (by decide) (by unfold maxLen; omega) (by omega) (Nat.zero_le _) (wr.heap.size + 2) (by simp) ?_; intro gT cT w1 hownT hgrowT hlocT hltT; have HT : Hid (w1.ownsRow 0 3 1 (.slice (some ⟨gT, 0, none⟩) (K.length + 1) cT) (K.length + 1) (tC K ++ [.int .i64 t]) ∧ gT < w1.heap.size) := ⟨hownT, hltT⟩; have HF := hide3 (HH.out.2.first hgrowT hlocT hltT); have hcx := HH.out.2.cell hgrowT hlocT hltT; clear hownT hgrowT hlocT hltT)
              | (at_builtin; refine wpList_append_lies _ rfl (.tmp 46) (.tmp 49) 29 rfl 0 4 i1 (.bool false) 1 1 Try.underlying29 hj hy0 hy1 hy2 rfl (by decide) u8 K.length (wC K) rfl (HF.out.1.alloc _) ⟨w1.heap.size, 0, none⟩ 1 1 [.bool x] rfl rfl (news0 _ _ _) (one_bool _) (by decide) (by unfold maxLen; omega) (by omega) (Nat.zero_le _) (w1.heap.size + 1) (by simp) ?_; intro gW cW w2 hownW hgrowW hlocW hltW; have HS := hide3 (KS.second (x := x) HT.out.1 HF.out.2.1 HT.out.2 HF.out.2.2.1 HF.out.2.2.2.1 HF.out.2.2.2.2.1 hownW hgrowW hlocW hltW); clear hownW hgrowW hlocW hltW))
            go_roundg (n + 1 - (k + 1))
            case measure => omega
            case rel => exact ⟨k + 1, by omega, rfl, by go_num, by rw [HKept.out]; exact ⟨HNN.out, HS.out⟩⟩
    · have HF : Hid ((∀ x ∈ kept D G, 0 ≤ x.1) ∧ KS w (kept D G) u7 u8 wr) := by
        have h1 := HH.out
        rw [← HK.out.1, List.take_of_length_le (by have := HN.out; omega)] at h1
        exact h1
      clear HH
      go_wp2
      go_ret3
      exact ⟨HF.out.2.2.2.2.2.2, .inr ⟨HF.out.1, _, _, rfl, HF.out.2⟩⟩
end Go.Proofs.Qxb6603412a
