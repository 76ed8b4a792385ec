/-
  appendConflicts: the walk.
-/
import Derived.Test.Qxb6603412aD
import Derived.Deep.DeepCutAuto
import Derived.BigQuiet
namespace Go.Proofs.Qxb6603412a
open Go.RowKit Go.Maps
set_option linter.unusedVariables false

/-- In a round: the grant lies in block S. -/
structure CU (w0 : World) (ev0 : Value) (E : List (Int × Int × Int)) (ev : Value) (R : List Int) (rv : Value) (S : Nat) (t : Int) (x : Bool) (wc : World) : Prop where
  ac : AC w0 ev0 E ev R rv wc
  c0 : wc.cell? ⟨S, 0, none⟩ = some (.int .i64 t)
  c2 : wc.cell? ⟨S, 2, none⟩ = some (.bool x)
  ne : ev.ownBlock ≠ some S
  nr : rv.ownBlock ≠ some S
  lt : S < wc.heap.size

section
variable {w0 : World} {ev0 : Value} {E : List (Int × Int × Int)} {ev : Value} {R : List Int} {rv : Value} {S : Nat} {t : Int} {x : Bool} {wr : World}

theorem CU.first (h : AC w0 ev0 E ev R rv wr) (t i : Int) (x : Bool) (ty : TypeId) : CU w0 ev0 E ev R rv wr.heap.size t x (wr.alloc (.cells #[.int .i64 t, .int .i64 i, .bool x] ty)) :=
  ⟨h.alloc _, by simp, by simp, fun e => Nat.lt_irrefl _ (own_lt h.e _ e), fun e => Nat.lt_irrefl _ (own_lt h.r _ e), by simp⟩

theorem CU.pushE {w1 : World} {o : Obj} {g c : Nat} {f t' p : Int} (h : CU w0 ev0 E ev R rv S t x wr)
    (hown : w1.ownsRow 0 40 3 (.slice (some ⟨g, 0, none⟩) (E.length + 1) c) (E.length + 1) (flat (E.map eV) ++ [.int .i64 f, .int .i64 t', .int .i64 p])) (hg : (wr.alloc o).grownBy w1 ev.ownBlock)
    (hloc : ev.ownBlock = some g ∨ g = wr.heap.size + 1) : CU w0 ev0 (E ++ [(f, t', p)]) (.slice (some ⟨g, 0, none⟩) (E.length + 1) c) R rv S t x w1 := by
  have hlt := h.lt
  have hk : ∀ j, w1.cell? ⟨S, j, none⟩ = wr.cell? ⟨S, j, none⟩ := fun j => (grown_cell hg (by simp; omega) h.ne j).trans (World.cell?_of_block (Below.heap_alloc _ _ _ hlt))
  refine ⟨h.ac.pushE hown hg hloc, (hk 0).trans h.c0, (hk 2).trans h.c2, ?_, h.nr, ?_⟩
  · rw [ob_slice]
    intro e
    obtain rfl : g = S := by simpa using e
    rcases hloc with e | e
    · exact h.ne e
    · omega
  · have := hg.size; simp at this; omega

theorem e2_snoc {pg t : Int} {rd : List Int} {j : Nat} (hj : j < rd.length) {r : Int} (e : rd.getD j 0 = r) : e2 pg t (rd.take (j + 1)) = e2 pg t (rd.take j) ++ if r = t then [] else [(r, t, pg)] := by
  unfold e2
  rw [take_snoc rd 0 hj, e, List.filter_append, List.map_append]
  by_cases h : r = t <;> simp [h]
end

theorem news3' (wr : World) (o : Obj) (a b c : Value) (ty : TypeId) : ∀ j u, [a, b, c][j]? = some u → ((wr.alloc o).alloc (.cells #[a, b, c] ty)).cell? ((⟨wr.heap.size + 1, 0, none⟩ : Addr).add j) = some u := by
  have h := news3 (wr.alloc o) a b c ty
  have e : (wr.alloc o).heap.size = wr.heap.size + 1 := by simp
  rw [e] at h
  exact h

theorem AC.cutN {w0 : World} {ev0 : Value} {E : List (Int × Int × Int)} {ev : Value} {R : List Int} {rv : Value} {wr : World} (h : AC w0 ev0 E ev R rv wr) : AC w0 ev0 E ev [] (.slice none 0 0) wr :=
  ⟨h.e, World.ownsRow_nil _ _ _ _, h.gr, h.eb, fun g hg => by simp [Value.ownBlock] at hg, fun g _ h => by simp [Value.ownBlock] at h⟩
theorem AC.cutS {w0 : World} {ev0 : Value} {E : List (Int × Int × Int)} {ev : Value} {R : List Int} {g n c : Nat} {wr : World} (hn : R.length = n) (h : AC w0 ev0 E ev R (.slice (some ⟨g, 0, none⟩) n c) wr) : AC w0 ev0 E ev [] (.slice (some ⟨g, 0, none⟩) 0 c) wr := by
  subst hn
  exact ⟨h.e, own_cut h.r, h.gr, h.eb, h.rb, h.ap⟩

theorem ac_read {E : List (Int × Int × Int)} {w0 wr : World} {ev0 ev : Value} {R : List Int} {ao : Option Addr} {c j : Nat} (h : AC w0 ev0 E ev R (.slice ao R.length c) wr) (hj : j < R.length) :
    ∃ g r, ao = some ⟨g, 0, none⟩ ∧ R.getD j 0 = r ∧ wr.cell? ⟨g, j, none⟩ = some (.int .i64 r) := by
  rcases own_shape h.r with ⟨e, h0⟩ | ⟨g, c', e, _, _⟩
  · omega
  · obtain ⟨rfl, rfl⟩ : ao = some ⟨g, 0, none⟩ ∧ c = c' := by simpa using e
    refine ⟨g, _, rfl, rfl, ?_⟩
    rw [World.ownsRow.cellAt h.r j (by omega)]
    simp [List.getD, hj]

set_option maxRecDepth 100000 in
set_option maxHeartbeats 4000000 in
theorem ac_any (ev0 : Value) (E0 : List (Int × Int × Int)) (pg : Int) (ao : Option Addr) (n c bm N : Nat) (G : List (Int × Int × Bool)) (D : DataW Unit) (w : World) (hn : G.length = n) (hl : n ≤ 4096) (hwf : WfG G) (hel : E0.length ≤ 100000)
    (hE : w.ownsRow 0 40 3 ev0 E0.length (flat (E0.map eV)))
    (hr : ∀ wr : World, w.grownBy wr ev0.ownBlock → TRow wr ao (G.map gV)) (hm : ∀ wr : World, w.grownBy wr ev0.ownBlock → wr.ownsMap Try.prog 3 (plainElem Try.prog 3) bm N D) :
    Calls Try.prog 25 #[ev0, .int .i64 pg, .slice ao n c, .map (some bm)] w (AEnd (E0 ++ ac pg (kept D G) (-1) []) w ev0) := by
  obtain ⟨i0, hi, hz0, hz1, hz2⟩ := info_parts Try.inf40
  obtain ⟨i1, hj, hy0, hy1, hy2⟩ := info_parts Try.inf3
  obtain ⟨Et, hEt⟩ : ∃ Et, E0 ++ ac pg (kept D G) (-1) [] = Et := ⟨_, rfl⟩
  have HEt : Hid (E0 ++ ac pg (kept D G) (-1) [] = Et ∧ Et.length ≤ 200000) := ⟨hEt, by
    rw [← hEt, List.length_append]
    have h1 := ac_len pg (kept D G) (-1) []
    have h2 := kept_len D G G.length
    rw [List.take_length] at h2
    simp at h1
    omega⟩
  have HR : Hid (∀ wr : World, w.grownBy wr ev0.ownBlock → TRow wr ao (G.map gV)) := hr
  have HN : Hid (G.length = n) := hn
  have HM : Hid (∀ wr : World, w.grownBy wr ev0.ownBlock → wr.ownsMap Try.prog 3 (plainElem Try.prog 3) bm N D) := hm
  have HW : Hid (WfG G) := hwf
  have HE : Hid (w.ownsRow 0 40 3 ev0 E0.length (flat (E0.map eV))) := hE
  rw [hEt]
  clear hr hn hm hwf hE hEt hel
  go_enter Try.func25, Try.ntmps25
  go_wp2
  go_loopg [0, 9, 10, 12, 13, 14, 16, 19] (n + 1) (fun g ev wtv rv _ _ _ _ i wr => ∃ (k : Nat) (E : List (Int × Int × Int)) (wt : Int) (R : List Int), k ≤ n ∧ g = n + 1 - k ∧ i = .int .i64 k ∧ wtv = .int .i64 wt ∧ Hid (E ++ ac pg (kept D (G.drop k)) wt R = Et ∧ R.length ≤ k ∧ AC w ev0 E ev R rv wr))
  case atStart => exact ⟨0, E0, -1, [], Nat.zero_le _, rfl, rfl, rfl, by rw [List.drop_zero]; exact HEt.out.1, Nat.zero_le _, HE.out, World.ownsRow_nil _ _ _ _, ⟨rfl, rfl, rfl, Nat.le_refl _, fun _ _ _ => rfl⟩, fun g hg => .inl hg, fun g hg => by simp [Value.ownBlock] at hg, fun g _ h => by simp [Value.ownBlock] at h⟩
  case round =>
    obtain ⟨k, E, wt, R, hk, hg, rfl, rfl, HH⟩ := hrel
    by_cases hlt : k < n
    · have hkG : k < G.length := by have := HN.out; omega
      obtain ⟨b, off, t, i, x, rfl, hG, h0, h1, h2⟩ := grow_at (HR.out wr HH.out.2.2.gr) (k := k) hkG
      have hwt := HW.out.at hkG hG
      have hbw : b < wr.heap.size := World.block_lt_of_cell? wr _ h0
      have HML : Hid ((wr.alloc (.cells #[.int .i64 t, .int .i64 i, .bool x] 62)).ownsMap Try.prog 3 (plainElem Try.prog 3) bm N D) := (HM.out wr HH.out.2.2.gr).alloc _
      have HKey : Hid (keyOf Try.prog 3 (.int .i64 t) = some (.int .i64 t)) := keyOf_int_mk Try.underlying3 hwt
      have HG : Hid (G.getD k (0, 0, false) = (t, i, x) ∧ k < G.length) := ⟨hG, hkG⟩
      obtain ⟨cc, hcc⟩ : ∃ cc, cOf D t = cc := ⟨_, rfl⟩
      have HC : Hid (∀ c, D.atKey (.int .i64 t) (.lit (.int .i64 0)) = .lit (.int .i64 c) → c = cc) := fun c h => by rw [← hcc]; exact cOf_of h
      have HCC : Hid (cOf D t = cc) := hcc
      clear hG hkG hwt hcc
      cases hhas : Maps.has D (.int .i64 t) with
      | false =>
        have HS : Hid (E ++ ac pg (kept D (G.drop (k + 1))) wt R = Et ∧ R.length ≤ k + 1 ∧ AC w ev0 E u0 R u10 (wr.alloc (.cells #[.int .i64 t, .int .i64 i, .bool x] 62))) := by
          have h3 := HH.out.1
          rw [kept_drop HG.out.2 HG.out.1, if_neg (by simp [keptB, hhas])] at h3
          exact ⟨h3, by have := HH.out.2.1; omega, HH.out.2.2.alloc _⟩
        go_wp2_with (at_lookup; refine wpList_lookup_own_ok_int _ rfl _ _ 24 rfl 3 3 .i64 law3 Try.underlying24 Try.underlying3 (zero3 _) bm N D rfl HML.out _ _ rfl HKey.out ?_; intro c hat hwc; obtain rfl : cc = c := (HC.out c hat).symm; clear hat hwc; rw [hhas])
        go_roundg (n + 1 - (k + 1))
        case measure => omega
        case rel => exact ⟨k + 1, E, wt, R, by omega, rfl, by go_num, rfl, HS⟩
      | true =>
        by_cases hci : cc = i
        rotate_left
        · have hcib : (cc != i) = true := by simpa using hci
          have HS : Hid (E ++ ac pg (kept D (G.drop (k + 1))) wt R = Et ∧ R.length ≤ k + 1 ∧ AC w ev0 E u0 R u10 (wr.alloc (.cells #[.int .i64 t, .int .i64 i, .bool x] 62))) := by
            have h3 := HH.out.1
            rw [kept_drop HG.out.2 HG.out.1, if_neg (by simp [keptB, hhas, HCC.out, hci])] at h3
            exact ⟨h3, by have := HH.out.2.1; omega, HH.out.2.2.alloc _⟩
          clear hci
          go_wp2_with (at_lookup; refine wpList_lookup_own_ok_int _ rfl _ _ 24 rfl 3 3 .i64 law3 Try.underlying24 Try.underlying3 (zero3 _) bm N D rfl HML.out _ _ rfl HKey.out ?_; intro c hat hwc; obtain rfl : cc = c := (HC.out c hat).symm; clear hat hwc; rw [hhas])
          go_roundg (n + 1 - (k + 1))
          case measure => omega
          case rel => exact ⟨k + 1, E, wt, R, by omega, rfl, by go_num, rfl, HS⟩
        · subst hci
          have hcib : (cc != cc) = false := by simp
          have HT : Hid ((E ++ e1 pg wt t) ++ (if x then e2 pg t R ++ ac pg (kept D (G.drop (k + 1))) t [] else ac pg (kept D (G.drop (k + 1))) wt (R ++ [t])) = Et ∧ R.length ≤ k) := by
            have h3 := HH.out.1
            rw [kept_drop HG.out.2 HG.out.1, if_pos (by simp [keptB, hhas, HCC.out])] at h3
            simp only [ac] at h3
            rw [← List.append_assoc] at h3
            exact ⟨h3, HH.out.2.1⟩
          have HU : Hid (CU w ev0 E u0 R u10 wr.heap.size t x (wr.alloc (.cells #[.int .i64 t, .int .i64 cc, .bool x] 62))) := CU.first HH.out.2.2 t cc x 62
          have HEl : Hid (E.length ≤ 200000) := by
            have h3 := congrArg List.length HT.out.1
            have h4 := HEt.out.2
            simp only [List.length_append] at h3
            show E.length ≤ 200000
            omega
          clear HH HR HN HM HW HE
          go_upto_region 8 with (at_lookup; refine wpList_lookup_own_ok_int _ rfl _ _ 24 rfl 3 3 .i64 law3 Try.underlying24 Try.underlying3 (zero3 _) bm N D rfl HML.out _ _ rfl HKey.out ?_; intro c hat hwc; obtain rfl : cc = c := (HC.out c hat).symm; clear hat hwc; rw [hhas])
          go_cut [45] (fun s wc => s = .bool (decide (0 ≤ wt ∧ wt ≠ t)) ∧ wc = wr.alloc (.cells #[.int .i64 t, .int .i64 cc, .bool x] 62))
          case first =>
            by_cases hw0 : 0 ≤ wt
            · by_cases hw1 : wt = t
              · have hb1 : (wt != t) = false := by simp [hw1]
                have HX : Hid (¬ (0 ≤ wt ∧ wt ≠ t)) := fun h => h.2 hw1
                clear hw1
                go_wp2
                go_meet
                exact ⟨congrArg Value.bool (decide_eq_false HX.out).symm, rfl⟩
              · have hb1 : (wt != t) = true := by simp [hw1]
                have HX : Hid (0 ≤ wt ∧ wt ≠ t) := ⟨hw0, hw1⟩
                clear hw1
                go_wp2
                go_meet
                exact ⟨congrArg Value.bool (decide_eq_true HX.out).symm, rfl⟩
            · have HX : Hid (¬ (0 ≤ wt ∧ wt ≠ t)) := fun h => hw0 h.1
              go_wp2
              go_meet
              exact ⟨congrArg Value.bool (decide_eq_false HX.out).symm, rfl⟩
          case rest =>
            obtain ⟨rfl, rfl⟩ := hcut
            go_upto_if 45 with fail
            go_cut [0] (fun ev wc => Hid (CU w ev0 (E ++ e1 pg wt t) ev R u10 wr.heap.size t x wc))
            case first =>
              by_cases hc : 0 ≤ wt ∧ wt ≠ t
              · have hd : decide (0 ≤ wt ∧ wt ≠ t) = true := by simpa using hc
                have HE1 : Hid (e1 pg wt t = [(wt, t, pg)]) := by unfold e1; exact if_pos hc
                rw [hd]
                go_wp2_with (at_builtin; refine wpList_append_lies _ rfl (.tmp 46) (.tmp 52) 32 rfl 0 40 i0 _ 3 24 Try.underlying32 hi hz0 hz1 hz2 rfl (by decide) u0 E.length (flat (E.map eV)) rfl (HU.out.ac.e.alloc _) ⟨wr.heap.size + 1, 0, none⟩ 1 1 [.int .i64 wt, .int .i64 t, .int .i64 pg] rfl rfl (news3' _ _ _ _ _ _) (three_int _ _ _) (by decide) (by have := HEl.out; unfold maxLen; omega) (by have := HEl.out; omega) (Nat.zero_le _) ((wr.alloc (.cells #[.int .i64 t, .int .i64 cc, .bool x] 62)).heap.size + 1) (by simp) ?_; intro gT cT w1 hownT hgrowT hlocT hltT; have HF := hide3 (CU.pushE HU.out hownT hgrowT hlocT); clear hownT hgrowT hlocT hltT)
                go_meet
                rw [HE1.out]
                exact HF.out
              · have hd : decide (0 ≤ wt ∧ wt ≠ t) = false := by simpa using hc
                have HE1 : Hid (e1 pg wt t = []) := by unfold e1; exact if_neg hc
                rw [hd]
                go_wp2
                go_meet
                rw [HE1.out, List.append_nil]
                exact HU.out
            case rest =>
              obtain ⟨E1, hE1⟩ : ∃ E1, E ++ e1 pg wt t = E1 := ⟨_, rfl⟩
              rw [hE1] at hcut HT
              obtain ⟨S, hS⟩ : ∃ S, wr.heap.size = S := ⟨_, rfl⟩
              rw [hS] at hcut ⊢
              clear hS hE1 HU h0 h1 h2 hbw HML HKey HC HCC hhas HG HEl
              have HCU : Hid (CU w ev0 E1 u0 R u10 S t x wc) := hcut
              clear hcut
              have hc0 := HCU.out.c0
              have hc2 := HCU.out.c2
              have hSl := HCU.out.lt
              cases x with
              | false =>
                go_wp2_with (at_builtin; refine wpList_append_lies _ rfl (.tmp 57) (.tmp 60) 28 rfl 0 3 i1 (.int .i64 0) 1 8 Try.underlying28 hj hy0 hy1 hy2 rfl (by decide) u10 R.length (R.map (Value.int .i64)) rfl (HCU.out.ac.r.alloc _) ⟨wc.heap.size, 0, none⟩ 1 1 [.int .i64 t] rfl rfl (news0 _ _ _) (one_int _) (by decide) (by have := HT.out.2; unfold maxLen; omega) (by have := HT.out.2; omega) (Nat.zero_le _) (wc.heap.size + 1) (by simp) ?_; intro gT cT w1 hownT hgrowT hlocT hltT; have HF := hide3 (AC.pushR HCU.out.ac hownT hgrowT hlocT); clear hownT hgrowT hlocT hltT)
                go_roundg (n + 1 - (k + 1))
                case measure => omega
                case rel => exact ⟨k + 1, E1, wt, R ++ [t], by omega, rfl, by go_num, rfl, HT.out.1, by have := HT.out.2; simp; omega, HF.out⟩
              | true =>
                obtain ⟨ar, cr, rfl⟩ : ∃ ar cr, u10 = .slice ar R.length cr := by
                  rcases own_shape HCU.out.ac.r with ⟨e, h0⟩ | ⟨g, c', e, _, _⟩
                  · exact ⟨none, 0, by rw [e, h0]⟩
                  · exact ⟨_, _, e⟩
                have HT2 : Hid ((E1 ++ e2 pg t R) ++ ac pg (kept D (G.drop (k + 1))) t [] = Et ∧ R.length ≤ k) := by
                  have h3 := HT.out
                  rw [if_pos rfl, ← List.append_assoc] at h3
                  exact h3
                have HR0 : Hid (R.length ≤ 4096) := by have := HT.out.2; show R.length ≤ 4096; omega
                go_wp2
                clear hc0 hc2 hSl
                go_loopg [0, 16, 64] (R.length + 1) (fun g ev _ i wi => ∃ j : Nat, j ≤ R.length ∧ g = R.length + 1 - j ∧ i = .int .i64 j ∧ Hid (CU w ev0 (E1 ++ e2 pg t (R.take j)) ev R (.slice ar R.length cr) S t true wi))
                case atStart => exact ⟨0, Nat.zero_le _, rfl, rfl, by show CU w ev0 (E1 ++ e2 pg t (R.take 0)) _ _ _ _ _ _ _; simpa [e2] using HCU.out⟩
                case round =>
                  clear HCU HT
                  obtain ⟨j, hj2, hg2, rfl, HH2⟩ := hrel
                  have hRl := HR0.out
                  by_cases hjr : j < R.length
                  · obtain ⟨gr, r, rfl, hrj, hcr⟩ := ac_read HH2.out.ac hjr
                    have HX := hide3 (e2_snoc (pg := pg) (t := t) hjr hrj)
                    have hc0 := HH2.out.c0
                    have HL2 : Hid ((E1 ++ e2 pg t (R.take j)).length ≤ 300000) := by
                      have h3 := congrArg List.length HT2.out.1
                      have h4 := HEt.out.2
                      have h5 := e2_len pg t (R.take j)
                      have h6 := HR0.out
                      simp only [List.length_append] at h3
                      rw [List.length_take] at h5
                      show (E1 ++ e2 pg t (R.take j)).length ≤ 300000
                      rw [List.length_append]
                      omega
                    clear hrj
                    by_cases hrt : r = t
                    · have hb2 : (r != t) = false := by simp [hrt]
                      have HX2 : Hid (e2 pg t (R.take (j + 1)) = e2 pg t (R.take j)) := by
                        show _ = _
                        rw [HX.out, if_pos hrt, List.append_nil]
                      clear hrt HX
                      go_wp2
                      go_roundg (R.length + 1 - (j + 1))
                      case measure => omega
                      case rel => exact ⟨j + 1, by omega, rfl, by go_num, by rw [HX2.out]; exact HH2.out⟩
                    · have hb2 : (r != t) = true := by simp [hrt]
                      have HX2 : Hid (e2 pg t (R.take (j + 1)) = e2 pg t (R.take j) ++ [(r, t, pg)]) := by
                        show _ = _
                        rw [HX.out, if_neg hrt]
                      clear hrt HX
                      obtain ⟨E2, hE2⟩ : ∃ E2, E1 ++ e2 pg t (R.take j) = E2 := ⟨_, rfl⟩
                      have HX3 : Hid (E1 ++ e2 pg t (R.take (j + 1)) = E2 ++ [(r, t, pg)]) := by
                        show _ = _
                        rw [HX2.out, ← List.append_assoc, hE2]
                      rw [hE2] at HH2 HL2
                      clear hE2 HX2
                      go_wp2_with (at_builtin; refine wpList_append_lies _ rfl (.tmp 72) (.tmp 78) 32 rfl 0 40 i0 _ 3 24 Try.underlying32 hi hz0 hz1 hz2 rfl (by decide) u0 E2.length (flat (E2.map eV)) rfl (HH2.out.ac.e.alloc _) ⟨wr.heap.size, 0, none⟩ 1 1 [.int .i64 r, .int .i64 t, .int .i64 pg] rfl rfl (news3 _ _ _ _ _) (three_int _ _ _) (by decide) (by have := HL2.out; unfold maxLen; omega) (by have := HL2.out; omega) (Nat.zero_le _) (wr.heap.size + 1) (by simp) ?_; intro gT cT w1 hownT hgrowT hlocT hltT; have HF := hide3 (CU.pushE HH2.out hownT hgrowT hlocT); clear hownT hgrowT hlocT hltT)
                      go_roundg (R.length + 1 - (j + 1))
                      case measure => omega
                      case rel => exact ⟨j + 1, by omega, rfl, by go_num, by rw [HX3.out]; exact HF.out⟩
                  · have HF : Hid (CU w ev0 (E1 ++ e2 pg t R) u0 R (.slice ar R.length cr) S t true wr) := by
                      have h3 := HH2.out
                      rw [List.take_of_length_le (by omega)] at h3
                      exact h3
                    clear HH2
                    have hc0 := HF.out.c0
                    rcases own_shape HF.out.ac.r with ⟨e, h0⟩ | ⟨g, c', e, hcap, _⟩
                    · obtain ⟨rfl, hR0, rfl⟩ : ar = none ∧ R.length = 0 ∧ cr = 0 := by simpa using e
                      go_wp2
                      go_quiet (fail)
                      go_wp2
                      go_roundg (n + 1 - (k + 1))
                      case measure => omega
                      case rel => exact ⟨k + 1, _, t, [], by omega, rfl, by go_num, rfl, HT2.out.1, Nat.zero_le _, HF.out.ac.cutN.drewN _⟩
                    · obtain ⟨rfl, rfl⟩ : ar = some ⟨g, 0, none⟩ ∧ cr = c' := by simpa using e
                      go_wp2
                      go_quiet (fail)
                      go_wp2
                      go_roundg (n + 1 - (k + 1))
                      case measure => omega
                      case rel => exact ⟨k + 1, _, t, [], by omega, rfl, by go_num, rfl, HT2.out.1, Nat.zero_le _, (HF.out.ac.cutS rfl).drewN _⟩
    · go_wp2
      go_ret
      have h1 := HH.out.1
      rw [List.drop_of_length_le (by have := HN.out; omega)] at h1
      simp [kept, ac] at h1
      rw [← h1]
      exact ⟨_, rfl, HH.out.2.2.e, HH.out.2.2.gr, HH.out.2.2.eb⟩
end Go.Proofs.Qxb6603412a
