/-
  THE TOP OF FnAppendConflictsMatchesPairModel.
-/
import Derived.Test.Qxb6603412aG
namespace Go.Proofs.Qxb6603412a
open Go.RowKit Go.Maps
set_option linter.unusedVariables false

/-- zzKeptHB1's end, with the flag. -/
def KEnd2 (D : DataW Unit) (G : List (Int × Int × Bool)) (w : World) (e : Ending) (w' : World) : Prop :=
  ∃ tv wv ok, e = .returned (.tuple #[tv, wv, .bool ok]) ∧ Below w.heap.size w w' ∧ (ok = true → (∀ x ∈ kept D G, 0 ≤ x.1) ∧ KS w (kept D G) tv wv w')
theorem KEnd.two {D : DataW Unit} {G : List (Int × Int × Bool)} {w : World} {e : Ending} {w' : World} (h : KEnd D G w e w') : KEnd2 D G w e w' := by
  rcases h with ⟨hb, rfl | ⟨h1, tv, wv, rfl, h2⟩⟩
  · exact ⟨_, _, _, rfl, hb, fun h => by cases h⟩
  · exact ⟨_, _, _, rfl, hb, fun _ => ⟨h1, h2⟩⟩

/-- What the laws take of a map that came in: its length, and zzLastCopyHB1 over it. -/
structure MapIn (G : List (Int × Int × Bool)) (n : Nat) (mv : Value) (L : Nat) (w : World) : Prop where
  len : ∀ ty, (Builtin.len_ #[24] ty #[mv]).run Try.prog w = .ok (.int .i64 (L : Int)) w
  copy : n ≤ 4096 → ∀ w1 ao c, Below w.heap.size w w1 → TRow w1 ao (G.map gV) → Calls Try.prog 9 #[.slice ao n c, mv] w1 (LcEnd n w1)

/-- Behind the calls: the two lists, the edges, the result. -/
structure T3 (w : World) (aoE ag at_ aw : Option Addr) (E Et : List (Int × Int × Int)) (K : List (Int × Bool)) (w7 : World) : Prop where
  b : Below w.heap.size w w7
  e : TRow w7 aoE (E.map eV)
  g : TRow w7 ag (Et.map eV)
  t : IRow w7 at_ (tC K)
  x : IRow w7 aw (wC K)

set_option maxRecDepth 100000 in
set_option maxHeartbeats 4000000 in
theorem top3_guard (aoE : Option Addr) (nE cE : Nat) (pg : Int) (ao : Option Addr) (n c : Nat) (G : List (Int × Int × Bool)) (mv : Value) (L : Nat) (w : World) (hM : MapIn G n mv L w) (hnE : nE ≤ maxLen) (hnG : n ≤ maxLen)
    (h : 1048576 < nE ∨ (nE ≤ 1048576 ∧ 4096 < n) ∨ (nE ≤ 1048576 ∧ n ≤ 4096 ∧ 1048576 < L) ∨ (nE ≤ 1048576 ∧ n ≤ 4096 ∧ L ≤ 1048576 ∧ 1048576 < 24 * nE + 24 * n + 16 * L)) :
    Calls Try.prog 3 #[.slice aoE nE cE, .int .i64 pg, .slice ao n c, mv] w fun e w' => e = .returned (.bool true) ∧ Below w.heap.size w w' := by
  have hlm := hM.len
  clear hM
  unfold maxLen at hnE hnG
  go_enter Try.func3, Try.ntmps3
  rcases h with h | ⟨h1, h2⟩ | ⟨h1, h2, h3⟩ | ⟨h1, h2, h3, h4⟩
  · go_wp2
    go_ret
    exact ⟨rfl, Below.refl _ _⟩
  · go_wp2
    go_ret
    exact ⟨rfl, Below.refl _ _⟩
  · go_wp2
    go_ret
    exact ⟨rfl, Below.refl _ _⟩
  · go_wp2
    go_ret
    exact ⟨rfl, Below.refl _ _⟩

/-- The three calls behind the guard. -/
theorem lastStep {w5 w6 w7 : World} {ev0 : Value} {B : Nat} (h1 : Below B w5 w6) (hB : B ≤ w5.heap.size) (hF : ∀ g, ev0.ownBlock = some g → B ≤ g) (hg : w6.grownBy w7 ev0.ownBlock) : Below B w5 w7 :=
  h1.grown hg (Nat.le_trans hB h1.size) hF

theorem T3.below {w : World} {aoE ag at_ aw : Option Addr} {E Et : List (Int × Int × Int)} {K : List (Int × Bool)} {w7 w8 : World} (h : T3 w aoE ag at_ aw E Et K w7) (hb : Below w7.heap.size w7 w8) : T3 w aoE ag at_ aw E Et K w8 :=
  ⟨h.b.trans (hb.mono h.b.size), h.e.below hb, h.g.below hb, h.t.below hb, h.x.below hb⟩
theorem getD_pre {α : Type} {E R Et : List α} (h : E ++ R = Et) {i : Nat} (hi : i < E.length) (d : α) : Et.getD i d = E.getD i d := by
  subst h
  simp [List.getD, List.getElem?_append_left hi]
theorem parts_calls (f t p : Int) (w : World) : Calls Try.prog 14 #[.agg #[.int .i64 f, .int .i64 t, .int .i64 p]] w fun e w' => e = .returned (.tuple #[.int .i64 f, .int .i64 t, .int .i64 p]) ∧ Below w.heap.size w w' := parts_any f t p w

theorem made1 (n : Nat) (a : Value) : (madeCells #[a] n).toList = List.replicate n a := by
  apply List.ext_getElem?
  intro j
  by_cases hj : j < n
  · simp [madeCells, hj, Nat.mod_one]
  · rw [List.getElem?_eq_none (by simp [madeCells]; omega), List.getElem?_eq_none (by simp; omega)]
theorem wb_store {wr : World} {K : List (Int × Bool)} {g k q : Nat} (h : wr.ownsRow 0 3 1 (.slice (some ⟨g, 0, none⟩) (K.length + 1) (K.length + 1)) (K.length + 1) (wbRow K k)) (hq : wb K (k + 1) = q) : (wr.setCell ⟨g, k + 1, none⟩ (.int .i64 q)).ownsRow 0 3 1 (.slice (some ⟨g, 0, none⟩) (K.length + 1) (K.length + 1)) (K.length + 1) (wbRow K (k + 1)) := by
  have := (World.ownsRow.stored h (k + 1) (.int .i64 q)).1
  rw [← hq, wbRow_set] at this
  rw [← hq]
  exact this
theorem wb_store2 {wr : World} {K : List (Int × Bool)} {g k q : Nat} {u : Value} (h : wr.ownsRow 0 3 1 (.slice (some ⟨g, 0, none⟩) (K.length + 1) (K.length + 1)) (K.length + 1) (wbRow K k)) (hq : wb K (k + 1) = q) : ((wr.setCell ⟨g, k + 1, none⟩ u).setCell ⟨g, k + 1, none⟩ (.int .i64 q)).ownsRow 0 3 1 (.slice (some ⟨g, 0, none⟩) (K.length + 1) (K.length + 1)) (K.length + 1) (wbRow K (k + 1)) := by
  have := (World.ownsRow.stored (World.ownsRow.stored h (k + 1) u).1 (k + 1) (.int .i64 q)).1
  rw [List.set_set, ← hq, wbRow_set] at this
  rw [← hq]
  exact this
theorem wb_cell {wr : World} {K : List (Int × Bool)} {g k q : Nat} (h : wr.ownsRow 0 3 1 (.slice (some ⟨g, 0, none⟩) (K.length + 1) (K.length + 1)) (K.length + 1) (wbRow K k)) (hq : q ≤ k) (hk : q ≤ K.length) : wr.cell? ⟨g, q, none⟩ = some (.int .i64 (wb K q)) := by
  rw [World.ownsRow.cellAt h q (by omega), wbRow_at K hq hk]
theorem wb_cell' {wr : World} {K : List (Int × Bool)} {g k q : Nat} (h : wr.ownsRow 0 3 1 (.slice (some ⟨g, 0, none⟩) (K.length + 1) (K.length + 1)) (K.length + 1) (wbRow K k)) (hk : q ≤ K.length) : ∃ z, wr.cell? ⟨g, q, none⟩ = some z := by
  rw [World.ownsRow.cellAt h q (by omega), List.getElem?_eq_getElem (by rw [wbRow_len]; omega)]
  exact ⟨_, rfl⟩

/-- And the row of counts. -/
structure T4 (w : World) (aoE ag at_ aw : Option Addr) (E Et : List (Int × Int × Int)) (K : List (Int × Bool)) (g : Nat) (w7 : World) : Prop where
  t3 : T3 w aoE ag at_ aw E Et K w7
  wb : w7.ownsRow 0 3 1 (.slice (some ⟨g, 0, none⟩) (K.length + 1) (K.length + 1)) (K.length + 1) (wbRow K K.length)
section
variable {w : World} {aoE ag at_ aw : Option Addr} {E Et : List (Int × Int × Int)} {K : List (Int × Bool)} {g : Nat} {w7 w8 : World}
theorem T4.below (h : T4 w aoE ag at_ aw E Et K g w7) (hb : Below w7.heap.size w7 w8) : T4 w aoE ag at_ aw E Et K g w8 :=
  ⟨h.t3.below hb, own_keepV h.wb fun q hq => hb.block q (own_lt h.wb q hq)⟩
theorem T4.drewN (h : T4 w aoE ag at_ aw E Et K g w7) (m : Nat) : T4 w aoE ag at_ aw E Et K g (w7.drewN m) := h.below (below_drewN (Below.refl _ _) m)
theorem T4.shape (h : T4 w aoE ag at_ aw E Et K g w7) (hk : 0 < K.length) : ∃ bt ot bw ow, at_ = some ⟨bt, ot, none⟩ ∧ aw = some ⟨bw, ow, none⟩ := by
  obtain ⟨bt, ot, rfl, _⟩ := irow_t h.t3.t hk
  obtain ⟨bw, ow, rfl, _⟩ := irow_w h.t3.x hk
  exact ⟨_, _, _, _, rfl, rfl⟩
theorem T4.ct {bt ot : Nat} (h : T4 w aoE ag (some ⟨bt, ot, none⟩) aw E Et K g w7) {k : Nat} (hk : k < K.length) {t : Int} {x : Bool} (e : K.getD k (0, false) = (t, x)) : w7.cell? ⟨bt, ot + k, none⟩ = some (.int .i64 t) := by
  obtain ⟨b, o, e1, hc⟩ := irow_t h.t3.t hk
  obtain ⟨rfl, rfl⟩ : bt = b ∧ ot = o := by simpa using e1
  rw [e] at hc; exact hc
theorem T4.cx {bw ow : Nat} (h : T4 w aoE ag at_ (some ⟨bw, ow, none⟩) E Et K g w7) {k : Nat} (hk : k < K.length) {t : Int} {x : Bool} (e : K.getD k (0, false) = (t, x)) : w7.cell? ⟨bw, ow + k, none⟩ = some (.bool x) := by
  obtain ⟨b, o, e1, hc⟩ := irow_w h.t3.x hk
  obtain ⟨rfl, rfl⟩ : bw = b ∧ ow = o := by simpa using e1
  rw [e] at hc; exact hc
end

/-- The call of ZZAppendConflicts, from what lies there. -/
theorem zz_call {w4 w5 w6 : World} {ev gv : Value} {E : List (Int × Int × Int)} {G : List (Int × Int × Bool)} {D : DataW Unit} {n bm : Nat} (pg : Int) (hnG : G.length = n) (hl : n ≤ 4096) (hwf : WfG G) (hel : E.length ≤ 100000)
    (hD : w4.ownsMap Try.prog 3 (plainElem Try.prog 3) bm n D)
    (i1 : w5.ownsRow 0 40 3 ev E.length (flat (E.map eV))) (i2 : Below w4.heap.size w4 w5) (i3 : Fr w4.heap.size w5 ev)
    (j1 : w6.ownsRow 0 62 3 gv n (flat (G.map gV))) (j2 : Below w5.heap.size w5 w6) (j3 : Fr w5.heap.size w6 gv) :
    Calls Try.prog 11 #[ev, .int .i64 pg, gv, .map (some bm)] w6 fun e w7 => ∃ ov, e = .returned ov ∧ w7.ownsRow 0 40 3 ov (E ++ ac pg (kept D G) (-1) []).length (flat ((E ++ ac pg (kept D G) (-1) []).map eV)) ∧ Below w4.heap.size w4 w7 := by
  have hbm := map_lt hD
  have h5 := i2.size
  have hap : Ap gv ev := fun g hg e => by have := (j3 g hg).1; have := (i3 g e).2; omega
  obtain ⟨ao, c, rfl, hall⟩ := trow_all j1 hap
  have hE6 : w6.ownsRow 0 40 3 ev E.length (flat (E.map eV)) := own_keepV i1 fun g hg => j2.block g (own_lt i1 g hg)
  have hD6 := map_keep (map_keep hD (i2.block bm hbm)) (j2.block bm (by omega))
  refine (zzac_any ev E pg ao n c bm n G D w6 hnG hl hwf hel hE6 hall (map_all hD6 (fun e => by have := (i3 _ e).1; omega))).mono ?_
  rintro e w7 ⟨ov, rfl, k1, k2, k3⟩
  exact ⟨ov, rfl, k1, lastStep (i2.trans (j2.mono h5)) (Nat.le_refl _) (fun g hg => (i3 g hg).1) k2⟩

set_option maxRecDepth 100000 in
set_option maxHeartbeats 8000000 in
theorem top3 (aoE : Option Addr) (nE cE : Nat) (pg : Int) (ao : Option Addr) (n c : Nat) (E : List (Int × Int × Int)) (G : List (Int × Int × Bool)) (mv : Value) (L : Nat) (w : World) (hM : MapIn G n mv L w)
    (hE : E.length = nE) (hG : G.length = n) (heE : aoE = none → nE = 0 ∧ cE = 0) (heG : ao = none → n = 0 ∧ c = 0) (hrE : TRow w aoE (E.map eV)) (hrG : TRow w ao (G.map gV)) (hwf : WfG G)
    (h1 : nE ≤ 1048576) (h2 : n ≤ 4096) (h3 : L ≤ 1048576) (h4 : 24 * nE + 24 * n + 16 * L ≤ 1048576) :
    Calls Try.prog 3 #[.slice aoE nE cE, .int .i64 pg, .slice ao n c, mv] w fun e w' => e = .returned (.bool true) ∧ Below w.heap.size w w' := by
  have hlm := hM.len
  have HM : Hid (MapIn G n mv L w) := hM
  have HW : Hid (WfG G) := hwf
  have HG : Hid (G.length = n) := hG
  have H7 : Hid (Calls Try.prog 7 #[.slice aoE nE cE] w (Cl nE (E.map eV) w)) := cloneE_any aoE nE cE E w hE h1 hrE heE
  have H8 : Hid (∀ w1, Below w.heap.size w w1 → Calls Try.prog 8 #[.slice ao n c] w1 (Cl n (G.map gV) w1)) := fun w1 hb => cloneG_any ao n c G w1 hG (by omega) (hrG.below hb) heG
  subst hE
  clear hM hwf hG heE heG hrE hrG
  go_enter Try.func3, Try.ntmps3
  go_upto_region 9 with (first
    | (go_at_call 7; refine H7.out.mono ?_; rintro e w1 ⟨aoE1, cE1, rfl, k1, k2, k3⟩; have S1 : Hid (Pl aoE1 E.length cE1 ∧ TRow w1 aoE1 (E.map eV) ∧ Below w.heap.size w w1) := ⟨k1, k2, k3⟩; clear k1 k2 k3)
    | (go_at_call 8; refine (H8.out w1 S1.out.2.2).mono ?_; rintro e w2 ⟨aoG1, cG1, rfl, k1, k2, k3⟩; have S2 : Hid (Pl aoG1 n cG1 ∧ TRow w2 aoG1 (G.map gV) ∧ Below w1.heap.size w1 w2) := ⟨k1, k2, k3⟩; clear k1 k2 k3)
    | (go_at_call 9; refine (HM.out.copy h2 w2 aoG1 cG1 (S1.out.2.2.trans (S2.out.2.2.mono S1.out.2.2.size)) S2.out.2.1).mono ?_; rintro e w3 ⟨rfl, k1, D, k2⟩; have S3 : Hid (Below w2.heap.size w2 w3 ∧ w3.ownsMap Try.prog 3 (plainElem Try.prog 3) w2.heap.size n D) := ⟨k1, k2⟩; clear k1 k2)
    | (go_at_call 10; refine (kept_any aoG1 n cG1 w2.heap.size n G D w3 HG.out h2 (S2.out.2.1.below S3.out.1) HW.out S3.out.2).mono ?_; intro e w4 k0; obtain ⟨tv, wv, ok, rfl, k1, k2⟩ := k0.two; have S4 : Hid (Below w3.heap.size w3 w4 ∧ (ok = true → (∀ x ∈ kept D G, 0 ≤ x.1) ∧ KS w3 (kept D G) tv wv w4)) := ⟨k1, k2⟩; clear k0 k1 k2))
  have S0 : Hid (Below w.heap.size w w4) := by
    have a1 := S1.out.2.2; have a2 := S2.out.2.2; have a3 := S3.out.1; have a4 := S4.out.1
    have z1 := a1.size; have z2 := a2.size; have z3 := a3.size
    exact ((a1.trans (a2.mono z1)).trans (a3.mono (by omega))).trans (a4.mono (by omega))
  cases ok with
  | false =>
    go_wp2
    go_ret
    exact ⟨rfl, S0.out⟩
  | true =>
    have S5 : Hid ((∀ x ∈ kept D G, 0 ≤ x.1) ∧ KS w3 (kept D G) tv wv w4) := S4.out.2 rfl
    have HE4 : Hid (TRow w4 aoE1 (E.map eV)) := by
      have a2 := S2.out.2.2; have a3 := S3.out.1; have a4 := S4.out.1
      have z2 := a2.size; have z3 := a3.size
      exact S1.out.2.1.below ((a2.trans (a3.mono z2)).trans (a4.mono (by omega)))
    have HG4 : Hid (TRow w4 aoG1 (G.map gV)) := by
      have a3 := S3.out.1; have a4 := S4.out.1
      exact S2.out.2.1.below (a3.trans (a4.mono a3.size))
    have HD4 : Hid (w4.ownsMap Try.prog 3 (plainElem Try.prog 3) w2.heap.size n D) := map_keep S3.out.2 (S4.out.1.block _ (map_lt S3.out.2))
    go_upto_region 12 with (first
      | (go_at_call 12; refine (edgesIn_any aoE1 E.length cE1 E w4 rfl h1 HE4.out S1.out.1).mono ?_; rintro e w5 ⟨ev, rfl, k1, k2, k3⟩; have S6 : Hid (w5.ownsRow 0 40 3 ev E.length (flat (E.map eV)) ∧ Below w4.heap.size w4 w5 ∧ Fr w4.heap.size w5 ev) := ⟨k1, k2, k3⟩; clear k1 k2 k3)
      | (go_at_call 13; refine (grants_any aoG1 n cG1 G w5 HG.out (Nat.le_trans h2 (by decide)) (HG4.out.below S6.out.2.1) S2.out.1).mono ?_; rintro e w6 ⟨gv, rfl, k1, k2, k3⟩; have S7 : Hid (w6.ownsRow 0 62 3 gv n (flat (G.map gV)) ∧ Below w5.heap.size w5 w6 ∧ Fr w5.heap.size w6 gv) := ⟨k1, k2, k3⟩; clear k1 k2 k3)
      | (go_at_call 11; refine (zz_call pg HG.out h2 HW.out (by omega) HD4.out S6.out.1 S6.out.2.1 S6.out.2.2 S7.out.1 S7.out.2.1 S7.out.2.2).mono ?_; rintro e w7 ⟨ov, rfl, k1, k2⟩; have S8 : Hid (w7.ownsRow 0 40 3 ov (E ++ ac pg (kept D G) (-1) []).length (flat ((E ++ ac pg (kept D G) (-1) []).map eV)) ∧ Below w4.heap.size w4 w7) := ⟨k1, k2⟩; clear k1 k2))
    have hKl : (kept D G).length ≤ 4096 := by
      have := kept_len D G G.length
      rw [List.take_length, HG.out] at this
      omega
    have HMd := hide3 (ac_model pg (kept D G) S5.out.1)
    obtain ⟨K, hK⟩ : ∃ K, kept D G = K := ⟨_, rfl⟩
    rw [hK] at S5 S8 hKl HMd
    rw [HMd.out] at S8
    obtain ⟨Et, hEt⟩ : ∃ Et, E ++ restL pg [] K = Et := ⟨_, rfl⟩
    rw [hEt] at S8
    have HEt : Hid (E ++ restL pg [] K = Et) := hEt
    have hEl : Et.length ≤ 100000 := by
      have h5 := ac_len pg K (-1) []
      rw [HMd.out] at h5
      rw [← hEt, List.length_append]
      simp at h5
      omega
    obtain ⟨ag, cg, rfl, _, hg7, _⟩ := own_trow S8.out.1
    obtain ⟨at_, ct, rfl, ht4⟩ := own_irow S5.out.2.1
    obtain ⟨aw, cw, rfl, hw4⟩ := own_irow S5.out.2.2.1
    have HT : Hid (T3 w aoE1 ag at_ aw E Et K w7) := ⟨S0.out.trans (S8.out.2.mono S0.out.size), HE4.out.below S8.out.2, hg7, ht4.below S8.out.2, hw4.below S8.out.2⟩
    clear hg7 ht4 hw4 S8 S7 S6 S5 S4 S3 S2 S1 S0 HE4 HG4 HD4 HMd hK hEt HM HW HG H7 H8 hlm
    have hEE : E.length ≤ Et.length := by rw [← HEt.out, List.length_append]; omega
    go_cut [78] from 26 (fun s wc => s = .bool false ∧ Hid (T3 w aoE1 ag at_ aw E Et K wc))
    case first =>
      have hd : decide ((Et.length : Int) < (E.length : Int)) = false := decide_eq_false (by omega)
      go_wp2
      go_meet
      exact ⟨congrArg Value.bool (decide_eq_false (by omega)), HT⟩
    case rest =>
    clear HT
    obtain ⟨rfl, HT⟩ := hcut
    go_wp2
    go_loopg [13, 14, 15, 16] (E.length + 1) (fun g i _ _ _ wr => ∃ k : Nat, k ≤ E.length ∧ g = E.length + 1 - k ∧ i = .int .i64 k ∧ Hid (T3 w aoE1 ag at_ aw E Et K wr))
    case atStart => exact ⟨0, Nat.zero_le _, rfl, rfl, HT⟩
    case round =>
      obtain ⟨k, hk, hg, rfl, HH⟩ := hrel
      clear HT
      by_cases hlt : k < E.length
      · obtain ⟨b, off, f, t, p, rfl, hF, f0, f1, f2⟩ := erow_at HH.out.g (k := k) (by omega)
        have hF2 : E.getD k (0, 0, 0) = (f, t, p) := by rw [← getD_pre HEt.out hlt]; exact hF
        obtain ⟨b2, off2, f', t', p', rfl, hF3, _, _, _⟩ := erow_at HH.out.e (k := k) hlt
        have HC : Hid (∀ w8, T3 w (some ⟨b2, off2, none⟩) (some ⟨b, off, none⟩) at_ aw E Et K w8 → w8.cell? ⟨b2, off2 + k * 3, none⟩ = some (.int .i64 f) ∧ w8.cell? ⟨b2, off2 + k * 3 + 1, none⟩ = some (.int .i64 t) ∧ w8.cell? ⟨b2, off2 + k * 3 + 2, none⟩ = some (.int .i64 p)) := by
          intro w8 h8
          obtain ⟨b3, off3, f4, t4, p4, e4, hF4, c0, c1, c2⟩ := erow_at h8.e (k := k) hlt
          obtain ⟨rfl, rfl⟩ : b2 = b3 ∧ off2 = off3 := by simpa using e4
          rw [hF2] at hF4
          obtain ⟨rfl, rfl, rfl⟩ : f = f4 ∧ t = t4 ∧ p = p4 := by simpa using hF4
          exact ⟨c0, c1, c2⟩
        clear hF hF2 hF3
        go_wp2_with (go_at_call 14; refine (parts_calls f t p _).mono ?_; rintro e w8 ⟨rfl, k1⟩; have S8 : Hid (T3 w (some ⟨b2, off2, none⟩) (some ⟨b, off, none⟩) at_ aw E Et K w8) := HH.out.below k1; obtain ⟨e0, e1, e2⟩ := HC.out w8 S8.out; clear k1)
        go_roundg (E.length + 1 - (k + 1))
        case measure => omega
        case rel => exact ⟨k + 1, by omega, rfl, by go_num, S8⟩
      · obtain ⟨i0, hi, hz0, hz1, hz2⟩ := info_parts Try.inf3
        go_wp2_with (at_make; refine wpList_make_full _ rfl _ _ 28 rfl 0 3 i0 _ 1 Try.underlying28 hi hz0 hz1 _ _ _ _ (K.length + 1) rfl rfl rfl rfl ?b1 ?b2 (Nat.zero_le _) ?_)
        case b1 => rw [hz2]; omega
        case b2 => unfold maxLen; omega
        intro w9 ho hg9
        obtain ⟨w8, rfl⟩ : ∃ w8, w8 = wr := ⟨_, rfl⟩
        rw [made1, ← wbRow_zero] at ho
        have HB : Hid (Below w8.heap.size w8 w9 ∧ w9.ownsRow 0 3 1 (.slice (some ⟨w8.heap.size, 0, none⟩) (K.length + 1) (K.length + 1)) (K.length + 1) (wbRow K 0)) := ⟨(Below.refl _ _).grown hg9 (Nat.le_refl _) (by rintro q ⟨⟩), ho⟩
        clear ho hg9
        go_wp2
        go_loopg [19] (K.length + 1) (fun g i wr => ∃ k : Nat, k ≤ K.length ∧ g = K.length + 1 - k ∧ i = .int .i64 k ∧ Hid (Below w8.heap.size w8 wr ∧ wr.ownsRow 0 3 1 (.slice (some ⟨w8.heap.size, 0, none⟩) (K.length + 1) (K.length + 1)) (K.length + 1) (wbRow K k)))
        case atStart => exact ⟨0, Nat.zero_le _, rfl, rfl, HB⟩
        case round =>
          obtain ⟨k, hk, hg, rfl, HK⟩ := hrel
          clear HB
          by_cases hlk : k < K.length
          · obtain ⟨b, off, rfl, hcw⟩ := irow_w (HH.out.x.below HK.out.1) hlk
            obtain ⟨⟨t, x⟩, hKk⟩ : ∃ y, K.getD k (0, false) = y := ⟨_, rfl⟩
            rw [hKk] at hcw
            have hsx := wb_succ K hlk hKk
            have hd0 := wb_cell HK.out.2 (Nat.le_refl k) (by omega)
            obtain ⟨z, hd1⟩ := wb_cell' HK.out.2 (q := k + 1) (by omega)
            have hfz := World.ownsRow.frozenAt HK.out.2 (k + 1)
            have hqk := wb_le K k
            obtain ⟨q, hq⟩ : ∃ q, wb K k = q := ⟨_, rfl⟩
            rw [hq] at hsx hd0 hqk
            have hbw : b < w8.heap.size := by
              rcases HH.out.x with hh | ⟨b2, off2, e2, hc2⟩
              · have := congrArg List.length hh; simp [wC] at this; subst this; simp at hlk
              · obtain ⟨rfl, rfl⟩ : b = b2 ∧ off = off2 := by simpa using e2
                exact World.block_lt_of_cell? w8 _ (hc2 k _ (by simp [wC, hlk]; rfl))
            have hne : ¬ w8.heap.size = b := by omega
            have hne2 : ¬ b = w8.heap.size := by omega
            cases x with
            | false =>
              have HS : Hid (Below w8.heap.size w8 (wr.setCell ⟨w8.heap.size, k + 1, none⟩ (.int .i64 q)) ∧ (wr.setCell ⟨w8.heap.size, k + 1, none⟩ (.int .i64 q)).ownsRow 0 3 1 (.slice (some ⟨w8.heap.size, 0, none⟩) (K.length + 1) (K.length + 1)) (K.length + 1) (wbRow K (k + 1))) := ⟨HK.out.1.setCell (Nat.le_refl _) _, wb_store HK.out.2 hsx⟩
              clear hKk hsx hq hbw
              go_wp2
              go_roundg (K.length + 1 - (k + 1))
              case measure => omega
              case rel => exact ⟨k + 1, by omega, rfl, by go_num, HS⟩
            | true =>
              have HS : Hid (Below w8.heap.size w8 ((wr.setCell ⟨w8.heap.size, k + 1, none⟩ (.int .i64 q)).setCell ⟨w8.heap.size, k + 1, none⟩ (.int .i64 ((q : Int) + 1))) ∧ ((wr.setCell ⟨w8.heap.size, k + 1, none⟩ (.int .i64 q)).setCell ⟨w8.heap.size, k + 1, none⟩ (.int .i64 ((q : Int) + 1))).ownsRow 0 3 1 (.slice (some ⟨w8.heap.size, 0, none⟩) (K.length + 1) (K.length + 1)) (K.length + 1) (wbRow K (k + 1))) := ⟨(HK.out.1.setCell (Nat.le_refl _) _).setCell (Nat.le_refl _) _, wb_store2 HK.out.2 hsx⟩
              clear hKk hsx hq hbw
              go_wp2
              go_roundg (K.length + 1 - (k + 1))
              case measure => omega
              case rel => exact ⟨k + 1, by omega, rfl, by go_num, HS⟩
          · obtain ⟨w10, rfl⟩ : ∃ w10, w10 = wr := ⟨_, rfl⟩
            have H4 : Hid (T4 w aoE1 ag at_ aw E Et K w8.heap.size w10) := by
              refine ⟨HH.out.below HK.out.1, ?_⟩
              have := HK.out.2
              rwa [show k = K.length by omega] at this
            obtain ⟨gw, hgw⟩ : ∃ gw, w8.heap.size = gw := ⟨_, rfl⟩
            rw [hgw] at H4 ⊢
            have HE0 : Hid (Et.drop E.length = restL pg (K.take 0) (K.drop 0)) := by
              show _ = _
              rw [← HEt.out]; simp
            clear HK HH hgw HEt
            go_wp2
            go_loopg [20, 21, 22, 23, 24, 25] (K.length + 1) (fun g ps jv _ _ _ _ wr => ∃ jn p : Nat, jn ≤ K.length ∧ g = K.length + 1 - jn ∧ jv = .int .i64 jn ∧ ps = .int .i64 p ∧ p ≤ Et.length ∧ Hid (Et.drop p = restL pg (K.take jn) (K.drop jn)) ∧ Hid (T4 w aoE1 ag at_ aw E Et K gw wr))
            case atStart => exact ⟨0, E.length, Nat.zero_le _, rfl, rfl, rfl, hEE, HE0, H4⟩
            case round =>
              obtain ⟨jn, p, hjn, hgj, rfl, rfl, hp, HD, H5⟩ := hrel
              clear H4 HE0
              by_cases hj : jn < K.length
              · obtain ⟨⟨t, x⟩, hKj⟩ : ∃ y, K.getD jn (0, false) = y := ⟨_, rfl⟩
                have HD1 : Hid (Et.drop p = rowL pg ((K.take jn).drop 0) (t, x) ++ restL pg (K.take (jn + 1)) (K.drop (jn + 1))) := by
                  show _ = _
                  rw [HD.out, rest_step pg K hj hKj, List.drop_zero]
                have HKj : Hid (K.getD jn (0, false) = (t, x)) := hKj
                clear HD hKj
                obtain ⟨bt, ot, bw, ow, rfl, rfl⟩ := H5.out.shape (by omega)
                go_wp2
                go_loopg [20, 22, 23, 24, 25] (jn + 1) (fun g ps kv _ _ _ wi => ∃ kn p : Nat, kn ≤ jn ∧ g = jn + 1 - kn ∧ kv = .int .i64 kn ∧ ps = .int .i64 p ∧ p ≤ Et.length ∧ Hid (Et.drop p = rowL pg ((K.take jn).drop kn) (t, x) ++ restL pg (K.take (jn + 1)) (K.drop (jn + 1))) ∧ Hid (T4 w aoE1 ag (some ⟨bt, ot, none⟩) (some ⟨bw, ow, none⟩) E Et K gw wi))
                case atStart => exact ⟨0, p, Nat.zero_le _, rfl, rfl, rfl, hp, HD1, H5⟩
                case round =>
                  clear HD1 H5 hp
                  obtain ⟨kn, p, hkn, hgk, rfl, rfl, hp, HD, H5⟩ := hrel
                  by_cases hkj : kn < jn
                  · obtain ⟨⟨t1, x1⟩, hKk⟩ : ∃ y, K.getD kn (0, false) = y := ⟨_, rfl⟩
                    have HStep := hide3 (row_step pg K hkj hj hKk HKj.out)
                    have HKk : Hid (K.getD kn (0, false) = (t1, x1)) := hKk
                    have hct1 := H5.out.ct (show kn < K.length by omega) hKk
                    have hct2 := H5.out.ct hj HKj.out
                    have hcx1 := H5.out.cx (show kn < K.length by omega) hKk
                    have hcx2 := H5.out.cx hj HKj.out
                    have hq1 := wb_cell H5.out.wb (q := jn) (by omega) (by omega)
                    have hq2 := wb_cell H5.out.wb (q := kn + 1) (by omega) (by omega)
                    obtain ⟨q1, hw1⟩ : ∃ q1, wb K jn = q1 := ⟨_, rfl⟩
                    obtain ⟨q2, hw2⟩ : ∃ q2, wb K (kn + 1) = q2 := ⟨_, rfl⟩
                    rw [hw1] at hq1 HStep
                    rw [hw2] at hq2 HStep
                    clear hw1 hw2 hKk
                    have hwr : IntKind.i64.wrap ((kn : Int) + 1) = ((kn + 1 : Nat) : Int) := by rw [IntKind.wrap_i64]; omega
                    go_upto_region 35 with fail
                    go_cut [194] (fun s wc => s = .bool (!decide (t1 ≠ t ∧ (x1 || x) = true ∧ q1 = q2)) ∧ Hid (T4 w aoE1 ag (some ⟨bt, ot, none⟩) (some ⟨bw, ow, none⟩) E Et K gw wc))
                    case first =>
                      by_cases htt : t1 = t
                      · have HX : Hid (¬ (t1 ≠ t ∧ (x1 || x) = true ∧ q1 = q2)) := fun h => h.1 htt
                        have hb1 : (t1 == t) = true := by simp [htt]
                        clear htt
                        go_quiet (fail)
                        go_wp2
                        go_meet
                        exact ⟨by rw [decide_eq_false HX.out]; rfl, H5.out.drewN _⟩
                      · have hb1 : (t1 == t) = false := by simp [htt]
                        cases x1 with
                        | true =>
                          by_cases hqq : q1 = q2
                          · have HX : Hid (t1 ≠ t ∧ (true || x) = true ∧ q1 = q2) := ⟨htt, rfl, hqq⟩
                            have hb3 : ((q1 : Int) != (q2 : Int)) = false := by simp [hqq]
                            clear hqq htt
                            go_quiet (fail)
                            go_wp2
                            go_meet
                            exact ⟨by rw [decide_eq_true HX.out]; rfl, H5.out.drewN _⟩
                          · have HX : Hid (¬ (t1 ≠ t ∧ (true || x) = true ∧ q1 = q2)) := fun h => hqq h.2.2
                            have hb3 : ((q1 : Int) != (q2 : Int)) = true := by simp; omega
                            clear hqq htt
                            go_quiet (fail)
                            go_wp2
                            go_meet
                            exact ⟨by rw [decide_eq_false HX.out]; rfl, H5.out.drewN _⟩
                        | false =>
                          cases x with
                          | true =>
                            by_cases hqq : q1 = q2
                            · have HX : Hid (t1 ≠ t ∧ (false || true) = true ∧ q1 = q2) := ⟨htt, rfl, hqq⟩
                              have hb3 : ((q1 : Int) != (q2 : Int)) = false := by simp [hqq]
                              clear hqq htt
                              go_quiet (fail)
                              go_wp2
                              go_meet
                              exact ⟨by rw [decide_eq_true HX.out]; rfl, H5.out.drewN _⟩
                            · have HX : Hid (¬ (t1 ≠ t ∧ (false || true) = true ∧ q1 = q2)) := fun h => hqq h.2.2
                              have hb3 : ((q1 : Int) != (q2 : Int)) = true := by simp; omega
                              clear hqq htt
                              go_quiet (fail)
                              go_wp2
                              go_meet
                              exact ⟨by rw [decide_eq_false HX.out]; rfl, H5.out.drewN _⟩
                          | false =>
                            have HX : Hid (¬ (t1 ≠ t ∧ (false || false) = true ∧ q1 = q2)) := fun h => by cases h.2.1
                            clear htt
                            go_quiet (fail)
                            go_wp2
                            go_meet
                            exact ⟨by rw [decide_eq_false HX.out]; rfl, H5.out.drewN _⟩
                    case rest =>
                      obtain ⟨rfl, H6⟩ := hcut
                      clear H5 hct1 hct2 hcx1 hcx2 hq1 hq2 hwr
                      by_cases hC : t1 ≠ t ∧ (x1 || x) = true ∧ q1 = q2
                      · have hd : decide (t1 ≠ t ∧ (x1 || x) = true ∧ q1 = q2) = true := decide_eq_true hC
                        rw [hd]
                        have h9 := HD.out
                        rw [HStep.out, if_pos hC, List.append_assoc, List.singleton_append] at h9
                        obtain ⟨hpl, hEp, h10⟩ := drop_next h9 (0, 0, 0)
                        have HD2 : Hid (Et.drop (p + 1) = rowL pg ((K.take jn).drop (kn + 1)) (t, x) ++ restL pg (K.take (jn + 1)) (K.drop (jn + 1))) := h10
                        obtain ⟨bg, og, f, t', p', rfl, hE6, e0, e1, e2⟩ := erow_at H6.out.t3.g (k := p) hpl
                        rw [hEp] at hE6
                        obtain ⟨rfl, rfl, rfl⟩ : t1 = f ∧ t = t' ∧ pg = p' := by simpa using hE6
                        clear hC hd h9 h10 hEp hE6 HD HStep
                        go_wp2_with (go_at_call 14; refine (parts_calls t1 t pg _).mono ?_; rintro e w8 ⟨rfl, k1⟩; have S8 : Hid (T4 w aoE1 (some ⟨bg, og, none⟩) (some ⟨bt, ot, none⟩) (some ⟨bw, ow, none⟩) E Et K gw w8) := H6.out.below k1; have g1 := S8.out.ct (show kn < K.length by omega) HKk.out; have g2 := S8.out.ct hj HKj.out; clear k1)
                        go_roundg (jn + 1 - (kn + 1))
                        case measure => omega
                        case rel => exact ⟨kn + 1, p + 1, by omega, rfl, by go_num, by go_num, by omega, HD2, S8⟩
                      · have hd : decide (t1 ≠ t ∧ (x1 || x) = true ∧ q1 = q2) = false := decide_eq_false hC
                        rw [hd]
                        have HD2 : Hid (Et.drop p = rowL pg ((K.take jn).drop (kn + 1)) (t, x) ++ restL pg (K.take (jn + 1)) (K.drop (jn + 1))) := by
                          have h9 := HD.out
                          rw [HStep.out, if_neg hC] at h9
                          exact h9
                        clear hC hd HD HStep
                        go_wp2
                        go_roundg (jn + 1 - (kn + 1))
                        case measure => omega
                        case rel => exact ⟨kn + 1, p, by omega, rfl, by go_num, rfl, hp, HD2, H6⟩
                  · have HD2 : Hid (Et.drop p = restL pg (K.take (jn + 1)) (K.drop (jn + 1))) := by
                      have h9 := HD.out
                      rw [show kn = jn by omega, row_end] at h9
                      exact h9
                    clear HD
                    go_wp2
                    go_roundg (K.length + 1 - (jn + 1))
                    case measure => omega
                    case rel => exact ⟨jn + 1, p, by omega, rfl, by go_num, rfl, hp, HD2, H5⟩
              · have hpe : p = Et.length := by
                  refine drop_done ?_ hp
                  rw [HD.out, List.drop_of_length_le (by omega)]; rfl
                subst hpe
                go_wp2
                go_ret
                exact ⟨by simp, H5.out.t3.b⟩
end Go.Proofs.Qxb6603412a
