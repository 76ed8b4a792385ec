/-
  FnAppendConflictsKeepsEveryConflictByAPath: the walk.
-/
import Derived.Test.Qxb6603412aU
namespace Go.Proofs.Qxb6603412a
open Go.RowKit Go.Maps
set_option linter.unusedVariables false

/-- Behind the row of positions. -/
structure P2 (w : World) (ag at_ aw ai : Option Addr) (gk : Nat) (Et : List (Int × Int × Int)) (K : List (Int × Bool)) (ids : List Int) (w7 : World) : Prop where
  p1 : P1 w ag at_ aw ai Et K ids w7
  k : IRow w7 (some ⟨gk, 0, none⟩) (nC (kidR ids K K.length))
section
variable {w : World} {ag at_ aw ai : Option Addr} {gk : Nat} {Et : List (Int × Int × Int)} {K : List (Int × Bool)} {ids : List Int} {w7 w8 : World}
theorem P2.below (h : P2 w ag at_ aw ai gk Et K ids w7) (hb : Below w7.heap.size w7 w8) : P2 w ag at_ aw ai gk Et K ids w8 := ⟨h.p1.below hb, h.k.below hb⟩
theorem P2.shape (h : P2 w ag at_ aw ai gk Et K ids w7) (hk : 0 < K.length) : ∃ bt ot bw ow, at_ = some ⟨bt, ot, none⟩ ∧ aw = some ⟨bw, ow, none⟩ := by
  obtain ⟨bt, ot, rfl, _⟩ := irow_t h.p1.t hk
  obtain ⟨bw, ow, rfl, _⟩ := irow_w h.p1.x hk
  exact ⟨_, _, _, _, rfl, rfl⟩
theorem P2.ct {bt ot : Nat} (h : P2 w ag (some ⟨bt, ot, none⟩) aw ai gk Et K ids w7) {k : Nat} (hk : k < K.length) : w7.cell? ⟨bt, ot + k, none⟩ = some (.int .i64 (K.getD k (0, false)).1) := by
  obtain ⟨b, o, e1, hc⟩ := irow_t h.p1.t hk
  obtain ⟨rfl, rfl⟩ : bt = b ∧ ot = o := by simpa using e1
  exact hc
theorem P2.cx {bw ow : Nat} (h : P2 w ag at_ (some ⟨bw, ow, none⟩) ai gk Et K ids w7) {k : Nat} (hk : k < K.length) : w7.cell? ⟨bw, ow + k, none⟩ = some (.bool (K.getD k (0, false)).2) := by
  obtain ⟨b, o, e1, hc⟩ := irow_w h.p1.x hk
  obtain ⟨rfl, rfl⟩ : bw = b ∧ ow = o := by simpa using e1
  exact hc
theorem P2.ck (h : P2 w ag at_ aw ai gk Et K ids w7) {k : Nat} (hk : k < K.length) : w7.cell? ⟨gk, k, none⟩ = some (.int .i64 (kx ids K k : Int)) := by
  obtain ⟨b, o, e1, hc⟩ := irow_n h.k (k := k) (by rw [kidR_len]; exact hk)
  obtain ⟨rfl, rfl⟩ : gk = b ∧ 0 = o := by simpa using e1
  rw [kidR_at ids K hk, Nat.zero_add] at hc
  exact hc
end
theorem own_irowN {w : World} {g n : Nat} {xs : List Nat} (h : w.ownsRow 0 3 1 (.slice (some ⟨g, 0, none⟩) n n) n (nC xs)) : IRow w (some ⟨g, 0, none⟩) (nC xs) := by
  obtain ⟨ao, c, e, hi⟩ := own_irow h
  obtain ⟨rfl, rfl⟩ : some ⟨g, 0, none⟩ = ao ∧ n = c := by simpa using e
  exact hi

theorem own_irowB {w : World} {g n : Nat} {xs : List Bool} (h : w.ownsRow 0 4 1 (.slice (some ⟨g, 0, none⟩) n n) n (bC xs)) : IRow w (some ⟨g, 0, none⟩) (bC xs) := by
  obtain ⟨ao, c, e, hi⟩ := own_irow h
  obtain ⟨rfl, rfl⟩ : some ⟨g, 0, none⟩ = ao ∧ n = c := by simpa using e
  exact hi
theorem P2.rp {w : World} {ag at_ aw ai : Option Addr} {gk : Nat} {Et : List (Int × Int × Int)} {K : List (Int × Bool)} {ids : List Int} {w10 wr : World} {pg : Int} {gc d D2 : Nat} {C : List Bool} (h : P2 w ag at_ aw ai gk Et K ids w10) (hC : RowB w10 gc D2 C wr)
    (hl : ids.length = d) (hids : Inc ids ∧ ∀ y, y ∈ ids ↔ y ∈ K.map Prod.fst) (hE : restL pg [] K = Et) (hM : Mx ids K C (fun k' j' => j' < K.length)) : Rp w wr pg ag ai gc d D2 Et ids C := by
  subst hl
  have h1 := (h.below hC.b).p1
  exact ⟨h1.b, h1.g, h1.i, own_irowB hC.own, hC.len, rfl, hids.1, edge4 hids.2 hE hM, law4 hids.2 hE hM⟩

set_option maxRecDepth 100000 in
set_option maxHeartbeats 8000000 in
theorem top4 (pg : Int) (ao : Option Addr) (n c : Nat) (G : List (Int × Int × Bool)) (mv : Value) (L : Nat) (w : World) (hM : MapIn G n mv L w)
    (hG : G.length = n) (heG : ao = none → n = 0 ∧ c = 0) (hrG : TRow w ao (G.map gV)) (hwf : WfG G)
    (h2 : n ≤ 256) (h3 : L ≤ 1048576) (h4 : 24 * n + 16 * L ≤ 1048576) :
    Calls Try.prog 4 #[.int .i64 pg, .slice ao n c, mv] w fun e w' => e = .returned (.bool true) ∧ Below w.heap.size w w' := by
  have hlm := hM.len
  have HM : Hid (MapIn G n mv L w) := hM
  have HW : Hid (WfG G) := hwf
  have HG : Hid (G.length = n) := hG
  have H8 : Hid (Calls Try.prog 8 #[.slice ao n c] w (Cl n (G.map gV) w)) := cloneG_any ao n c G w hG (by omega) hrG heG
  clear hM hwf hG heG hrG
  go_enter Try.func4, Try.ntmps4
  go_upto_region 8 with (first
    | (go_at_call 8; refine H8.out.mono ?_; rintro e w2 ⟨aoG1, cG1, rfl, k1, k2, k3⟩; have S2 : Hid (Pl aoG1 n cG1 ∧ TRow w2 aoG1 (G.map gV) ∧ Below w.heap.size w w2) := ⟨k1, k2, k3⟩; clear k1 k2 k3)
    | (go_at_call 9; refine (HM.out.copy (by omega) w2 aoG1 cG1 S2.out.2.2 S2.out.2.1).mono ?_; rintro e w3 ⟨rfl, k1, D, k2⟩; have S3 : Hid (Below w2.heap.size w2 w3 ∧ w3.ownsMap Try.prog 3 (plainElem Try.prog 3) w2.heap.size n D) := ⟨k1, k2⟩; clear k1 k2)
    | (go_at_call 10; refine (kept_any aoG1 n cG1 w2.heap.size n G D w3 HG.out (by omega) (S2.out.2.1.below S3.out.1) HW.out S3.out.2).mono ?_; intro e w4 k0; obtain ⟨tv, wv, ok, rfl, k1, k2⟩ := k0.two; have S4 : Hid (Below w3.heap.size w3 w4 ∧ (ok = true → (∀ x ∈ kept D G, 0 ≤ x.1) ∧ KS w3 (kept D G) tv wv w4)) := ⟨k1, k2⟩; clear k0 k1 k2))
  have S0 : Hid (Below w.heap.size w w4) := by
    have a2 := S2.out.2.2; have a3 := S3.out.1; have a4 := S4.out.1
    have z2 := a2.size; have z3 := a3.size
    exact (a2.trans (a3.mono z2)).trans (a4.mono (by omega))
  cases ok with
  | false =>
    go_wp2
    go_ret
    exact ⟨rfl, S0.out⟩
  | true =>
    have S5 : Hid ((∀ x ∈ kept D G, 0 ≤ x.1) ∧ KS w3 (kept D G) tv wv w4) := S4.out.2 rfl
    have HG4 : Hid (TRow w4 aoG1 (G.map gV)) := by
      have a3 := S3.out.1; have a4 := S4.out.1
      exact S2.out.2.1.below (a3.trans (a4.mono a3.size))
    have HD4 : Hid (w4.ownsMap Try.prog 3 (plainElem Try.prog 3) w2.heap.size n D) := map_keep S3.out.2 (S4.out.1.block _ (map_lt S3.out.2))
    have HE4 : Hid (w4.ownsRow 0 40 3 (.slice none 0 0) ([] : List (Int × Int × Int)).length (flat (([] : List (Int × Int × Int)).map eV)) ∧ Below w4.heap.size w4 w4 ∧ Fr w4.heap.size w4 (.slice none 0 0)) := ⟨World.ownsRow_nil _ _ _ _, Below.refl _ _, fun g hg => by simp [Value.ownBlock] at hg⟩
    have hKl : (kept D G).length ≤ 256 := by
      have := kept_len D G G.length
      rw [List.take_length, HG.out] at this
      omega
    have HMd := hide3 (ac_model pg (kept D G) S5.out.1)
    obtain ⟨at_, ct, rfl, ht4⟩ := own_irow S5.out.2.1
    obtain ⟨aw, cw, rfl, hw4⟩ := own_irow S5.out.2.2.1
    have HT4 : Hid (IRow w4 at_ (tC (kept D G)) ∧ IRow w4 aw (wC (kept D G))) := ⟨ht4, hw4⟩
    clear ht4 hw4
    go_upto_region 12 with (first
      | (go_at_call 13; refine (grants_any aoG1 n cG1 G w4 HG.out (by omega) HG4.out S2.out.1).mono ?_; rintro e w6 ⟨gv, rfl, k1, k2, k3⟩; have S7 : Hid (w6.ownsRow 0 62 3 gv n (flat (G.map gV)) ∧ Below w4.heap.size w4 w6 ∧ Fr w4.heap.size w6 gv) := ⟨k1, k2, k3⟩; clear k1 k2 k3)
      | (go_at_call 11; refine (zz_call (E := []) pg HG.out (by omega) HW.out (by decide) HD4.out HE4.out.1 HE4.out.2.1 HE4.out.2.2 S7.out.1 S7.out.2.1 S7.out.2.2).mono ?_; rintro e w7 ⟨ov, rfl, k1, k2⟩; have S8 : Hid (w7.ownsRow 0 40 3 ov ([] ++ ac pg (kept D G) (-1) []).length (flat (([] ++ ac pg (kept D G) (-1) []).map eV)) ∧ Below w4.heap.size w4 w7) := ⟨k1, k2⟩; clear k1 k2)
      | (go_at_call 15; refine (distinct_any at_ (kept D G).length ct ((kept D G).map Prod.fst) w7 (by simp) (by omega) (by rw [← tC_iC]; exact HT4.out.1.below S8.out.2)).mono ?_; rintro e w8 ⟨ids, iv, rfl, k1, k2, k3, k4⟩; have S9 : Hid (DS w7 ids iv w8 ∧ Inc ids ∧ (∀ y, y ∈ ids ↔ y ∈ (kept D G).map Prod.fst) ∧ ids.length ≤ ((kept D G).map Prod.fst).length) := ⟨k1, k2, k3, k4⟩; clear k1 k2 k3 k4))
    obtain ⟨K, hK⟩ : ∃ K, kept D G = K := ⟨_, rfl⟩
    rw [hK] at S9 S8 hKl HMd HT4 ⊢
    rw [List.nil_append, HMd.out] at S8
    obtain ⟨Et, hEt⟩ : ∃ Et, restL pg [] K = Et := ⟨_, rfl⟩
    have hEl : Et.length ≤ 100000 := by
      have h5 := ac_len pg K (-1) []
      rw [HMd.out, hEt] at h5
      simp at h5
      omega
    rw [hEt] at S8
    have HEt : Hid (restL pg [] K = Et) := hEt
    obtain ⟨ag, cg, rfl, _, hg7, _⟩ := own_trow S8.out.1
    obtain ⟨ai, ci, rfl, hi8⟩ := own_irow S9.out.1.own
    have HIds : Hid (Inc ids ∧ ∀ y, y ∈ ids ↔ y ∈ K.map Prod.fst) := ⟨S9.out.2.1, S9.out.2.2.1⟩
    have hdl : ids.length ≤ K.length := by have := S9.out.2.2.2; simpa using this
    have HT : Hid (P1 w ag at_ aw ai Et K ids w8) := by
      have b7 := S8.out.2
      have b8 := S9.out.1.b
      have z7 := b7.size
      have b48 := b7.trans (b8.mono z7)
      exact ⟨S0.out.trans (b48.mono S0.out.size), hg7.below b8, HT4.out.1.below b48, HT4.out.2.below b48, hi8⟩
    clear hg7 hi8 S9 S8 S7 S5 S4 S3 S2 S0 HG4 HD4 HE4 HT4 HMd hK hEt HM HW HG H8 hlm
    obtain ⟨d, hd⟩ : ∃ d, ids.length = d := ⟨_, rfl⟩
    have HDl : Hid (ids.length = d) := hd
    rw [hd] at hdl ⊢
    clear hd
    go_cut [12] from 37 (fun s wc => s = .int .i64 d ∧ Hid (P1 w ag at_ aw ai Et K ids wc))
    case first =>
      go_wp2
      go_meet
      exact ⟨rfl, HT⟩
    case rest =>
    clear HT
    obtain ⟨rfl, HT⟩ := hcut
    obtain ⟨i0, hi, hz0, hz1, hz2⟩ := info_parts Try.inf3
    obtain ⟨i1, hj, hy0, hy1, hy2⟩ := info_parts Try.inf4
    go_wp2_with (at_make; refine wpList_make_full _ rfl _ _ 28 rfl 0 3 i0 _ 1 Try.underlying28 hi hz0 hz1 _ _ _ _ K.length rfl rfl rfl rfl ?b1 ?b2 (Nat.zero_le _) ?_)
    case b1 => rw [hz2]; omega
    case b2 => unfold maxLen; omega
    intro w9 ho hg9
    obtain ⟨w8, rfl⟩ : ∃ w8, w8 = wc := ⟨_, rfl⟩
    have HB : Hid (RowN w8 w8.heap.size K.length (kidR ids K 0) w9) := by
      refine ⟨?_, Nat.le_refl _, (Below.refl _ _).grown hg9 (Nat.le_refl _) (by rintro q ⟨⟩)⟩
      rw [kidR_zero, nC, List.map_replicate]
      rw [made1] at ho
      exact ho
    clear ho hg9
    go_wp2
    go_loopg [15] (K.length + 1) (fun g i wr => ∃ k : Nat, k ≤ K.length ∧ g = K.length + 1 - k ∧ i = .int .i64 k ∧ Hid (RowN w8 w8.heap.size K.length (kidR ids K k) wr))
    case atStart => exact ⟨0, Nat.zero_le _, rfl, rfl, HB⟩
    case round =>
      obtain ⟨k, hk, hg, rfl, HH⟩ := hrel
      clear HB
      by_cases hlt : k < K.length
      · obtain ⟨b, off, rfl, hct⟩ := irow_t (HT.out.t.below HH.out.b) hlt
        have hc2 := HH.out.cell hlt
        have hfz := HH.out.frozen k
        have HS := hide3 (HH.out.set k (kx ids K k))
        rw [kidR_set ids K hlt] at HS
        have HC : Hid (Calls Try.prog 16 #[.slice ai d ci, .int .i64 (K.getD k (0, false)).1] wr fun e w' => e = .returned (.int .i64 (kx ids K k)) ∧ w' = wr) := index_any ai d ci ids _ wr HDl.out (by omega) (HT.out.i.below HH.out.b) HIds.out.1 ((HIds.out.2 _).2 (List.mem_map.2 ⟨K.getD k (0, false), by simp [List.getD, hlt], rfl⟩))
        obtain ⟨t, ht⟩ : ∃ t, (K.getD k (0, false)).1 = t := ⟨_, rfl⟩
        rw [ht] at hct HC
        obtain ⟨z, hz⟩ : ∃ z, (kidR ids K k).getD k 0 = z := ⟨_, rfl⟩
        rw [hz] at hc2
        obtain ⟨v, hv⟩ : ∃ v, kx ids K k = v := ⟨_, rfl⟩
        rw [hv] at HS HC
        clear ht hz hv
        go_wp2_with (go_at_call 16; refine HC.out.mono ?_; rintro e w' ⟨rfl, hw⟩; obtain rfl := hw.symm)
        go_roundg (K.length + 1 - (k + 1))
        case measure => omega
        case rel => exact ⟨k + 1, by omega, rfl, by go_num, HS⟩
      · obtain ⟨w10, rfl⟩ : ∃ w10, w10 = wr := ⟨_, rfl⟩
        obtain ⟨gkd, hgk⟩ : ∃ gkd, w8.heap.size = gkd := ⟨_, rfl⟩
        have H2 : Hid (P2 w ag at_ aw ai gkd Et K ids w10) := by
          have h0 := HH.out
          rw [show k = K.length by omega, hgk] at h0
          exact ⟨HT.out.below HH.out.b, own_irowN h0.own⟩
        rw [hgk]
        clear HH HT hgk
        have hdd0 : ids.length * ids.length ≤ 256 * 256 := by have := HDl.out; exact Nat.mul_le_mul (by omega) (by omega)
        rw [HDl.out] at hdd0
        obtain ⟨D2, hD2⟩ : ∃ D2, d * d = D2 := ⟨_, rfl⟩
        have hdd : (d : Int) * (d : Int) = (D2 : Int) := by rw [← hD2]; simp
        have HD2 : Hid (d * d = D2) := hD2
        rw [hD2] at hdd0
        clear hD2
        go_wp2_with (at_make; refine wpList_make_full _ rfl _ _ 29 rfl 0 4 i1 _ 1 Try.underlying29 hj hy0 hy1 _ _ _ _ D2 rfl rfl rfl rfl ?b1 ?b2 (Nat.zero_le _) ?_)
        case b1 => rw [hy2]; omega
        case b2 => unfold maxLen; omega
        intro w11 ho hg9
        rw [made1] at ho
        have HB : Hid (RowB w10 w10.heap.size D2 (List.replicate D2 false) w11) := by
          refine ⟨?_, Nat.le_refl _, (Below.refl _ _).grown hg9 (Nat.le_refl _) (by rintro q ⟨⟩)⟩
          rw [bC, List.map_replicate]
          exact ho
        have HMx : Hid (Mx ids K (List.replicate D2 false) (fun k' j' => j' < 0)) := by
          have := Mx.start ids K (fun k' j' => j' < 0) (fun k j h => by omega)
          rw [HDl.out, HD2.out] at this
          exact this
        clear ho hg9
        go_wp2
        obtain ⟨gc, hgc⟩ : ∃ gc, w10.heap.size = gc := ⟨_, rfl⟩
        rw [hgc] at HB ⊢
        go_loopg [17, 18] (K.length + 1) (fun g jv _ wr => ∃ (jn : Nat) (C : List Bool), jn ≤ K.length ∧ g = K.length + 1 - jn ∧ jv = .int .i64 jn ∧ Hid (RowB w10 gc D2 C wr) ∧ Hid (Mx ids K C (fun k' j' => j' < jn)))
        case atStart => exact ⟨0, _, Nat.zero_le _, rfl, rfl, HB, HMx⟩
        case round =>
          obtain ⟨jn, C, hjn, hgj, rfl, HC, HX⟩ := hrel
          clear HB HMx
          by_cases hj2 : jn < K.length
          · have HX0 : Hid (Mx ids K C (fun k' j' => j' < jn ∨ (j' = jn ∧ k' < 0))) := HX.out.mono fun k j hc => by omega
            clear HX
            obtain ⟨bt, ot, bw, ow, rfl, rfl⟩ := H2.out.shape (by omega)
            go_wp2
            go_loopg [18] (jn + 1) (fun g kv wi => ∃ (kn : Nat) (C : List Bool), kn ≤ jn ∧ g = jn + 1 - kn ∧ kv = .int .i64 kn ∧ Hid (RowB w10 gc D2 C wi) ∧ Hid (Mx ids K C (fun k' j' => j' < jn ∨ (j' = jn ∧ k' < kn))))
            case atStart => exact ⟨0, C, Nat.zero_le _, rfl, rfl, HC, HX0⟩
            case round =>
              clear HX0 HC C
              obtain ⟨kn, C, hkn, hgk2, rfl, HC, HX⟩ := hrel
              by_cases hkj : kn < jn
              · have hkl : kn < K.length := by omega
                have HP : Hid (P2 w ag (some ⟨bt, ot, none⟩) (some ⟨bw, ow, none⟩) ai gkd Et K ids wr) := H2.out.below HC.out.b
                have hct1 := HP.out.ct hkl
                have hct2 := HP.out.ct hj2
                have hcx1 := HP.out.cx hkl
                have hcx2 := HP.out.cx hj2
                obtain ⟨⟨t1, x1⟩, hKk⟩ : ∃ y, K.getD kn (0, false) = y := ⟨_, rfl⟩
                obtain ⟨⟨t, x⟩, hKj⟩ : ∃ y, K.getD jn (0, false) = y := ⟨_, rfl⟩
                rw [hKk] at hct1 hcx1
                rw [hKj] at hct2 hcx2
                have HCf : Hid (Cf K kn jn ↔ (t1 ≠ t ∧ (x1 || x) = true)) := by
                  show _ ↔ _
                  unfold Cf
                  rw [hKk, hKj]
                  exact ⟨fun h => h.2.2, fun h => ⟨hkj, hj2, h⟩⟩
                clear hKk hKj
                go_upto_region 26 with fail
                go_cut [128] (fun s wc => s = .bool (decide (t1 ≠ t ∧ (x1 || x) = true)) ∧ Hid (RowB w10 gc D2 C wc))
                case first =>
                  by_cases htt : t1 = t
                  · have HD : Hid (¬ (t1 ≠ t ∧ (x1 || x) = true)) := fun h => h.1 htt
                    have hb1 : (t1 != t) = false := by simp [htt]
                    clear htt
                    go_quiet (fail)
                    go_wp2
                    go_meet
                    exact ⟨congrArg Value.bool (decide_eq_false HD.out).symm, HC.out.drewN _⟩
                  · have hb1 : (t1 != t) = true := by simp [htt]
                    cases x1 with
                    | true =>
                      have HD : Hid (t1 ≠ t ∧ (true || x) = true) := ⟨htt, rfl⟩
                      clear htt
                      go_quiet (fail)
                      go_wp2
                      go_meet
                      exact ⟨congrArg Value.bool (decide_eq_true HD.out).symm, HC.out.drewN _⟩
                    | false =>
                      cases x with
                      | true =>
                        have HD : Hid (t1 ≠ t ∧ (false || true) = true) := ⟨htt, rfl⟩
                        clear htt
                        go_quiet (fail)
                        go_wp2
                        go_meet
                        exact ⟨congrArg Value.bool (decide_eq_true HD.out).symm, HC.out.drewN _⟩
                      | false =>
                        have HD : Hid (¬ (t1 ≠ t ∧ (false || false) = true)) := fun h => by cases h.2
                        clear htt
                        go_quiet (fail)
                        go_wp2
                        go_meet
                        exact ⟨congrArg Value.bool (decide_eq_false HD.out).symm, HC.out.drewN _⟩
                case rest =>
                  obtain ⟨rfl, HC2⟩ := hcut
                  clear HC hct1 hct2 hcx1 hcx2 HP
                  by_cases hC : t1 ≠ t ∧ (x1 || x) = true
                  · have hd : decide (t1 ≠ t ∧ (x1 || x) = true) = true := decide_eq_true hC
                    rw [hd]
                    have HP : Hid (P2 w ag (some ⟨bt, ot, none⟩) (some ⟨bw, ow, none⟩) ai gkd Et K ids wc) := H2.out.below HC2.out.b
                    have hq1 := kx_lt HIds.out.2 hkl
                    have hq2 := kx_lt HIds.out.2 hj2
                    have hck1 := HP.out.ck hkl
                    have hck2 := HP.out.ck hj2
                    have hqq := sq_lt hq1 hq2
                    have HX2 : Hid (Mx ids K (C.set (kx ids K kn * ids.length + kx ids K jn) true) (fun k' j' => j' < jn ∨ (j' = jn ∧ k' < kn + 1))) := HX.out.put (HCf.out.2 hC) hqq fun k' j' => by omega
                    rw [HDl.out] at HX2 hq1 hq2 hqq
                    rw [HD2.out] at hqq
                    obtain ⟨a1, ha1⟩ : ∃ a1, kx ids K kn = a1 := ⟨_, rfl⟩
                    obtain ⟨a2, ha2⟩ : ∃ a2, kx ids K jn = a2 := ⟨_, rfl⟩
                    rw [ha1] at HX2 hq1 hck1 hqq
                    rw [ha2] at HX2 hq2 hck2 hqq
                    obtain ⟨p, hp⟩ : ∃ p, a1 * d = p := ⟨_, rfl⟩
                    have hmul : (a1 : Int) * (d : Int) = (p : Int) := by rw [← hp]; simp
                    rw [hp] at HX2 hqq
                    have hcc := HC2.out.cell hqq
                    have hcf := HC2.out.frozen (p + a2)
                    have HC3 : Hid (∀ m, RowB w10 gc D2 (C.set (p + a2) true) ((wc.setCell ⟨gc, p + a2, none⟩ (.bool true)).drewN m)) := fun m => (HC2.out.set (p + a2) true).drewN m
                    obtain ⟨z, hz⟩ : ∃ z, C.getD (p + a2) false = z := ⟨_, rfl⟩
                    rw [hz] at hcc
                    have hw1 : IntKind.i64.wrap ((p : Int) + (a2 : Int)) = ((p + a2 : Nat) : Int) := by rw [IntKind.wrap_i64]; omega
                    have hw2 : IntKind.i64.wrap ((p : Nat) : Int) = ((p : Nat) : Int) := by rw [IntKind.wrap_i64]; omega
                    clear hz hp ha1 ha2 HX HP HCf hC hd
                    go_wp2
                    go_big_region
                    go_wp2
                    go_roundg (jn + 1 - (kn + 1))
                    case measure => omega
                    case rel => exact ⟨kn + 1, _, by omega, rfl, by go_num, HC3.out 1, HX2⟩
                  · have hd : decide (t1 ≠ t ∧ (x1 || x) = true) = false := decide_eq_false hC
                    have HX2 : Hid (Mx ids K C (fun k' j' => j' < jn ∨ (j' = jn ∧ k' < kn + 1))) := HX.out.mono fun k j hc => by
                      constructor
                      · rintro (h | ⟨h1, h2⟩)
                        · exact .inl h
                        · by_cases e : k = kn
                          · subst e; subst h1; exact absurd (HCf.out.1 hc) hC
                          · exact .inr ⟨h1, by omega⟩
                      · rintro (h | ⟨h1, h2⟩)
                        · exact .inl h
                        · exact .inr ⟨h1, by omega⟩
                    rw [hd]
                    clear hC hd HX HCf
                    go_wp2
                    go_roundg (jn + 1 - (kn + 1))
                    case measure => omega
                    case rel => exact ⟨kn + 1, C, by omega, rfl, by go_num, HC2, HX2⟩
              · have HX2 : Hid (Mx ids K C (fun k' j' => j' < jn + 1)) := HX.out.mono fun k j hc => by
                  have := hc.1
                  omega
                clear HX
                go_wp2
                go_roundg (K.length + 1 - (jn + 1))
                case measure => omega
                case rel => exact ⟨jn + 1, C, by omega, rfl, by go_num, HC, HX2⟩
          · have HRp : Hid (Rp w wr pg ag ai gc d D2 Et ids C) := H2.out.rp HC.out HDl.out HIds.out HEt.out (by have h := HX.out; rw [show jn = K.length by omega] at h; exact h)
            clear HC HX
            go_upto_region 28 with fail
            rename_i Kx hKx
            exact adj4 (by omega) HD2.out hEl HRp.out Kx hKx
end Go.Proofs.Qxb6603412a
