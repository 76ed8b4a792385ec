/-
  LAW 4: the search. The code behind the successors' lists.
-/
import Derived.Test.Qxb6603412aO
namespace Go.Proofs.Qxb6603412a
open Go.RowKit Go.Maps
set_option linter.unusedVariables false

/-- The code's parts. -/
def seqR : Code → Code
  | .seq _ b => b
  | c => c
def seqL : Code → Code
  | .seq a _ => a
  | c => c
def dropC : Nat → Code → Code
  | 0, c => c
  | n + 1, c => dropC n (seqR c)
noncomputable def fb : Code := Try.f4.body.getD .skip

/-- The search within: the first hn are done, of v (the next) the first i. -/
structure Sr (A : List (List Nat)) (s hn v i : Nat) (Q : List Nat) : Prop where
  st : ∀ b ∈ A.getD s [], b ∈ Q
  cl : ∀ u ∈ Q.take hn, ∀ b ∈ A.getD u [], b ∈ Q
  lt : hn < Q.length
  hv : Q.getD hn 0 = v
  pt : ∀ b ∈ (A.getD v []).take i, b ∈ Q
/-- The search between. -/
structure Sc (A : List (List Nat)) (s hn : Nat) (Q : List Nat) : Prop where
  st : ∀ b ∈ A.getD s [], b ∈ Q
  cl : ∀ u ∈ Q.take hn, ∀ b ∈ A.getD u [], b ∈ Q
  le : hn ≤ Q.length
section
variable {A : List (List Nat)} {s hn v i : Nat} {Q : List Nat}
theorem Sc.open (h : Sc A s hn Q) (hl : hn < Q.length) (hv : Q.getD hn 0 = v) : Sr A s hn v 0 Q := ⟨h.st, h.cl, hl, hv, fun b hb => by simp at hb⟩
theorem Sr.push (h : Sr A s hn v i Q) (x : Nat) : Sr A s hn v i (Q ++ [x]) := by
  have hl := h.lt
  refine ⟨fun b hb => List.mem_append_left _ (h.st b hb), fun u hu b hb => List.mem_append_left _ (h.cl u ?_ b hb), by rw [List.length_append]; omega, ?_, fun b hb => List.mem_append_left _ (h.pt b hb)⟩
  · rw [List.take_append_of_le_length (by omega)] at hu; exact hu
  · rw [← h.hv]; simp [List.getD, List.getElem?_append, hl]
theorem Sr.more (h : Sr A s hn v i Q) (hi : i < (A.getD v []).length) (hm : (A.getD v []).getD i 0 ∈ Q) : Sr A s hn v (i + 1) Q := by
  refine ⟨h.st, h.cl, h.lt, h.hv, fun b hb => ?_⟩
  rw [take_snoc _ 0 hi, List.mem_append] at hb
  rcases hb with hb | hb
  · exact h.pt b hb
  · simp only [List.mem_singleton] at hb; subst hb; exact hm
theorem Sr.shut (h : Sr A s hn v i Q) (hi : (A.getD v []).length ≤ i) : Sc A s (hn + 1) Q := by
  refine ⟨h.st, fun u hu b hb => ?_, h.lt⟩
  rw [take_snoc _ 0 h.lt, List.mem_append] at hu
  rcases hu with hu | hu
  · exact h.cl u hu b hb
  · simp only [List.mem_singleton] at hu
    subst hu
    refine h.pt b ?_
    rw [List.take_of_length_le hi, ← h.hv]
    exact hb
theorem f1_more (h : ∀ b ∈ (A.getD s []).take i, b ∈ Q) (hi : i < (A.getD s []).length) (hm : (A.getD s []).getD i 0 ∈ Q) : ∀ b ∈ (A.getD s []).take (i + 1), b ∈ Q := by
  intro b hb
  rw [take_snoc _ 0 hi, List.mem_append] at hb
  rcases hb with hb | hb
  · exact h b hb
  · simp only [List.mem_singleton] at hb; subst hb; exact hm
end

/-- What a search that has ended tells of the matrix. -/
def Law (A : List (List Nat)) (C : List Bool) (d : Nat) : Prop :=
  ∀ (P : Nat → Prop) (s : Nat), s < d → (∀ b ∈ A.getD s [], P b) → (∀ u, P u → ∀ b ∈ A.getD u [], P b) → ∀ x, x < d → C.getD (s * d + x) false = true → P x
/-- What the search reads. -/
structure Rd (w w0 : World) (ga gc d D2 : Nat) (A : List (List Nat)) (C : List Bool) : Prop where
  b : Below w.heap.size w w0
  a : ARow w0 ga d A
  al : ∀ a, (A.getD a []).length ≤ 100000
  ab : ∀ a b, b ∈ A.getD a [] → b < d
  c : IRow w0 (some ⟨gc, 0, none⟩) (bC C)
  cl : C.length = D2
  law : Law A C d
theorem getD_mem {l : List Nat} {k : Nat} (h : k < l.length) : l.getD k 0 ∈ l := by
  have : l.getD k 0 = l[k] := by simp [List.getD, h]
  rw [this]; exact List.getElem_mem h
theorem BF.qcell {w0 : World} {gs d : Nat} {seen : List Bool} {Q : List Nat} {g n c : Nat} {wr : World} (h : BF w0 gs d seen Q (.slice (some ⟨g, 0, none⟩) n c) wr) {j : Nat} (hj : j < Q.length) : wr.cell? ⟨g, j, none⟩ = some (.int .i64 ((Q.getD j 0 : Nat) : Int)) := by
  obtain ⟨c', e, hi⟩ : ∃ c', Value.slice (some ⟨g, 0, none⟩) n c = .slice (some ⟨g, 0, none⟩) Q.length c' ∧ IRow wr (some ⟨g, 0, none⟩) (nC Q) := by
    obtain ⟨ao, c', e, hi⟩ := own_irow h.q
    obtain ⟨rfl, rfl, rfl⟩ : some ⟨g, 0, none⟩ = ao ∧ n = Q.length ∧ c = c' := by simpa using e
    exact ⟨_, rfl, hi⟩
  obtain ⟨b, o, e1, hc⟩ := irow_n hi hj
  obtain ⟨rfl, rfl⟩ : g = b ∧ 0 = o := by simpa using e1
  rw [Nat.zero_add] at hc
  exact hc
theorem Rd.cc {w w0 wr : World} {ga gc d D2 : Nat} {A : List (List Nat)} {C : List Bool} (h : Rd w w0 ga gc d D2 A C) (hb : Below w0.heap.size w0 wr) {q : Nat} (hq : q < D2) : wr.cell? ⟨gc, q, none⟩ = some (.bool (C.getD q false)) := by
  obtain ⟨b, o, e1, hc⟩ := irow_b (h.c.below hb) (k := q) (by rw [h.cl]; exact hq)
  obtain ⟨rfl, rfl⟩ : gc = b ∧ 0 = o := by simpa using e1
  rw [Nat.zero_add] at hc
  exact hc
theorem inv_clear {d : Nat} {seen : List Bool} (hl : seen.length = d) (h : ∀ y, y < d → seen.getD y false = false) : Inv d seen [] := by
  refine ⟨hl, fun x => ?_, List.nodup_nil, fun x hx => by simp at hx⟩
  constructor
  · intro hx
    by_cases hd : x < d
    · rw [h x hd] at hx; cases hx
    · rw [List.getD, List.getElem?_eq_none (by omega)] at hx; cases hx
  · intro hx; simp at hx
theorem set_clear {seen : List Bool} {x : Nat} (h : ∀ y, y < x → seen.getD y false = false) : ∀ y, y < x + 1 → (seen.set x false).getD y false = false := by
  intro y hy
  simp only [List.getD, List.getElem?_set]
  by_cases e : x = y
  · subst e; rw [if_pos rfl]; split <;> rfl
  · rw [if_neg e]; exact h y (by omega)
theorem made_b (n : Nat) : (madeCells (Value.bool false).cells (n * 1)).toList = List.replicate n (.bool false) := by
  rw [Nat.mul_one]; exact made1 n (.bool false)
theorem grown_bf {w0 w1 w2 : World} {d : Nat} (h1 : w1.ownsRow 0 4 1 (.slice (some ⟨w0.heap.size, 0, none⟩) d d) d (List.replicate d (.bool false))) (g1 : w0.grownBy w1 none)
    (h2 : w2.ownsRow 0 3 1 (.slice (some ⟨w1.heap.size, 0, none⟩) 0 d) 0 []) (g2 : w1.grownBy w2 none) : BF w0 w0.heap.size d (List.replicate d false) [] (.slice (some ⟨w1.heap.size, 0, none⟩) 0 d) w2 := by
  have hlt := own_lt h1 w0.heap.size rfl
  have b1 : Below w0.heap.size w0 w1 := (Below.refl _ _).grown g1 (Nat.le_refl _) (by rintro q ⟨⟩)
  refine ⟨?_, h2, Nat.le_refl _, fun g hg => ?_, fun e => ?_, b1.grown g2 (by omega) (by rintro q ⟨⟩)⟩
  · rw [bC, List.map_replicate]
    refine own_keepV h1 fun g hg => ?_
    obtain rfl : w0.heap.size = g := by rw [ob_slice] at hg; simpa using hg
    exact g2.block _ hlt (by rintro ⟨⟩)
  · rw [ob_slice] at hg
    obtain rfl : w1.heap.size = g := by simpa using hg
    omega
  · rw [ob_slice] at e
    have : w1.heap.size = w0.heap.size := by simpa using e
    omega

set_option maxRecDepth 100000 in
set_option maxHeartbeats 8000000 in
theorem search4 {v0 v1 v2 v3 v4 v5 v6 v7 v8 v9 v10 v11 v13 v14 v15 v17 v18 v20 v21 v22 v23 v24 v25 v26 v27 v28 v29 v30 v31 v32 v33 v34 v35 v36 v37 v38 v39 v40 v41 v42 v43 v44 v45 v46 v47 v48 v49 v50 v51 v52 v53 v54 v55 v56 v57 v58 v59 v60 v61 v62 v63 v64 v65 v66 v67 v68 v69 v70 v71 v72 v73 v74 v75 v76 v77 v78 v79 v80 v81 v82 v83 v84 v85 v86 v87 v88 v89 v90 v91 v92 v93 v94 v95 v96 v97 v98 v99 v100 v101 v102 v103 v104 v105 v106 v107 v108 v109 v110 v111 v112 v113 v114 v115 v116 v117 v118 v119 v120 v121 v122 v123 v124 v125 v126 v127 v128 v129 v130 v131 v132 v133 v134 v135 v136 v137 v138 v139 v140 v141 v142 v143 v144 v145 v146 v147 v148 v149 v150 v151 v152 v153 v154 v155 v156 v157 v158 v159 v160 v161 v162 v163 v164 v165 v166 v167 v168 v169 v170 v171 v172 v173 v174 v175 v176 v177 v178 v179 v180 v181 v182 v183 v184 v185 v186 v187 v188 v189 v190 v191 v192 v193 v194 v195 v196 v197 v198 v199 v200 v201 v202 v203 v204 v205 v206 v207 v208 v209 v210 v211 v212 v213 v214 v215 v216 v217 v218 v219 v220 v221 v222 v223 v224 v225 v226 v227 v228 v229 v230 v231 v232 v233 v234 v235 v236 v237 v238 v239 v240 v241 v242 v243 v244 v245 v246 v247 v248 v249 v250 v251 v252 v253 v254 v255 v256 v257 v258 v259 v260 v261 v262 v263 v264 v265 v266 v267 v268 v269 v270 v271 v272 v273 v274 v275 v276 v277 v278 v279 v280 v281 v282 v283 v284 v285 v286 v287 v288 v289 v290 v291 v292 v293 v294 v295 v296 v297 v298 v299 : Value} {w w0 : World} {ga gc d D2 : Nat} {A : List (List Nat)} {C : List Bool} (hd : d ≤ 256) (hD : d * d = D2) (hR : Rd w w0 ga gc d D2 A C)
    (K : Act → World → Prop) (hK : ∀ a w', Code.wp Try.prog (dropC 18 fb) (bodyPost Try.prog Try.f4 fun e w' => e = .returned (.bool true) ∧ Below w.heap.size w w') a w' → K a w') :
    Code.wp Try.prog (seqL (dropC 17 fb)) (Exit.then K (bodyPost Try.prog Try.f4 fun e w' => e = .returned (.bool true) ∧ Below w.heap.size w w')) { tmps := #[v0, v1, v2, v3, v4, v5, v6, v7, v8, v9, v10, v11, .int .i64 (d : Int), v13, v14, v15, .slice (some ⟨gc, 0, none⟩) D2 D2, v17, v18, .slice (some ⟨ga, 0, none⟩) d d, v20, v21, v22, v23, v24, v25, v26, v27, v28, v29, v30, v31, v32, v33, v34, v35, v36, v37, v38, v39, v40, v41, v42, v43, v44, v45, v46, v47, v48, v49, v50, v51, v52, v53, v54, v55, v56, v57, v58, v59, v60, v61, v62, v63, v64, v65, v66, v67, v68, v69, v70, v71, v72, v73, v74, v75, v76, v77, v78, v79, v80, v81, v82, v83, v84, v85, v86, v87, v88, v89, v90, v91, v92, v93, v94, v95, v96, v97, v98, v99, v100, v101, v102, v103, v104, v105, v106, v107, v108, v109, v110, v111, v112, v113, v114, v115, v116, v117, v118, v119, v120, v121, v122, v123, v124, v125, v126, v127, v128, v129, v130, v131, v132, v133, v134, v135, v136, v137, v138, v139, v140, v141, v142, v143, v144, v145, v146, v147, v148, v149, v150, v151, v152, v153, v154, v155, v156, v157, v158, v159, v160, v161, v162, v163, v164, v165, v166, v167, v168, v169, v170, v171, v172, v173, v174, v175, v176, v177, v178, v179, v180, v181, v182, v183, v184, v185, v186, v187, v188, v189, v190, v191, v192, v193, v194, v195, v196, v197, v198, v199, v200, v201, v202, v203, v204, v205, v206, v207, v208, v209, v210, v211, v212, v213, v214, v215, v216, v217, v218, v219, v220, v221, v222, v223, v224, v225, v226, v227, v228, v229, v230, v231, v232, v233, v234, v235, v236, v237, v238, v239, v240, v241, v242, v243, v244, v245, v246, v247, v248, v249, v250, v251, v252, v253, v254, v255, v256, v257, v258, v259, v260, v261, v262, v263, v264, v265, v266, v267, v268, v269, v270, v271, v272, v273, v274, v275, v276, v277, v278, v279, v280, v281, v282, v283, v284, v285, v286, v287, v288, v289, v290, v291, v292, v293, v294, v295, v296, v297, v298, v299], defers := [] } w0 := by
  obtain ⟨i0, hi, hz0, hz1, hz2⟩ := info_parts Try.inf3
  obtain ⟨i1, hj, hy0, hy1, hy2⟩ := info_parts Try.inf4
  have HR : Hid (Rd w w0 ga gc d D2 A C) := hR
  have HD : Hid (d * d = D2) := hD
  clear hR hD
  dsimp only [seqL, seqR, dropC, fb, Try.f4, Option.getD] at hK ⊢
  go_upto_region 42 with (first
    | (at_make; refine wpList_make_full _ rfl _ _ 29 rfl 0 4 i1 _ 1 Try.underlying29 hj hy0 hy1 _ _ _ _ d rfl rfl rfl rfl (by rw [hy2]; omega) (by unfold maxLen; omega) (Nat.zero_le _) ?_; intro w1 ho1 hg1; rw [made_b] at ho1; have H1 : Hid (w1.ownsRow 0 4 1 (.slice (some ⟨w0.heap.size, 0, none⟩) d d) d (List.replicate d (.bool false)) ∧ w0.grownBy w1 none) := ⟨ho1, hg1⟩; clear ho1 hg1)
    | (at_make; refine wpList_make_own _ rfl _ _ 28 rfl 0 3 i0 _ 1 Try.underlying28 hi hz0 hz1 _ _ _ d rfl rfl rfl (by rw [hz2]; omega) (by unfold maxLen; omega) (Nat.zero_le _) ?_; intro w2 ho2 hg2; have H2 : Hid (BF w0 w0.heap.size d (List.replicate d false) [] (.slice (some ⟨w1.heap.size, 0, none⟩) 0 d) w2) := grown_bf H1.out.1 H1.out.2 ho2 hg2; clear ho2 hg2))
  obtain ⟨gs, hgs⟩ : ∃ gs, w0.heap.size = gs := ⟨_, rfl⟩
  obtain ⟨gq0, hgq⟩ : ∃ gq0, w1.heap.size = gq0 := ⟨_, rfl⟩
  rw [hgs, hgq] at H2
  rw [hgs, hgq]
  clear H1 hgs hgq
  go_wp2
  go_loopg [27, 28] (d + 1) (fun g qv sv wr => ∃ (sn : Nat) (seen : List Bool) (Q : List Nat) (gq c : Nat), sn ≤ d ∧ g = d + 1 - sn ∧ sv = .int .i64 sn ∧ qv = .slice (some ⟨gq, 0, none⟩) Q.length c ∧ Hid (BF w0 gs d seen Q (.slice (some ⟨gq, 0, none⟩) Q.length c) wr))
  case atStart => exact ⟨0, _, [], gq0, d, Nat.zero_le _, rfl, rfl, rfl, H2⟩
  case round =>
    obtain ⟨sn, seen, Q, gq, c, hsn, hgs2, rfl, rfl, HB⟩ := hrel
    clear H2
    by_cases hs : sn < d
    · go_wp2
      go_loopg [29] (d + 1) (fun g xv wr => ∃ (xn : Nat) (seen : List Bool), xn ≤ d ∧ g = d + 1 - xn ∧ xv = .int .i64 xn ∧ Hid (BF w0 gs d seen Q (.slice (some ⟨gq, 0, none⟩) Q.length c) wr) ∧ Hid (∀ y, y < xn → seen.getD y false = false))
      case atStart => exact ⟨0, seen, Nat.zero_le _, rfl, rfl, HB, fun y hy => by omega⟩
      case round =>
        clear HB seen
        obtain ⟨xn, seen, hxn, hgx, rfl, HB, HC⟩ := hrel
        by_cases hx : xn < d
        · have hc1 := HB.out.cell hx
          have hf1 := HB.out.frozen xn
          have HB2 : Hid (BF w0 gs d (seen.set xn false) Q (.slice (some ⟨gq, 0, none⟩) Q.length c) (wr.setCell ⟨gs, xn, none⟩ (.bool false))) := HB.out.mark xn false
          have HC2 : Hid (∀ y, y < xn + 1 → (seen.set xn false).getD y false = false) := set_clear HC.out
          obtain ⟨z, hz⟩ : ∃ z, seen.getD xn false = z := ⟨_, rfl⟩
          rw [hz] at hc1
          clear hz HC
          go_wp2
          go_roundg (d + 1 - (xn + 1))
          case measure => omega
          case rel => exact ⟨xn + 1, _, by omega, rfl, by go_num, HB2, HC2⟩
        · have HI : Hid (Inv d seen [] ∧ ∀ b ∈ (A.getD sn []).take 0, b ∈ ([] : List Nat)) := ⟨inv_clear HB.out.slen (fun y hy => HC.out y (by omega)), fun b hb => by simp at hb⟩
          have HB2 : Hid (BF w0 gs d seen [] (.slice (some ⟨gq, 0, none⟩) 0 c) wr) := HB.out.cut rfl
          have hN := HR.out.al sn
          obtain ⟨N, hNe⟩ : ∃ N, (A.getD sn []).length = N := ⟨_, rfl⟩
          have HN : Hid ((A.getD sn []).length = N) := hNe
          rw [hNe] at hN
          clear HB HC hNe
          go_wp2
          go_loopg [27, 30] (N + 1) (fun g qv iv wr => ∃ (k : Nat) (seen : List Bool) (Q : List Nat) (gq c : Nat), k ≤ N ∧ g = N + 1 - k ∧ iv = .int .i64 k ∧ qv = .slice (some ⟨gq, 0, none⟩) Q.length c ∧ Hid (BF w0 gs d seen Q (.slice (some ⟨gq, 0, none⟩) Q.length c) wr) ∧ Hid (Inv d seen Q ∧ ∀ b ∈ (A.getD sn []).take k, b ∈ Q))
          case atStart => exact ⟨0, seen, [], gq, c, Nat.zero_le _, rfl, rfl, rfl, HB2, HI⟩
          case round =>
            clear HB2 HI seen
            obtain ⟨k, seen, Q, gq, c, hk, hgk2, rfl, rfl, HB, HI⟩ := hrel
            have hQl := HI.out.1.le
            obtain ⟨ar, cr, hca, hia⟩ := HR.out.a.below HB.out.b sn hs
            rw [HN.out] at hca
            by_cases hkN : k < N
            · obtain ⟨br, or_, rfl, hcx⟩ := irow_n hia (k := k) (by rw [HN.out]; exact hkN)
              have hm := getD_mem (l := A.getD sn []) (k := k) (by rw [HN.out]; exact hkN)
              have hxd := HR.out.ab sn _ hm
              obtain ⟨x, hx⟩ : ∃ x, (A.getD sn []).getD k 0 = x := ⟨_, rfl⟩
              have HX : Hid ((A.getD sn []).getD k 0 = x) := hx
              rw [hx] at hcx hxd
              have hcs := HB.out.cell hxd
              clear hm hx hia
              cases hsx : seen.getD x false with
              | true =>
                rw [hsx] at hcs
                have HI2 : Hid (Inv d seen Q ∧ ∀ b ∈ (A.getD sn []).take (k + 1), b ∈ Q) := ⟨HI.out.1, f1_more HI.out.2 (by rw [HN.out]; exact hkN) (by rw [HX.out]; exact (HI.out.1.iff x).1 hsx)⟩
                clear hsx HI HX
                go_wp2
                go_roundg (N + 1 - (k + 1))
                case measure => omega
                case rel => exact ⟨k + 1, seen, Q, gq, c, by omega, rfl, by go_num, rfl, HB, HI2⟩
              | false =>
                rw [hsx] at hcs
                have HI2 : Hid (Inv d (seen.set x true) (Q ++ [x]) ∧ ∀ b ∈ (A.getD sn []).take (k + 1), b ∈ Q ++ [x]) := ⟨HI.out.1.push hxd hsx, f1_more (fun b hb => List.mem_append_left _ (HI.out.2 b hb)) (by rw [HN.out]; exact hkN) (by rw [HX.out]; simp)⟩
                have hf1 := HB.out.frozen x
                have HM : Hid (BF w0 gs d (seen.set x true) Q (.slice (some ⟨gq, 0, none⟩) Q.length c) (wr.setCell ⟨gs, x, none⟩ (.bool true))) := HB.out.mark x true
                clear hsx HI HX
                go_upto_region 56 with fail
                obtain ⟨wm, hwm⟩ : ∃ wm, wr.setCell ⟨gs, x, none⟩ (.bool true) = wm := ⟨_, rfl⟩
                rw [hwm] at HM
                rw [hwm]
                clear hwm hf1 hcs HB hcx hca
                go_wp2_with (at_builtin; refine wpList_append_lies _ rfl (.tmp 238) (.tmp 240) 28 rfl 0 3 i0 (.int .i64 0) 1 8 Try.underlying28 hi hz0 hz1 hz2 rfl (by decide) (.slice (some ⟨gq, 0, none⟩) Q.length c) Q.length (nC Q) rfl (HM.out.q.alloc _) ⟨wm.heap.size, 0, none⟩ 1 1 [.int .i64 (x : Int)] rfl rfl (news0 _ _ _) (one_int _) (by decide) (by unfold maxLen; omega) (by omega) (Nat.zero_le _) (wm.heap.size + 1) (by simp) ?_; intro gT cT w2 hownT hgrowT hlocT hltT; have HF : Hid (BF w0 gs d (seen.set x true) (Q ++ [x]) (.slice (some ⟨gT, 0, none⟩) (Q.length + 1) cT) w2) := HM.out.push hownT hgrowT hlocT; clear hownT hgrowT hlocT hltT)
                go_roundg (N + 1 - (k + 1))
                case measure => omega
                case rel => exact ⟨k + 1, seen.set x true, Q ++ [x], gT, cT, by omega, rfl, by go_num, by rw [List.length_append]; rfl, by rw [List.length_append]; exact HF, HI2⟩
            · have HS : Hid (Sc A sn 0 Q ∧ Inv d seen Q) := ⟨⟨fun b hb => HI.out.2 b (by rw [List.take_of_length_le (by rw [HN.out]; omega)]; exact hb), fun u hu => by simp at hu, Nat.zero_le _⟩, HI.out.1⟩
              clear HI hia
              go_wp2
              go_loopg [27, 32] (d + 1) (fun g qv hv wr => ∃ (hn : Nat) (seen : List Bool) (Q : List Nat) (gq c : Nat), hn ≤ d ∧ g = d + 1 - hn ∧ hv = .int .i64 hn ∧ qv = .slice (some ⟨gq, 0, none⟩) Q.length c ∧ Hid (BF w0 gs d seen Q (.slice (some ⟨gq, 0, none⟩) Q.length c) wr) ∧ Hid (Sc A sn hn Q ∧ Inv d seen Q))
              case atStart => exact ⟨0, seen, Q, gq, c, Nat.zero_le _, rfl, rfl, rfl, HB, HS⟩
              case round =>
                clear HB HS hca seen hQl
                obtain ⟨hn, seen, Q, gq, c, hhn, hgh, rfl, rfl, HB, HS⟩ := hrel
                have hQl := HS.out.2.le
                by_cases hlt : hn < Q.length
                · have hcq := HB.out.qcell hlt
                  have hvd := HS.out.2.lt _ (getD_mem hlt)
                  obtain ⟨v, hv⟩ : ∃ v, Q.getD hn 0 = v := ⟨_, rfl⟩
                  have HS2 : Hid (Sr A sn hn v 0 Q ∧ Inv d seen Q) := ⟨HS.out.1.open hlt hv, HS.out.2⟩
                  rw [hv] at hcq hvd
                  have hM := HR.out.al v
                  obtain ⟨M, hMe⟩ : ∃ M, (A.getD v []).length = M := ⟨_, rfl⟩
                  have HMe : Hid ((A.getD v []).length = M) := hMe
                  rw [hMe] at hM
                  clear HS hv hMe
                  go_wp2
                  go_loopg [27, 34] (M + 1) (fun g qv iv wr => ∃ (k : Nat) (seen : List Bool) (Q : List Nat) (gq c : Nat), k ≤ M ∧ g = M + 1 - k ∧ iv = .int .i64 k ∧ qv = .slice (some ⟨gq, 0, none⟩) Q.length c ∧ Hid (BF w0 gs d seen Q (.slice (some ⟨gq, 0, none⟩) Q.length c) wr) ∧ Hid (Sr A sn hn v k Q ∧ Inv d seen Q))
                  case atStart => exact ⟨0, seen, Q, gq, c, Nat.zero_le _, rfl, rfl, rfl, HB, HS2⟩
                  case round =>
                    clear HB HS2 hcq seen hQl hlt
                    obtain ⟨k, seen, Q, gq, c, hk, hgk3, rfl, rfl, HB, HS⟩ := hrel
                    have hQl := HS.out.2.le
                    obtain ⟨ar, cr, hca, hia⟩ := HR.out.a.below HB.out.b v hvd
                    rw [HMe.out] at hca
                    by_cases hkM : k < M
                    · obtain ⟨br, or_, rfl, hcx⟩ := irow_n hia (k := k) (by rw [HMe.out]; exact hkM)
                      have hm := getD_mem (l := A.getD v []) (k := k) (by rw [HMe.out]; exact hkM)
                      have hxd := HR.out.ab v _ hm
                      obtain ⟨x, hx⟩ : ∃ x, (A.getD v []).getD k 0 = x := ⟨_, rfl⟩
                      have HX : Hid ((A.getD v []).getD k 0 = x) := hx
                      rw [hx] at hcx hxd
                      have hcs := HB.out.cell hxd
                      clear hm hx hia
                      cases hsx : seen.getD x false with
                      | true =>
                        rw [hsx] at hcs
                        have HS2 : Hid (Sr A sn hn v (k + 1) Q ∧ Inv d seen Q) := ⟨HS.out.1.more (by rw [HMe.out]; exact hkM) (by rw [HX.out]; exact (HS.out.2.iff x).1 hsx), HS.out.2⟩
                        clear hsx HS HX
                        go_wp2
                        go_roundg (M + 1 - (k + 1))
                        case measure => omega
                        case rel => exact ⟨k + 1, seen, Q, gq, c, by omega, rfl, by go_num, rfl, HB, HS2⟩
                      | false =>
                        rw [hsx] at hcs
                        have HS2 : Hid (Sr A sn hn v (k + 1) (Q ++ [x]) ∧ Inv d (seen.set x true) (Q ++ [x])) := ⟨(HS.out.1.push x).more (by rw [HMe.out]; exact hkM) (by rw [HX.out]; simp), HS.out.2.push hxd hsx⟩
                        have hf1 := HB.out.frozen x
                        have HM : Hid (BF w0 gs d (seen.set x true) Q (.slice (some ⟨gq, 0, none⟩) Q.length c) (wr.setCell ⟨gs, x, none⟩ (.bool true))) := HB.out.mark x true
                        clear hsx HS HX
                        go_upto_region 67 with fail
                        obtain ⟨wm, hwm⟩ : ∃ wm, wr.setCell ⟨gs, x, none⟩ (.bool true) = wm := ⟨_, rfl⟩
                        rw [hwm] at HM
                        rw [hwm]
                        clear hwm hf1 hcs HB hcx hca
                        go_wp2_with (at_builtin; refine wpList_append_lies _ rfl (.tmp 276) (.tmp 278) 28 rfl 0 3 i0 (.int .i64 0) 1 8 Try.underlying28 hi hz0 hz1 hz2 rfl (by decide) (.slice (some ⟨gq, 0, none⟩) Q.length c) Q.length (nC Q) rfl (HM.out.q.alloc _) ⟨wm.heap.size, 0, none⟩ 1 1 [.int .i64 (x : Int)] rfl rfl (news0 _ _ _) (one_int _) (by decide) (by unfold maxLen; omega) (by omega) (Nat.zero_le _) (wm.heap.size + 1) (by simp) ?_; intro gT cT w2 hownT hgrowT hlocT hltT; have HF : Hid (BF w0 gs d (seen.set x true) (Q ++ [x]) (.slice (some ⟨gT, 0, none⟩) (Q.length + 1) cT) w2) := HM.out.push hownT hgrowT hlocT; clear hownT hgrowT hlocT hltT)
                        go_roundg (M + 1 - (k + 1))
                        case measure => omega
                        case rel => exact ⟨k + 1, seen.set x true, Q ++ [x], gT, cT, by omega, rfl, by go_num, by rw [List.length_append]; rfl, by rw [List.length_append]; exact HF, HS2⟩
                    · have HS2 : Hid (Sc A sn (hn + 1) Q ∧ Inv d seen Q) := ⟨HS.out.1.shut (by rw [HMe.out]; omega), HS.out.2⟩
                      have hle := HS2.out.1.le
                      clear HS hia
                      go_wp2
                      go_roundg (d + 1 - (hn + 1))
                      case measure => omega
                      case rel => exact ⟨hn + 1, seen, Q, gq, c, by omega, rfl, by go_num, rfl, HB, HS2⟩
                · have HL : Hid (∀ x, x < d → C.getD (sn * d + x) false = true → seen.getD x false = true) := fun x hx hc => (HS.out.2.iff x).2 (HR.out.law (fun y => y ∈ Q) sn hs HS.out.1.st (fun u hu b hb => HS.out.1.cl u (by rw [List.take_of_length_le (by omega)]; exact hu) b hb) x hx hc)
                  clear HS
                  obtain ⟨w5, rfl⟩ : ∃ w5, w5 = wr := ⟨_, rfl⟩
                  go_wp2
                  go_loopg [36] (d + 1) (fun g xv wr => ∃ (xn : Nat), xn ≤ d ∧ g = d + 1 - xn ∧ xv = .int .i64 xn ∧ wr = w5)
                  case atStart => exact ⟨0, Nat.zero_le _, rfl, rfl, rfl⟩
                  case round =>
                    obtain ⟨xn, hxn, hgx2, rfl, rfl⟩ := hrel
                    by_cases hx2 : xn < d
                    · have hqq := sq_lt hs hx2
                      rw [HD.out] at hqq
                      have hcc := HR.out.cc HB.out.b hqq
                      have hcs := HB.out.cell hx2
                      have hl := HL.out xn hx2
                      obtain ⟨p, hp⟩ : ∃ p, sn * d = p := ⟨_, rfl⟩
                      have hmul : (sn : Int) * (d : Int) = (p : Int) := by rw [← hp]; simp
                      rw [hp] at hqq hcc hl
                      have hD2 : D2 ≤ 256 * 256 := by rw [← HD.out]; exact Nat.mul_le_mul hd hd
                      clear hp
                      cases hcv : C.getD (p + xn) false with
                      | true =>
                        rw [hcv] at hcc
                        rw [hl hcv] at hcs
                        clear hl hcv
                        go_wp2
                        go_roundg (d + 1 - (xn + 1))
                        case measure => omega
                        case rel => exact ⟨xn + 1, by omega, rfl, by go_num, rfl⟩
                      | false =>
                        rw [hcv] at hcc
                        clear hl hcv hcs
                        go_wp2
                        go_roundg (d + 1 - (xn + 1))
                        case measure => omega
                        case rel => exact ⟨xn + 1, by omega, rfl, by go_num, rfl⟩
                    · go_wp2
                      go_roundg (d + 1 - (sn + 1))
                      case measure => omega
                      case rel => exact ⟨sn + 1, seen, Q, gq, c, by omega, rfl, by go_num, rfl, HB⟩
    · have HE : Hid (Below w.heap.size w wr) := HR.out.b.trans (HB.out.b.mono HR.out.b.size)
      go_wp2
      go_ret
      exact ⟨rfl, HE.out⟩
end Go.Proofs.Qxb6603412a
