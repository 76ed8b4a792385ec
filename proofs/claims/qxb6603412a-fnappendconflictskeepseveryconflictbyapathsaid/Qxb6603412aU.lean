/-
  LAW 4: the lists of successors. The code between the matrix and the search.
-/
import Derived.Test.Qxb6603412aS
namespace Go.Proofs.Qxb6603412a
open Go.RowKit Go.Maps
set_option linter.unusedVariables false

theorem Try.inf28 : (Try.prog.info? 28).map (fun i => (i.zero, i.size, i.bytes)) = some (some (.slice none 0 0), 1, 24) := by kernel_rfl
theorem made_s (n : Nat) : (madeCells (Value.slice none 0 0).cells (n * 1)).toList = List.replicate n (.slice none 0 0) := by
  rw [Nat.mul_one]; exact made1 n (.slice none 0 0)
theorem kx_lt {ids : List Int} {K : List (Int × Bool)} (h : ∀ y, y ∈ ids ↔ y ∈ K.map Prod.fst) {k : Nat} (hk : k < K.length) : kx ids K k < ids.length :=
  ix_lt ((h _).2 (List.mem_map.2 ⟨K.getD k (0, false), by simp [List.getD, hk], rfl⟩))

theorem getD_in {K : List (Int × Bool)} {k : Nat} (hk : k < K.length) : (K.getD k (0, false)).1 ∈ K.map Prod.fst := List.mem_map.2 ⟨K.getD k (0, false), by simp [List.getD, hk], rfl⟩
/-- Every edge joins two known transactions that conflict. -/
theorem edge4 {ids : List Int} {K : List (Int × Bool)} {C : List Bool} {pg : Int} {Et : List (Int × Int × Int)} (hids : ∀ y, y ∈ ids ↔ y ∈ K.map Prod.fst) (hE : restL pg [] K = Et) (hM : Mx ids K C (fun k' j' => j' < K.length)) :
    ∀ e ∈ Et, e.2.2 = pg ∧ e.1 ∈ ids ∧ e.2.1 ∈ ids ∧ C.getD (ix ids e.1 * ids.length + ix ids e.2.1) false = true := by
  intro e he
  rw [← hE] at he
  obtain ⟨i, k, hc, rfl, _⟩ := (mem_edges pg K e).1 he
  have hk := hc.1
  have hi := hc.2.1
  exact ⟨rfl, (hids _).2 (getD_in (by omega)), (hids _).2 (getD_in hi), (hM.2 _).2 ⟨k, i, hi, hc, rfl⟩⟩
theorem adjL_mem {ids : List Int} {Et : List (Int × Int × Int)} {e : Int × Int × Int} (he : e ∈ Et) (h1 : e.1 ∈ ids) : ix ids e.2.1 ∈ (adjL ids Et).getD (ix ids e.1) [] := by
  rw [adjL_at ids Et (ix_lt h1)]
  exact List.mem_map.2 ⟨e, List.mem_filter.2 ⟨he, by simp⟩, rfl⟩
theorem law4 {ids : List Int} {K : List (Int × Bool)} {C : List Bool} {pg : Int} {Et : List (Int × Int × Int)} (hids : ∀ y, y ∈ ids ↔ y ∈ K.map Prod.fst) (hE : restL pg [] K = Et) (hM : Mx ids K C (fun k' j' => j' < K.length)) :
    Law (adjL ids Et) C ids.length := by
  intro P s hs h0 hP x hx hc
  obtain ⟨k, j, hj, hcf, hq⟩ := (hM.2 _).1 hc
  have hk := hcf.1
  obtain ⟨rfl, rfl⟩ := sq_inj hx (kx_lt hids hj) hq
  have hed := edge4 hids hE hM
  have := reach_law pg K (fun y => P (ix ids y)) hcf (fun e he h => ?_) (fun e he h => ?_)
  · exact this
  · rw [hE] at he
    refine h0 _ ?_
    have hm := adjL_mem he (hed e he).2.1
    rw [h] at hm
    exact hm
  · rw [hE] at he
    exact hP _ h _ (adjL_mem he (hed e he).2.1)
theorem adjL_none (ids : List Int) (Et : List (Int × Int × Int)) {a : Nat} (ha : ids.length ≤ a) : (adjL ids Et).getD a [] = [] := by
  rw [List.getD, List.getElem?_eq_none (by simpa [adjL] using ha)]; rfl
theorem adjL_le (ids : List Int) (Et : List (Int × Int × Int)) (a : Nat) : ((adjL ids Et).getD a []).length ≤ Et.length := by
  by_cases h : a < ids.length
  · rw [adjL_at ids Et h, List.length_map]; exact List.length_filter_le ..
  · rw [adjL_none ids Et (by omega)]; simp
theorem adjL_lt (ids : List Int) (Et : List (Int × Int × Int)) (hE : ∀ e ∈ Et, e.2.1 ∈ ids) (a b : Nat) (hb : b ∈ (adjL ids Et).getD a []) : b < ids.length := by
  by_cases h : a < ids.length
  · rw [adjL_at ids Et h] at hb
    obtain ⟨e, he, rfl⟩ := List.mem_map.1 hb
    exact ix_lt (hE e (List.mem_filter.1 he).1)
  · rw [adjL_none ids Et (by omega)] at hb; simp at hb

theorem adj_start {w1 w2 : World} {d : Nat} {ids : List Int} (hl : ids.length = d) (h : w2.ownsRow 0 28 1 (.slice (some ⟨w1.heap.size, 0, none⟩) d d) d (List.replicate d (.slice none 0 0))) : Adj w1.heap.size d (List.replicate d (.slice none 0 0)) (adjL ids []) w2 := by
  have hv : ∀ a, a < d → (List.replicate d (Value.slice none 0 0)).getD a undef = .slice none 0 0 := fun a ha => by simp [List.getD, ha]
  refine ⟨h, by simp [adjL, hl], fun a ha => ?_, fun a q ha hq => ?_, fun a b ha hb _ q hq => ?_⟩
  · rw [hv a ha, adjL_at ids [] (by omega)]
    exact World.ownsRow_nil _ _ _ _
  · rw [hv a ha] at hq; simp [Value.ownBlock] at hq
  · rw [hv a ha] at hq; simp [Value.ownBlock] at hq
section
variable {g d : Nat} {V : List Value} {A : List (List Nat)} {wr : World}
/-- The outer row behind an append to an inner one. -/
theorem Adj.after (h : Adj g d V A wr) {a : Nat} (ha : a < d) {o : Obj} {w1 : World} (hg : (wr.alloc o).grownBy w1 (V.getD a undef).ownBlock) : w1.cell? ⟨g, a, none⟩ = some (V.getD a undef) ∧ w1.frozen? ⟨g, a, none⟩ = false := by
  have hgl := h.glt
  have hvl := h.vlen
  have hng : (V.getD a undef).ownBlock ≠ some g := fun e => by have := h.fr a g ha e; omega
  have hout1 : w1.ownsRow 0 28 1 (.slice (some ⟨g, 0, none⟩) d d) d V := own_keepV h.out fun z hz => by
    obtain rfl : g = z := by rw [ob_slice] at hz; simpa using hz
    rw [hg.block g (by simp; omega) (fun e => hng e.symm), Below.heap_alloc _ _ _ hgl]
  refine ⟨?_, World.ownsRow.frozenAt hout1 a⟩
  rw [World.ownsRow.cellAt hout1 a (by omega)]
  simp [List.getD, show a < V.length by omega]
end
/-- The lists of successors; w1: the world before they were made. -/
structure Aw (w1 : World) (ga d : Nat) (V : List Value) (A : List (List Nat)) (wr : World) : Prop where
  a : Adj ga d V A wr
  ge : w1.heap.size ≤ ga
  b : Below w1.heap.size w1 wr
section
variable {w1 : World} {ga d : Nat} {V : List Value} {A : List (List Nat)} {wr : World}
theorem Aw.below (h : Aw w1 ga d V A wr) {w' : World} (hb : Below wr.heap.size wr w') : Aw w1 ga d V A w' := ⟨h.a.below hb, h.ge, h.b.trans (hb.mono h.b.size)⟩
theorem Aw.push (h : Aw w1 ga d V A wr) {a n : Nat} (ha : a < d) {o : Obj} {w2 : World} {q c : Nat}
    (hown : w2.ownsRow 0 3 1 (.slice (some ⟨q, 0, none⟩) ((A.getD a []).length + 1) c) ((A.getD a []).length + 1) (nC (A.getD a []) ++ [.int .i64 (n : Int)])) (hg : (wr.alloc o).grownBy w2 (V.getD a undef).ownBlock)
    (hloc : (V.getD a undef).ownBlock = some q ∨ q = wr.heap.size + 1) (hlt : q < w2.heap.size) :
    Aw w1 ga d (V.set a (.slice (some ⟨q, 0, none⟩) ((A.getD a []).length + 1) c)) (A.set a (A.getD a [] ++ [n])) (w2.setCell ⟨ga, a, none⟩ (.slice (some ⟨q, 0, none⟩) ((A.getD a []).length + 1) c)) := by
  have hsz := h.b.size
  have hge := h.ge
  refine ⟨h.a.push ha hown hg hloc hlt, h.ge, Below.setCell ?_ h.ge _⟩
  exact (h.b.alloc hsz o).grown hg (by simp; omega) fun g hgq => by have := h.a.fr a g ha hgq; omega
theorem Aw.app (h : Aw w1 ga d V A wr) {a y n : Nat} {ar : Option Addr} {cr : Nat} (ha : a < d) (hv : V.getD a undef = .slice ar n cr) (hn : (A.getD a []).length = n) {o : Obj} {w2 : World} {q c : Nat}
    (hown : w2.ownsRow 0 3 1 (.slice (some ⟨q, 0, none⟩) (n + 1) c) (n + 1) (nC (A.getD a []) ++ [.int .i64 (y : Int)])) (hg : (wr.alloc o).grownBy w2 (Value.slice ar n cr).ownBlock)
    (hloc : (Value.slice ar n cr).ownBlock = some q ∨ q = wr.heap.size + 1) (hlt : q < w2.heap.size) :
    Aw w1 ga d (V.set a (.slice (some ⟨q, 0, none⟩) (n + 1) c)) (A.set a (A.getD a [] ++ [y])) (w2.setCell ⟨ga, a, none⟩ (.slice (some ⟨q, 0, none⟩) (n + 1) c)) ∧ w2.cell? ⟨ga, a, none⟩ = some (.slice ar n cr) ∧ w2.frozen? ⟨ga, a, none⟩ = false := by
  subst hn
  have h2 := h.a.after ha (o := o) (w1 := w2) (by rw [hv]; exact hg)
  rw [hv] at h2
  exact ⟨h.push ha hown (by rw [hv]; exact hg) (by rw [hv]; exact hloc) hlt, h2.1, h2.2⟩
end
/-- What this part reads. -/
structure Rp (w w1 : World) (pg : Int) (ag ai : Option Addr) (gc d D2 : Nat) (Et : List (Int × Int × Int)) (ids : List Int) (C : List Bool) : Prop where
  b : Below w.heap.size w w1
  g : TRow w1 ag (Et.map eV)
  i : IRow w1 ai (iC ids)
  c : IRow w1 (some ⟨gc, 0, none⟩) (bC C)
  cl : C.length = D2
  il : ids.length = d
  inc : Inc ids
  ed : ∀ e ∈ Et, e.2.2 = pg ∧ e.1 ∈ ids ∧ e.2.1 ∈ ids ∧ C.getD (ix ids e.1 * d + ix ids e.2.1) false = true
  law : Law (adjL ids Et) C d
theorem Rp.cc {w w1 wr : World} {pg : Int} {ag ai : Option Addr} {gc d D2 : Nat} {Et : List (Int × Int × Int)} {ids : List Int} {C : List Bool} (h : Rp w w1 pg ag ai gc d D2 Et ids C) (hb : Below w1.heap.size w1 wr) {q : Nat} (hq : q < D2) : wr.cell? ⟨gc, q, none⟩ = some (.bool (C.getD q false)) := by
  obtain ⟨b, o, e1, hc⟩ := irow_b (h.c.below hb) (k := q) (by rw [h.cl]; exact hq)
  obtain ⟨rfl, rfl⟩ : gc = b ∧ 0 = o := by simpa using e1
  rw [Nat.zero_add] at hc
  exact hc
theorem Rp.rd {w w1 wr : World} {pg : Int} {ag ai : Option Addr} {ga gc d D2 : Nat} {Et : List (Int × Int × Int)} {ids : List Int} {C : List Bool} {V : List Value} (h : Rp w w1 pg ag ai gc d D2 Et ids C) (hE : Et.length ≤ 100000) (ha : Aw w1 ga d V (adjL ids Et) wr) : Rd w wr ga gc d D2 (adjL ids Et) C :=
  ⟨h.b.trans (ha.b.mono h.b.size), ha.a.row, fun a => Nat.le_trans (adjL_le ids Et a) hE, fun a b hb => by rw [← h.il]; exact adjL_lt ids Et (fun e he => (h.ed e he).2.2.1) a b hb, h.c.below ha.b, h.cl, h.law⟩

set_option maxRecDepth 100000 in
set_option maxHeartbeats 8000000 in
theorem adj4 {v1 v2 v3 v4 v5 v6 v7 v8 v9 v13 v14 v15 v17 v18 v19 v20 v21 v22 v23 v24 v25 v26 v27 v28 v29 v30 v31 v32 v33 v34 v35 v36 v37 v38 v39 v40 v41 v42 v43 v44 v45 v46 v47 v48 v49 v50 v51 v52 v53 v54 v55 v56 v57 v58 v59 v60 v61 v62 v63 v64 v65 v66 v67 v68 v69 v70 v71 v72 v73 v74 v75 v76 v77 v78 v79 v80 v81 v82 v83 v84 v85 v86 v87 v88 v89 v90 v91 v92 v93 v94 v95 v96 v97 v98 v99 v100 v101 v102 v103 v104 v105 v106 v107 v108 v109 v110 v111 v112 v113 v114 v115 v116 v117 v118 v119 v120 v121 v122 v123 v124 v125 v126 v127 v128 v129 v130 v131 v132 v133 v134 v135 v136 v137 v138 v139 v140 v141 v142 v143 v144 v145 v146 v147 v148 v149 v150 v151 v152 v153 v154 v155 v156 v157 v158 v159 v160 v161 v162 v163 v164 v165 v166 v167 v168 v169 v170 v171 v172 v173 v174 v175 v176 v177 v178 v179 v180 v181 v182 v183 v184 v185 v186 v187 v188 v189 v190 v191 v192 v193 v194 v195 v196 v197 v198 v199 v200 v201 v202 v203 v204 v205 v206 v207 v208 v209 v210 v211 v212 v213 v214 v215 v216 v217 v218 v219 v220 v221 v222 v223 v224 v225 v226 v227 v228 v229 v230 v231 v232 v233 v234 v235 v236 v237 v238 v239 v240 v241 v242 v243 v244 v245 v246 v247 v248 v249 v250 v251 v252 v253 v254 v255 v256 v257 v258 v259 v260 v261 v262 v263 v264 v265 v266 v267 v268 v269 v270 v271 v272 v273 v274 v275 v276 v277 v278 v279 v280 v281 v282 v283 v284 v285 v286 v287 v288 v289 v290 v291 v292 v293 v294 v295 v296 v297 v298 v299 : Value} {w w1 : World} {pg : Int} {ag ai : Option Addr} {cg ci : Nat} {gc d D2 : Nat} {Et : List (Int × Int × Int)} {ids : List Int} {C : List Bool} (hd : d ≤ 256) (hD : d * d = D2) (hE : Et.length ≤ 100000) (hR : Rp w w1 pg ag ai gc d D2 Et ids C)
    (K : Act → World → Prop) (hK : ∀ a w', Code.wp Try.prog (dropC 16 fb) (bodyPost Try.prog Try.f4 fun e w' => e = .returned (.bool true) ∧ Below w.heap.size w w') a w' → K a w') :
    Code.wp Try.prog (seqL (dropC 15 fb)) (Exit.then K (bodyPost Try.prog Try.f4 fun e w' => e = .returned (.bool true) ∧ Below w.heap.size w w')) { tmps := #[.int .i64 pg, v1, v2, v3, v4, v5, v6, v7, v8, v9, .slice ag Et.length cg, .slice ai d ci, .int .i64 (d : Int), v13, v14, v15, .slice (some ⟨gc, 0, none⟩) D2 D2, v17, v18, v19, v20, v21, v22, v23, v24, v25, v26, v27, v28, v29, v30, v31, v32, v33, v34, v35, v36, v37, v38, v39, v40, v41, v42, v43, v44, v45, v46, v47, v48, v49, v50, v51, v52, v53, v54, v55, v56, v57, v58, v59, v60, v61, v62, v63, v64, v65, v66, v67, v68, v69, v70, v71, v72, v73, v74, v75, v76, v77, v78, v79, v80, v81, v82, v83, v84, v85, v86, v87, v88, v89, v90, v91, v92, v93, v94, v95, v96, v97, v98, v99, v100, v101, v102, v103, v104, v105, v106, v107, v108, v109, v110, v111, v112, v113, v114, v115, v116, v117, v118, v119, v120, v121, v122, v123, v124, v125, v126, v127, v128, v129, v130, v131, v132, v133, v134, v135, v136, v137, v138, v139, v140, v141, v142, v143, v144, v145, v146, v147, v148, v149, v150, v151, v152, v153, v154, v155, v156, v157, v158, v159, v160, v161, v162, v163, v164, v165, v166, v167, v168, v169, v170, v171, v172, v173, v174, v175, v176, v177, v178, v179, v180, v181, v182, v183, v184, v185, v186, v187, v188, v189, v190, v191, v192, v193, v194, v195, v196, v197, v198, v199, v200, v201, v202, v203, v204, v205, v206, v207, v208, v209, v210, v211, v212, v213, v214, v215, v216, v217, v218, v219, v220, v221, v222, v223, v224, v225, v226, v227, v228, v229, v230, v231, v232, v233, v234, v235, v236, v237, v238, v239, v240, v241, v242, v243, v244, v245, v246, v247, v248, v249, v250, v251, v252, v253, v254, v255, v256, v257, v258, v259, v260, v261, v262, v263, v264, v265, v266, v267, v268, v269, v270, v271, v272, v273, v274, v275, v276, v277, v278, v279, v280, v281, v282, v283, v284, v285, v286, v287, v288, v289, v290, v291, v292, v293, v294, v295, v296, v297, v298, v299], defers := [] } w1 := by
  obtain ⟨i0, hi, hz0, hz1, hz2⟩ := info_parts Try.inf3
  obtain ⟨i1, hj, hy0, hy1, hy2⟩ := info_parts Try.inf28
  have HR : Hid (Rp w w1 pg ag ai gc d D2 Et ids C) := hR
  have HD : Hid (d * d = D2) := hD
  clear hR hD
  dsimp only [seqL, seqR, dropC, fb, Try.f4, Option.getD] at hK ⊢
  go_upto_region 29 with (at_make; refine wpList_make_full _ rfl _ _ 46 rfl 0 28 i1 _ 1 Try.underlying46 hj hy0 hy1 _ _ _ _ d rfl rfl rfl rfl (by rw [hy2]; omega) (by unfold maxLen; omega) (Nat.zero_le _) ?_; intro w2 ho1 hg1; rw [made_s] at ho1; have H1 : Hid (Aw w1 w1.heap.size d (List.replicate d (.slice none 0 0)) (adjL ids []) w2) := ⟨adj_start HR.out.il ho1, Nat.le_refl _, (Below.refl _ _).grown hg1 (Nat.le_refl _) (by rintro q ⟨⟩)⟩; clear ho1 hg1)
  obtain ⟨ga, hga⟩ : ∃ ga, w1.heap.size = ga := ⟨_, rfl⟩
  rw [hga] at H1
  rw [hga]
  clear hga
  go_wp2
  go_loopg [20] (Et.length + 1) (fun g iv wr => ∃ (k : Nat) (V : List Value), k ≤ Et.length ∧ g = Et.length + 1 - k ∧ iv = .int .i64 k ∧ Hid (Aw w1 ga d V (adjL ids (Et.take k)) wr))
  case atStart => exact ⟨0, _, Nat.zero_le _, rfl, rfl, H1⟩
  case round =>
    obtain ⟨k, V, hk, hgk2, rfl, HA⟩ := hrel
    clear H1
    by_cases hlt : k < Et.length
    · obtain ⟨b, off, f, t, p, rfl, hF, f0, f1, f2⟩ := erow_at (HR.out.g.below HA.out.b) (k := k) hlt
      have hed := HR.out.ed (Et.getD k (0, 0, 0)) (by simp [List.getD, hlt])
      have HS : Hid (adjL ids (Et.take (k + 1)) = (adjL ids (Et.take k)).set (ix ids f) ((adjL ids (Et.take k)).getD (ix ids f) [] ++ [ix ids t])) := by
        show _ = _
        rw [take_snoc Et (0, 0, 0) hlt, ← adjL_snoc, hF]
      rw [hF] at hed
      obtain ⟨hpg, hfi, hti, hcv⟩ := hed
      obtain rfl : p = pg := hpg
      have HC1 : Hid (∀ w8, Below w1.heap.size w1 w8 → Calls Try.prog 16 #[.slice ai d ci, .int .i64 f] w8 fun e w' => e = .returned (.int .i64 (ix ids f)) ∧ w' = w8) := fun w8 h8 => index_any ai d ci ids f w8 HR.out.il (by omega) (HR.out.i.below h8) HR.out.inc hfi
      have HC2 : Hid (∀ w8, Below w1.heap.size w1 w8 → Calls Try.prog 16 #[.slice ai d ci, .int .i64 t] w8 fun e w' => e = .returned (.int .i64 (ix ids t)) ∧ w' = w8) := fun w8 h8 => index_any ai d ci ids t w8 HR.out.il (by omega) (HR.out.i.below h8) HR.out.inc hti
      have hqa := ix_lt hfi
      have hqb := ix_lt hti
      rw [HR.out.il] at hqa hqb
      have hql := adjL_le ids (Et.take k) (ix ids f)
      rw [List.length_take] at hql
      obtain ⟨A, hA⟩ : ∃ A, adjL ids (Et.take k) = A := ⟨_, rfl⟩
      rw [hA] at HS HA hql
      obtain ⟨x, hx⟩ : ∃ x, ix ids f = x := ⟨_, rfl⟩
      obtain ⟨y, hy⟩ : ∃ y, ix ids t = y := ⟨_, rfl⟩
      rw [hx] at HS HC1 hqa hcv hql
      rw [hy] at HS HC2 hqb hcv
      clear hF hfi hti hA hx hy
      have hqq := sq_lt hqa hqb
      rw [HD.out] at hqq
      obtain ⟨z, hz⟩ : ∃ z, x * d = z := ⟨_, rfl⟩
      have hmul : (x : Int) * (d : Int) = (z : Int) := by rw [← hz]; simp
      rw [hz] at hqq hcv
      have hD2 : D2 ≤ 256 * 256 := by rw [← HD.out]; exact Nat.mul_le_mul hd hd
      clear hz
      go_upto_region 33 with (go_at_call 14; refine (parts_any f t p _).mono ?_; rintro e w8 ⟨rfl, k1⟩; have HA8 : Hid (Aw w1 ga d V A w8) := HA.out.below k1; clear k1)
      clear f0 f1 f2
      go_upto_region 36 with (go_at_call 16; refine (HC1.out w8 HA8.out.b).mono ?_; rintro e w' ⟨rfl, hw⟩; obtain rfl := hw.symm)
      go_upto_region 37 with (go_at_call 16; refine (HC2.out w8 HA8.out.b).mono ?_; rintro e w' ⟨rfl, hw⟩; obtain rfl := hw.symm)
      have hcc := HR.out.cc HA8.out.b hqq
      rw [hcv] at hcc
      obtain ⟨ar, cr, hve, hir⟩ := own_irow (HA8.out.a.own x hqa)
      have hca := HA8.out.a.cell hqa
      rw [hve] at hca
      obtain ⟨n, hn⟩ : ∃ n, (A.getD x []).length = n := ⟨_, rfl⟩
      have HO : Hid (w8.ownsRow 0 3 1 (.slice ar n cr) n (nC (A.getD x []))) := by
        have h := HA8.out.a.own x hqa
        rw [hve, hn] at h
        exact h
      rw [hn] at hve hca hql
      have HV : Hid (V.getD x undef = .slice ar n cr ∧ (A.getD x []).length = n) := ⟨hve, hn⟩
      have hxn : ¬ (x : Int) < 0 := by omega
      have hyn : ¬ (y : Int) < 0 := by omega
      have hnl : n ≤ 100000 := by omega
      clear hve hir hn hcv HC1 HC2 HA hql
      go_upto_region 39 with fail
      clear hcc
      go_wp2_with (at_builtin; refine wpList_append_lies _ rfl (.tmp 190) (.tmp 192) 28 rfl 0 3 i0 (.int .i64 0) 1 8 Try.underlying28 hi hz0 hz1 hz2 rfl (by decide) (.slice ar n cr) n (nC (A.getD x [])) rfl (HO.out.alloc _) ⟨w8.heap.size, 0, none⟩ 1 1 [.int .i64 (y : Int)] rfl rfl (news0 _ _ _) (one_int _) (by decide) (by unfold maxLen; omega) (by omega) (Nat.zero_le _) (w8.heap.size + 1) (by simp) ?_; intro gT cT w9 hownT hgrowT hlocT hltT; have HF := hide3 (HA8.out.app hqa HV.out.1 HV.out.2 hownT hgrowT hlocT hltT); have hc9 := HF.out.2.1; have hf9 := HF.out.2.2; rw [← HS.out] at HF; clear hownT hgrowT hlocT hltT)
      go_roundg (Et.length + 1 - (k + 1))
      case measure => omega
      case rel => exact ⟨k + 1, _, by omega, rfl, by go_num, HF.out.1⟩
    · have hkE : Et.take k = Et := List.take_of_length_le (by omega)
      have HRd : Hid (Rd w wr ga gc d D2 (adjL ids Et) C) := HR.out.rd hE (by have h := HA.out; rw [hkE] at h; exact h)
      clear hkE HA
      go_upto_region 40 with fail
      rename_i Kx hKx
      exact search4 hd HD.out HRd.out Kx hKx
end Go.Proofs.Qxb6603412a
