/- tiff's newDecoder behind its loop over the rows: the size, the depth, the kind. Printed by gentail.py. -/
import Derived.Test.YtnodmobblamlgaaDoorEDecGHK
import Derived.Laws.IdiomStrings
namespace Go.Proofs.YtnodmobblamlgaaDoor
open Go.RowKit Go.Proofs.YtnodmobblamlgaaDoorW.PrintWords Go.Proofs.YtnodmobblamlgaaDoorW.PrintLast Go.Proofs.YtnodmobblamlgaaDoorW.PrintMore
set_option linter.unusedVariables false
set_option linter.unusedSimpArgs false

/-- The first sequence that begins with region n: its two parts. -/
def seqAt (n : Nat) : Code → Option (Code × Code)
  | .seq x y => match (match x with
      | .region m ops d => if m = n then some (Code.region m ops d, y) else none
      | _ => none) with
    | some r => some r
    | none => match seqAt n x with
      | some r => some r
      | none => seqAt n y
  | .block _ c => seqAt n c
  | .loop c => seqAt n c
  | .scope c => seqAt n c
  | .cond _ a b => match seqAt n a with
    | some r => some r
    | none => seqAt n b
  | _ => none
noncomputable def reg33 : Code := ((Tryd.f31.body.bind (seqAt 33)).map (·.1)).getD .skip
noncomputable def rest33 : Code := ((Tryd.f31.body.bind (seqAt 33)).map (·.2)).getD .skip

/-- v, ok := m[k] where k is kept. -/
theorem IMap.look_ok {w : World} {b n : Nat} {f : Int → Option Value} (h : IMap w b n f) {t e : TypeId} (ht : Tryd.prog.underlying t = some (.map 3 e)) {z : Value} (hz : (zeroValue e).run Tryd.prog w = .ok z w) {k : Int} (hk : K64 k) {u : Value} (hu : f k = some u) :
    (Instr.lookup t (.map (some b)) (.int .i64 k) true).run Tryd.prog w = .ok (.tuple #[u, .bool true]) w := by
  obtain ⟨D, h, hD, hf⟩ := h
  obtain ⟨v, ps, hrun, hv⟩ := h.look_ok law3 ht hz (R := raw) (zd := .held z) (zp := []) rfl (keyOf64 hk)
  obtain ⟨h1, h2⟩ := hf k hk
  have hv' : DataW.held v = D.atKey (.int .i64 k) (.held z) := by
    have := Option.some.inj hv
    exact (Prod.mk.injEq _ _ _ _ ▸ this).1
  rw [h2 u hu] at hv'
  have e1 : v = u := by injection hv'
  rw [hu] at h1
  rw [hrun, e1, show Maps.has D (.int .i64 k) = true by simpa using h1]
/-- Both look-ups of a row that is kept. -/
theorem feat_look2 {wr : World} {fm n : Nat} {es : List Ent} (h : Feat wr fm n es) (key : Int) (hkey : stored key) (ys : List Int) (he : ∃ e ∈ es, e.tag = key ∧ e.nums = ys) (hl : 1 ≤ ys.length) :
    ∃ gb, gb ≠ fm + 1 ∧ Kd.C (Kd.int .u64) wr (some ⟨gb, 0, none⟩) ys.length ys ∧ (∀ w, Turn (fun k => k = fm + 1) wr w → (Instr.lookup 87 (.map (some fm)) (.int .i64 key) false).run Tryd.prog w = .ok (.slice (some ⟨gb, 0, none⟩) ys.length ys.length) w) ∧
      ∀ w, Turn (fun k => k = fm + 1) wr w → (Instr.lookup 87 (.map (some fm)) (.int .i64 key) true).run Tryd.prog w = .ok (.tuple #[.slice (some ⟨gb, 0, none⟩) ys.length ys.length, .bool true]) w := by
  obtain ⟨f, hI, _, h2⟩ := h
  obtain ⟨e, hm, rfl, rfl⟩ := he
  obtain ⟨gb, a, b, c, d⟩ := h2 e hm hkey
  have hk : 0 ≤ e.tag ∧ e.tag < 65536 := by unfold stored at hkey; omega
  have K := K64.mk (show -9223372036854775808 ≤ e.tag by omega) (by omega)
  refine ⟨gb, d, b, fun w hT => ?_, fun w hT => ?_⟩
  · have := (hT.imap hI (by omega)).look Tryd.underlying87 (zero38 w) K
    rw [a] at this
    exact this
  · exact (hT.imap hI (by omega)).look_ok Tryd.underlying87 (zero38 w) K a

structure TShape (wide high : Nat) (x3 x4 x5 : Int) (ch : Nat) : Prop where
  w1 : wide ≤ 96
  h1 : high ≤ 40
  c1 : 1 ≤ ch ∧ ch ≤ 4
  d1 : x5 = 1 ∨ x5 = 8 ∨ x5 = 16
  p1 : (x3 = 0 ∧ ch = 1) ∨ (x3 = 1 ∧ ch = 1) ∨ (x3 = 3 ∧ ch = 1) ∨ (x3 = 2 ∧ x4 = 0 ∧ ch = 3 ∧ x5 ≠ 1) ∨ (x3 = 2 ∧ x4 = 1 ∧ ch = 4 ∧ x5 ≠ 1) ∨ (x3 = 2 ∧ x4 = 2 ∧ ch = 4 ∧ x5 ≠ 1)
/-- A picture's kind as a number. -/
def kindN (x3 x4 x5 : Int) : Int :=
  if x3 = 3 then 7 else if x3 = 2 then (if x4 = 2 then (if x5 = 16 then 6 else 5) else (if x5 = 16 then 4 else 3)) else (if x5 = 16 then 2 else 1)
/-- The decoder at newDecoder's end. -/
def DecEnd (wr : World) (g : Nat) (T : TypeId) (fm : Nat) (pal : Value) (wide high : Nat) (x3 x4 x5 : Int) (w1 : World) : Prop :=
  Turn (fun k => k = fm + 1) wr w1 ∧ ∃ mode : Int, w1.heap[fm + 1]? = some (decB g (.iface T (.agg #[])) (kindN x3 x4 x5) (if x3 = 3 then pal else .slice none 0 0) wide high mode x5 fm pal)

set_option maxRecDepth 100000 in
set_option maxHeartbeats 8000000 in
theorem newDec_tail (post : Ending → World → Prop) (K : Act → World → Prop) (hK : ∀ a w, rest33.wp Tryd.prog (bodyPost Tryd.prog Tryd.f31 post) a w → K a w) (wr : World) (g fm n : Nat) (T : TypeId) (es : List Ent) (pal : Value) (wide high : Nat) (x3 x4 x5 : Int) (ch : Nat) (hG : Cfg es wide high x3 x4 x5 ch) (hsh : TShape wide high x3 x4 x5 ch) (hF : Feat wr fm n es)
    (hpp : x3 = 3 → ∃ pb, pal = .slice (some ⟨pb, 0, none⟩) 256 256) (hd : wr.heap[fm + 1]? = some (decB g (.iface T (.agg #[])) 0 (.slice none 0 0) 0 0 0 0 fm pal)) (hpost : ∀ w1, DecEnd wr g T fm pal wide high x3 x4 x5 w1 → post (.returned (.tuple #[.pointer (some ⟨fm + 1, 0, none⟩), .nilIface])) w1)
    (v0 v1 v2 v3 v5 v6 v7 v8 v9 v10 v11 v12 v13 v14 v15 v16 v17 v18 v19 v20 v21 v22 v23 v24 v25 v26 v27 v28 v29 v30 v31 v32 v33 v34 v35 v36 v37 v38 v39 v40 v41 v42 v43 v44 v45 v46 v47 v48 v49 v50 v51 v52 v53 v54 v55 v56 v57 v58 v59 v60 v61 v62 v63 v64 v65 v66 v67 v68 v69 v70 v71 v72 v73 v74 v75 v76 v77 v78 v79 v80 v81 v82 v83 v84 v85 v86 v87 v88 v89 v90 v91 v92 v93 v94 v95 v96 v97 v98 v99 v100 v101 v102 v103 v104 v105 v106 v107 v108 v109 v110 v111 v112 v113 v114 v115 v116 v117 v118 v119 v120 v121 v122 v123 v124 v125 v126 v127 v128 v129 v130 v131 v132 v133 v134 v135 v136 v137 v138 v139 v140 v141 v142 v143 v144 v145 v146 v147 v148 v149 v150 v151 v152 v153 v154 v155 v156 v157 v158 v159 v160 v161 v162 v163 v164 v165 v166 v167 v168 v169 v170 v171 v172 v173 v174 v175 v176 v177 v178 v179 v180 v181 v182 v183 v184 v185 v186 v187 v188 v189 v190 v191 v192 v193 v194 v195 v196 v197 v198 v199 v200 v201 v202 v203 v204 v205 v206 v207 v208 v209 v210 v211 v212 v213 v214 v215 v216 v217 v218 v219 v220 v221 v222 v223 v224 v225 v226 v227 v228 v229 v230 v231 v232 v233 v234 v235 v236 v237 v238 v239 v240 v241 v242 v243 v244 v245 v246 v247 v248 v249 v250 v251 v252 v253 v254 v255 v256 v257 v258 v259 v260 v261 v262 v263 v264 v265 v266 v267 v268 v269 v270 v271 v272 v273 v274 v275 v276 v277 v278 v279 v280 v281 v282 v283 v284 v285 v286 v287 v288 v289 v290 v291 v292 v293 v294 v295 v296 v297 v298 v299 v300 v301 v302 v303 v304 v305 v306 v307 v308 v309 v310 v311 v312 v313 v314 v315 v316 v317 v318 v319 v320 v321 v322 v323 v324 v325 v326 v327 v328 v329 v330 v331 v332 v333 v334 v335 v336 v337 v338 v339 v340 v341 v342 v343 v344 v345 v346 v347 v348 v349 v350 v351 v352 v353 : Value) :
    reg33.wp Tryd.prog (Exit.then K (bodyPost Tryd.prog Tryd.f31 post)) ⟨#[v0, v1, v2, v3, .pointer (some ⟨fm + 1, 0, none⟩), v5, v6, v7, v8, v9, v10, v11, v12, v13, v14, v15, v16, v17, v18, v19, v20, v21, v22, v23, v24, v25, v26, v27, v28, v29, v30, v31, v32, v33, v34, v35, v36, v37, v38, v39, v40, v41, v42, v43, v44, v45, v46, v47, v48, v49, v50, v51, v52, v53, v54, v55, v56, v57, v58, v59, v60, v61, v62, v63, v64, v65, v66, v67, v68, v69, v70, v71, v72, v73, v74, v75, v76, v77, v78, v79, v80, v81, v82, v83, v84, v85, v86, v87, v88, v89, v90, v91, v92, v93, v94, v95, v96, v97, v98, v99, v100, v101, v102, v103, v104, v105, v106, v107, v108, v109, v110, v111, v112, v113, v114, v115, v116, v117, v118, v119, v120, v121, v122, v123, v124, v125, v126, v127, v128, v129, v130, v131, v132, v133, v134, v135, v136, v137, v138, v139, v140, v141, v142, v143, v144, v145, v146, v147, v148, v149, v150, v151, v152, v153, v154, v155, v156, v157, v158, v159, v160, v161, v162, v163, v164, v165, v166, v167, v168, v169, v170, v171, v172, v173, v174, v175, v176, v177, v178, v179, v180, v181, v182, v183, v184, v185, v186, v187, v188, v189, v190, v191, v192, v193, v194, v195, v196, v197, v198, v199, v200, v201, v202, v203, v204, v205, v206, v207, v208, v209, v210, v211, v212, v213, v214, v215, v216, v217, v218, v219, v220, v221, v222, v223, v224, v225, v226, v227, v228, v229, v230, v231, v232, v233, v234, v235, v236, v237, v238, v239, v240, v241, v242, v243, v244, v245, v246, v247, v248, v249, v250, v251, v252, v253, v254, v255, v256, v257, v258, v259, v260, v261, v262, v263, v264, v265, v266, v267, v268, v269, v270, v271, v272, v273, v274, v275, v276, v277, v278, v279, v280, v281, v282, v283, v284, v285, v286, v287, v288, v289, v290, v291, v292, v293, v294, v295, v296, v297, v298, v299, v300, v301, v302, v303, v304, v305, v306, v307, v308, v309, v310, v311, v312, v313, v314, v315, v316, v317, v318, v319, v320, v321, v322, v323, v324, v325, v326, v327, v328, v329, v330, v331, v332, v333, v334, v335, v336, v337, v338, v339, v340, v341, v342, v343, v344, v345, v346, v347, v348, v349, v350, v351, v352, v353], []⟩ wr := by
  conv => arg 2; whnf
  conv at hK => enter [a, w, 1, 2]; whnf
  have HG := Aside0.mk hG
  have HF := Aside0.mk hF
  have HD0 := Aside0.mk hd
  have HS := Aside0.mk hsh
  have HQ := Aside0.mk hpost
  have hw1 := hsh.w1
  have hh1 := hsh.h1
  have hch1 := hsh.c1
  have HPP := Aside0.mk hpp
  clear hG hF hd hpost hsh hpp
  have V256 := Aside0.mk (feat_first HF.out 256 wide (by simp [stored]) [(wide : Int)] HG.out.w rfl)
  have V257 := Aside0.mk (feat_first HF.out 257 high (by simp [stored]) [(high : Int)] HG.out.h rfl)
  have V258 := Aside0.mk (feat_first HF.out 258 x5 (by simp [stored]) _ HG.out.b (by rw [List.getElem?_replicate, if_pos (by omega)]))
  have V262 := Aside0.mk (feat_first HF.out 262 x3 (by simp [stored]) [x3] HG.out.p rfl)
  have T0 := Aside0.mk (Turn.refl (fun k => k = fm + 1) wr)
  have c8 := (blk_cell HD0.out 8).trans (show _ = some (Value.map (some fm)) from rfl)
  have f4 := blk_frozen HD0.out 4
  have z4 := (blk_cell HD0.out 4).trans (show _ = some (Value.int .i64 0) from rfl)
  go_upto_region 34 with (go_at_call 44; (with_reducible refine (V256.out _ T0.out c8).mono ?_); rintro e w' ⟨rfl, rfl⟩)
  have s1 := Turn.set HD0.out 4 (.int .i64 wide)
  have HD1 := Aside0.mk (show (wr.setCell ⟨fm + 1, 4, none⟩ (.int .i64 wide)).heap[fm + 1]? = some (decB g (.iface T (.agg #[])) 0 (.slice none 0 0) wide 0 0 0 fm pal) from s1.2)
  have T1 := Aside0.mk s1.1
  clear s1 c8 f4 z4 V256
  generalize wr.setCell ⟨fm + 1, 4, none⟩ (.int .i64 wide) = w1 at HD1 T1 ⊢
  have c8 := (blk_cell HD1.out 8).trans (show _ = some (Value.map (some fm)) from rfl)
  have f5 := blk_frozen HD1.out 5
  have z5 := (blk_cell HD1.out 5).trans (show _ = some (Value.int .i64 0) from rfl)
  go_upto_region 35 with (go_at_call 44; (with_reducible refine (V257.out _ T1.out c8).mono ?_); rintro e w' ⟨rfl, rfl⟩)
  have s1 := Turn.set HD1.out 5 (.int .i64 high)
  have HD2 := Aside0.mk (show (w1.setCell ⟨fm + 1, 5, none⟩ (.int .i64 high)).heap[fm + 1]? = some (decB g (.iface T (.agg #[])) 0 (.slice none 0 0) wide high 0 0 fm pal) from s1.2)
  have T2 := Aside0.mk (T1.out.trans s1.1 (fun k hk => .inl hk))
  clear s1 c8 f5 z5 V257 HD1 T1
  generalize w1.setCell ⟨fm + 1, 5, none⟩ (.int .i64 high) = w2 at HD2 T2 ⊢
  obtain ⟨gb, hgb1, hgb2, hgb3, hgb4⟩ := feat_look2 HF.out 258 (by simp [stored]) _ HG.out.b (by simp; omega)
  have HL := Aside0.mk hgb3
  have HB := Aside0.mk hgb2
  have HGB := Aside0.mk hgb1
  have L2 := hgb4 w2 T2.out
  clear hgb1 hgb2 hgb3 hgb4
  rw [List.length_replicate] at L2
  have c8 := (blk_cell HD2.out 8).trans (show _ = some (Value.map (some fm)) from rfl)
  have f7 := blk_frozen HD2.out 7
  have z7 := (blk_cell HD2.out 7).trans (show _ = some (Value.int .u64 0) from rfl)
  go_upto_region 39 with (go_at_call 44; (with_reducible refine (V258.out _ T2.out c8).mono ?_); rintro e w' ⟨rfl, rfl⟩)
  have s1 := Turn.set HD2.out 7 (.int .u64 x5)
  have HD3 := Aside0.mk (show (w2.setCell ⟨fm + 1, 7, none⟩ (.int .u64 x5)).heap[fm + 1]? = some (decB g (.iface T (.agg #[])) 0 (.slice none 0 0) wide high 0 x5 fm pal) from s1.2)
  have T3 := Aside0.mk (T2.out.trans s1.1 (fun k hk => .inl hk))
  clear s1 c8 f7 z7 V258 HD2 T2 L2
  generalize w2.setCell ⟨fm + 1, 7, none⟩ (.int .u64 x5) = w3 at HD3 T3 ⊢
  have c7 := (blk_cell HD3.out 7).trans (show _ = some (Value.int .u64 x5) from rfl)
  go_upto_block 3 with (fail)
  go_cut [181] from 178 to 184 (fun v wx => w3 = wx)
  case first =>
    rcases HS.out.d1 with rfl | rfl | rfl
    · go_wp2_with (fail)
      go_meet
      rfl
    · go_wp2_with (fail)
      go_meet
      rfl
    · go_wp2_with (fail)
      go_meet
      rfl
  case rest =>
  obtain rfl := hcut
  have c8 := (blk_cell HD3.out 8).trans (show _ = some (Value.map (some fm)) from rfl)
  go_upto_block 4 with (go_at_call 44; (with_reducible refine (V262.out _ T3.out c8).mono ?_); rintro e w' ⟨rfl, rfl⟩)
  have HT3 := Aside0.mk T3.out
  go_cut [188] from 187 to 341 (fun _ wx => Aside0 (DecEnd wr g T fm pal wide high x3 x4 x5 wx))
  case first =>
    clear c7 c8 V262
    rcases HS.out.p1 with ⟨rfl, rfl⟩ | ⟨rfl, rfl⟩ | ⟨rfl, rfl⟩ | ⟨rfl, rfl, rfl, h5⟩ | ⟨rfl, rfl, rfl, h5⟩ | ⟨rfl, rfl, rfl, h5⟩
    · as_aux_lemma =>
      rcases HS.out.d1 with rfl | rfl | rfl
      · go_upto_region 86 with (fail)
        have f6 := blk_frozen HD3.out 6
        have z6 := (blk_cell HD3.out 6).trans (show _ = some (Value.int .i64 0) from rfl)
        go_upto_region 87 with (fail)
        have s1 := Turn.set HD3.out 6 (.int .i64 3)
        have HD4 := Aside0.mk (show (w3.setCell ⟨fm + 1, 6, none⟩ (.int .i64 3)).heap[fm + 1]? = some (decB g (.iface T (.agg #[])) 0 (.slice none 0 0) wide high 3 1 fm pal) from s1.2)
        have HT4 := Aside0.mk (HT3.out.trans s1.1 (fun k hk => .inl hk))
        clear s1
        generalize w3.setCell ⟨fm + 1, 6, none⟩ (.int .i64 3) = w4 at HD4 HT4 ⊢
        clear f6 z6
        have c7 := (blk_cell HD4.out 7).trans (show _ = some (Value.int .u64 1) from rfl)
        go_upto_region 89 with (fail)
        clear c7
        have f2 := blk_frozen HD4.out 2
        have z2 := (blk_cell HD4.out 2).trans (show _ = some (Value.int .i64 0) from rfl)
        go_wp2_with (fail)
        go_meet
        have s1 := Turn.set HD4.out 2 (.int .i64 1)
        exact ⟨⟨HT4.out.trans s1.1 (fun k hk => .inl hk), 3, by simpa [kindN, decB, Array.set] using s1.2⟩⟩
      · go_upto_region 86 with (fail)
        have f6 := blk_frozen HD3.out 6
        have z6 := (blk_cell HD3.out 6).trans (show _ = some (Value.int .i64 0) from rfl)
        go_upto_region 87 with (fail)
        have s1 := Turn.set HD3.out 6 (.int .i64 3)
        have HD4 := Aside0.mk (show (w3.setCell ⟨fm + 1, 6, none⟩ (.int .i64 3)).heap[fm + 1]? = some (decB g (.iface T (.agg #[])) 0 (.slice none 0 0) wide high 3 8 fm pal) from s1.2)
        have HT4 := Aside0.mk (HT3.out.trans s1.1 (fun k hk => .inl hk))
        clear s1
        generalize w3.setCell ⟨fm + 1, 6, none⟩ (.int .i64 3) = w4 at HD4 HT4 ⊢
        clear f6 z6
        have c7 := (blk_cell HD4.out 7).trans (show _ = some (Value.int .u64 8) from rfl)
        go_upto_region 89 with (fail)
        clear c7
        have f2 := blk_frozen HD4.out 2
        have z2 := (blk_cell HD4.out 2).trans (show _ = some (Value.int .i64 0) from rfl)
        go_wp2_with (fail)
        go_meet
        have s1 := Turn.set HD4.out 2 (.int .i64 1)
        exact ⟨⟨HT4.out.trans s1.1 (fun k hk => .inl hk), 3, by simpa [kindN, decB, Array.set] using s1.2⟩⟩
      · go_upto_region 86 with (fail)
        have f6 := blk_frozen HD3.out 6
        have z6 := (blk_cell HD3.out 6).trans (show _ = some (Value.int .i64 0) from rfl)
        go_upto_region 87 with (fail)
        have s1 := Turn.set HD3.out 6 (.int .i64 3)
        have HD4 := Aside0.mk (show (w3.setCell ⟨fm + 1, 6, none⟩ (.int .i64 3)).heap[fm + 1]? = some (decB g (.iface T (.agg #[])) 0 (.slice none 0 0) wide high 3 16 fm pal) from s1.2)
        have HT4 := Aside0.mk (HT3.out.trans s1.1 (fun k hk => .inl hk))
        clear s1
        generalize w3.setCell ⟨fm + 1, 6, none⟩ (.int .i64 3) = w4 at HD4 HT4 ⊢
        clear f6 z6
        have c7 := (blk_cell HD4.out 7).trans (show _ = some (Value.int .u64 16) from rfl)
        go_upto_region 88 with (fail)
        clear c7
        have f2 := blk_frozen HD4.out 2
        have z2 := (blk_cell HD4.out 2).trans (show _ = some (Value.int .i64 0) from rfl)
        go_wp2_with (fail)
        go_meet
        have s1 := Turn.set HD4.out 2 (.int .i64 2)
        exact ⟨⟨HT4.out.trans s1.1 (fun k hk => .inl hk), 3, by simpa [kindN, decB, Array.set] using s1.2⟩⟩
    · as_aux_lemma =>
      rcases HS.out.d1 with rfl | rfl | rfl
      · go_upto_region 91 with (fail)
        have f6 := blk_frozen HD3.out 6
        have z6 := (blk_cell HD3.out 6).trans (show _ = some (Value.int .i64 0) from rfl)
        go_upto_region 92 with (fail)
        have s1 := Turn.set HD3.out 6 (.int .i64 2)
        have HD4 := Aside0.mk (show (w3.setCell ⟨fm + 1, 6, none⟩ (.int .i64 2)).heap[fm + 1]? = some (decB g (.iface T (.agg #[])) 0 (.slice none 0 0) wide high 2 1 fm pal) from s1.2)
        have HT4 := Aside0.mk (HT3.out.trans s1.1 (fun k hk => .inl hk))
        clear s1
        generalize w3.setCell ⟨fm + 1, 6, none⟩ (.int .i64 2) = w4 at HD4 HT4 ⊢
        clear f6 z6
        have c7 := (blk_cell HD4.out 7).trans (show _ = some (Value.int .u64 1) from rfl)
        go_upto_region 94 with (fail)
        clear c7
        have f2 := blk_frozen HD4.out 2
        have z2 := (blk_cell HD4.out 2).trans (show _ = some (Value.int .i64 0) from rfl)
        go_wp2_with (fail)
        go_meet
        have s1 := Turn.set HD4.out 2 (.int .i64 1)
        exact ⟨⟨HT4.out.trans s1.1 (fun k hk => .inl hk), 2, by simpa [kindN, decB, Array.set] using s1.2⟩⟩
      · go_upto_region 91 with (fail)
        have f6 := blk_frozen HD3.out 6
        have z6 := (blk_cell HD3.out 6).trans (show _ = some (Value.int .i64 0) from rfl)
        go_upto_region 92 with (fail)
        have s1 := Turn.set HD3.out 6 (.int .i64 2)
        have HD4 := Aside0.mk (show (w3.setCell ⟨fm + 1, 6, none⟩ (.int .i64 2)).heap[fm + 1]? = some (decB g (.iface T (.agg #[])) 0 (.slice none 0 0) wide high 2 8 fm pal) from s1.2)
        have HT4 := Aside0.mk (HT3.out.trans s1.1 (fun k hk => .inl hk))
        clear s1
        generalize w3.setCell ⟨fm + 1, 6, none⟩ (.int .i64 2) = w4 at HD4 HT4 ⊢
        clear f6 z6
        have c7 := (blk_cell HD4.out 7).trans (show _ = some (Value.int .u64 8) from rfl)
        go_upto_region 94 with (fail)
        clear c7
        have f2 := blk_frozen HD4.out 2
        have z2 := (blk_cell HD4.out 2).trans (show _ = some (Value.int .i64 0) from rfl)
        go_wp2_with (fail)
        go_meet
        have s1 := Turn.set HD4.out 2 (.int .i64 1)
        exact ⟨⟨HT4.out.trans s1.1 (fun k hk => .inl hk), 2, by simpa [kindN, decB, Array.set] using s1.2⟩⟩
      · go_upto_region 91 with (fail)
        have f6 := blk_frozen HD3.out 6
        have z6 := (blk_cell HD3.out 6).trans (show _ = some (Value.int .i64 0) from rfl)
        go_upto_region 92 with (fail)
        have s1 := Turn.set HD3.out 6 (.int .i64 2)
        have HD4 := Aside0.mk (show (w3.setCell ⟨fm + 1, 6, none⟩ (.int .i64 2)).heap[fm + 1]? = some (decB g (.iface T (.agg #[])) 0 (.slice none 0 0) wide high 2 16 fm pal) from s1.2)
        have HT4 := Aside0.mk (HT3.out.trans s1.1 (fun k hk => .inl hk))
        clear s1
        generalize w3.setCell ⟨fm + 1, 6, none⟩ (.int .i64 2) = w4 at HD4 HT4 ⊢
        clear f6 z6
        have c7 := (blk_cell HD4.out 7).trans (show _ = some (Value.int .u64 16) from rfl)
        go_upto_region 93 with (fail)
        clear c7
        have f2 := blk_frozen HD4.out 2
        have z2 := (blk_cell HD4.out 2).trans (show _ = some (Value.int .i64 0) from rfl)
        go_wp2_with (fail)
        go_meet
        have s1 := Turn.set HD4.out 2 (.int .i64 2)
        exact ⟨⟨HT4.out.trans s1.1 (fun k hk => .inl hk), 2, by simpa [kindN, decB, Array.set] using s1.2⟩⟩
    · as_aux_lemma =>
      go_upto_region 83 with (fail)
      have f6 := blk_frozen HD3.out 6
      have z6 := (blk_cell HD3.out 6).trans (show _ = some (Value.int .i64 0) from rfl)
      go_upto_region 84 with (fail)
      have s1 := Turn.set HD3.out 6 (.int .i64 1)
      have HD4 := Aside0.mk (show (w3.setCell ⟨fm + 1, 6, none⟩ (.int .i64 1)).heap[fm + 1]? = some (decB g (.iface T (.agg #[])) 0 (.slice none 0 0) wide high 1 x5 fm pal) from s1.2)
      have HT4 := Aside0.mk (HT3.out.trans s1.1 (fun k hk => .inl hk))
      clear s1
      generalize w3.setCell ⟨fm + 1, 6, none⟩ (.int .i64 1) = w4 at HD4 HT4 ⊢
      clear f6 z6
      obtain ⟨pb, rfl⟩ := HPP.out rfl
      have c9 := (blk_cell HD4.out 9).trans (show _ = some (Value.slice (some ⟨pb, 0, none⟩) 256 256) from rfl)
      have f2 := blk_frozen HD4.out 2
      have z2 := (blk_cell HD4.out 2).trans (show _ = some (Value.int .i64 0) from rfl)
      have s1 := Turn.set HD4.out 2 (.int .i64 7)
      have HD5 := Aside0.mk (show (w4.setCell ⟨fm + 1, 2, none⟩ (.int .i64 7)).heap[fm + 1]? = some (decB g (.iface T (.agg #[])) 7 (.slice none 0 0) wide high 1 x5 fm (.slice (some ⟨pb, 0, none⟩) 256 256)) from s1.2)
      have HT5 := Aside0.mk (HT4.out.trans s1.1 (fun k hk => .inl hk))
      clear s1
      have f3 := blk_frozen HD5.out 3
      have z3 := (blk_cell HD5.out 3).trans (show _ = some (Value.slice none 0 0) from rfl)
      go_wp2_with (fail)
      go_meet
      have s1 := Turn.set HD5.out 3 (.slice (some ⟨pb, 0, none⟩) 256 256)
      exact ⟨⟨HT5.out.trans s1.1 (fun k hk => .inl hk), 1, by simpa [kindN, decB, Array.set] using s1.2⟩⟩
    · as_aux_lemma =>
      rcases HS.out.d1 with rfl | rfl | rfl
      · exact absurd rfl h5
      · have c7 := (blk_cell HD3.out 7).trans (show _ = some (Value.int .u64 8) from rfl)
        have c8 := (blk_cell HD3.out 8).trans (show _ = some (Value.map (some fm)) from rfl)
        have L3 := HL.out w3 T3.out
        rw [List.length_replicate] at L3
        have HC := Aside0.mk (C_at_blk HB.out (T3.out.far gb (C_at_lt HB.out (by simp)) HGB.out))
        obtain ⟨ad, e, hc⟩ := (Kd.reads_of_C (enc := Value.int .u64) (d := (0 : Int)) HC.out).2.2 (by simp)
        obtain rfl := Option.some.inj e
        have HCE := Aside0.mk (show ∀ k, k < 3 → w3.cell? ⟨gb, k, none⟩ = some (.int .u64 8) from fun k hk => by
          have h := hc k (by simpa using hk)
          rw [add_plain] at h
          rw [h, List.getD_eq_getElem?_getD, List.getElem?_replicate, if_pos hk]; rfl)
        clear hc
        have TW := Aside0.mk (show w3 = w3 from rfl)
        go_wp2_with (fail)
        go_loopg [215, 22] 3 (fun kq v v2 wq => ∃ k : Nat, v = .int .i64 k ∧ Aside0 (kq = 3 - k ∧ k ≤ 3) ∧ w3 = wq)
        case atStart => exact ⟨0, rfl, ⟨rfl, by omega⟩, rfl⟩
        case round =>
          obtain ⟨k, rfl, HK, rfl⟩ := hrel
          have hk1 := HK.out.2
          rcases Nat.lt_or_ge k 3 with hk | hk
          · have ce := HCE.out k hk
            go_wp2_with (fail)
            go_roundg (3 - (k + 1))
            case measure => have := HK.out; omega
            case rel => exact ⟨k + 1, by go_num, ⟨rfl, by omega⟩, rfl⟩
          · obtain rfl : k = 3 := by omega
            go_upto_region 65 with (fail)
            clear L3 c7
            have f6 := blk_frozen HD3.out 6
            have z6 := (blk_cell HD3.out 6).trans (show _ = some (Value.int .i64 0) from rfl)
            go_upto_region 66 with (fail)
            have s1 := Turn.set HD3.out 6 (.int .i64 4)
            have HD4 := Aside0.mk (show (w3.setCell ⟨fm + 1, 6, none⟩ (.int .i64 4)).heap[fm + 1]? = some (decB g (.iface T (.agg #[])) 0 (.slice none 0 0) wide high 4 8 fm pal) from s1.2)
            have HT4 := Aside0.mk (HT3.out.trans s1.1 (fun k hk => .inl hk))
            clear s1
            generalize w3.setCell ⟨fm + 1, 6, none⟩ (.int .i64 4) = w4 at HD4 HT4 ⊢
            clear f6 z6
            have c7 := (blk_cell HD4.out 7).trans (show _ = some (Value.int .u64 8) from rfl)
            go_upto_region 68 with (fail)
            clear c7
            have f2 := blk_frozen HD4.out 2
            have z2 := (blk_cell HD4.out 2).trans (show _ = some (Value.int .i64 0) from rfl)
            go_wp2_with (fail)
            go_meet
            have s1 := Turn.set HD4.out 2 (.int .i64 3)
            exact ⟨⟨HT4.out.trans s1.1 (fun k hk => .inl hk), 4, by simpa [kindN, decB, Array.set] using s1.2⟩⟩
      · have c7 := (blk_cell HD3.out 7).trans (show _ = some (Value.int .u64 16) from rfl)
        have c8 := (blk_cell HD3.out 8).trans (show _ = some (Value.map (some fm)) from rfl)
        have L3 := HL.out w3 T3.out
        rw [List.length_replicate] at L3
        have HC := Aside0.mk (C_at_blk HB.out (T3.out.far gb (C_at_lt HB.out (by simp)) HGB.out))
        obtain ⟨ad, e, hc⟩ := (Kd.reads_of_C (enc := Value.int .u64) (d := (0 : Int)) HC.out).2.2 (by simp)
        obtain rfl := Option.some.inj e
        have HCE := Aside0.mk (show ∀ k, k < 3 → w3.cell? ⟨gb, k, none⟩ = some (.int .u64 16) from fun k hk => by
          have h := hc k (by simpa using hk)
          rw [add_plain] at h
          rw [h, List.getD_eq_getElem?_getD, List.getElem?_replicate, if_pos hk]; rfl)
        clear hc
        have TW := Aside0.mk (show w3 = w3 from rfl)
        go_wp2_with (fail)
        go_loopg [201, 20] 3 (fun kq v v2 wq => ∃ k : Nat, v = .int .i64 k ∧ Aside0 (kq = 3 - k ∧ k ≤ 3) ∧ w3 = wq)
        case atStart => exact ⟨0, rfl, ⟨rfl, by omega⟩, rfl⟩
        case round =>
          obtain ⟨k, rfl, HK, rfl⟩ := hrel
          have hk1 := HK.out.2
          rcases Nat.lt_or_ge k 3 with hk | hk
          · have ce := HCE.out k hk
            go_wp2_with (fail)
            go_roundg (3 - (k + 1))
            case measure => have := HK.out; omega
            case rel => exact ⟨k + 1, by go_num, ⟨rfl, by omega⟩, rfl⟩
          · obtain rfl : k = 3 := by omega
            go_upto_region 65 with (fail)
            clear L3 c7
            have f6 := blk_frozen HD3.out 6
            have z6 := (blk_cell HD3.out 6).trans (show _ = some (Value.int .i64 0) from rfl)
            go_upto_region 66 with (fail)
            have s1 := Turn.set HD3.out 6 (.int .i64 4)
            have HD4 := Aside0.mk (show (w3.setCell ⟨fm + 1, 6, none⟩ (.int .i64 4)).heap[fm + 1]? = some (decB g (.iface T (.agg #[])) 0 (.slice none 0 0) wide high 4 16 fm pal) from s1.2)
            have HT4 := Aside0.mk (HT3.out.trans s1.1 (fun k hk => .inl hk))
            clear s1
            generalize w3.setCell ⟨fm + 1, 6, none⟩ (.int .i64 4) = w4 at HD4 HT4 ⊢
            clear f6 z6
            have c7 := (blk_cell HD4.out 7).trans (show _ = some (Value.int .u64 16) from rfl)
            go_upto_region 67 with (fail)
            clear c7
            have f2 := blk_frozen HD4.out 2
            have z2 := (blk_cell HD4.out 2).trans (show _ = some (Value.int .i64 0) from rfl)
            go_wp2_with (fail)
            go_meet
            have s1 := Turn.set HD4.out 2 (.int .i64 4)
            exact ⟨⟨HT4.out.trans s1.1 (fun k hk => .inl hk), 4, by simpa [kindN, decB, Array.set] using s1.2⟩⟩
    · as_aux_lemma =>
      rcases HS.out.d1 with rfl | rfl | rfl
      · exact absurd rfl h5
      · have c7 := (blk_cell HD3.out 7).trans (show _ = some (Value.int .u64 8) from rfl)
        have c8 := (blk_cell HD3.out 8).trans (show _ = some (Value.map (some fm)) from rfl)
        have L3 := HL.out w3 T3.out
        rw [List.length_replicate] at L3
        have HC := Aside0.mk (C_at_blk HB.out (T3.out.far gb (C_at_lt HB.out (by simp)) HGB.out))
        obtain ⟨ad, e, hc⟩ := (Kd.reads_of_C (enc := Value.int .u64) (d := (0 : Int)) HC.out).2.2 (by simp)
        obtain rfl := Option.some.inj e
        have HCE := Aside0.mk (show ∀ k, k < 4 → w3.cell? ⟨gb, k, none⟩ = some (.int .u64 8) from fun k hk => by
          have h := hc k (by simpa using hk)
          rw [add_plain] at h
          rw [h, List.getD_eq_getElem?_getD, List.getElem?_replicate, if_pos hk]; rfl)
        clear hc
        have TW := Aside0.mk (show w3 = w3 from rfl)
        go_wp2_with (fail)
        go_loopg [215, 22] 4 (fun kq v v2 wq => ∃ k : Nat, v = .int .i64 k ∧ Aside0 (kq = 4 - k ∧ k ≤ 4) ∧ w3 = wq)
        case atStart => exact ⟨0, rfl, ⟨rfl, by omega⟩, rfl⟩
        case round =>
          obtain ⟨k, rfl, HK, rfl⟩ := hrel
          have hk1 := HK.out.2
          rcases Nat.lt_or_ge k 4 with hk | hk
          · have ce := HCE.out k hk
            go_wp2_with (fail)
            go_roundg (4 - (k + 1))
            case measure => have := HK.out; omega
            case rel => exact ⟨k + 1, by go_num, ⟨rfl, by omega⟩, rfl⟩
          · obtain rfl : k = 4 := by omega
            have V338 := Aside0.mk (feat_first HF.out 338 1 (by simp [stored]) [1] (HG.out.x (by decide)) rfl)
            go_upto_region 73 with (go_at_call 44; (with_reducible refine (V338.out _ T3.out c8).mono ?_); rintro e w' ⟨rfl, rfl⟩)
            clear L3 c7
            have f6 := blk_frozen HD3.out 6
            have z6 := (blk_cell HD3.out 6).trans (show _ = some (Value.int .i64 0) from rfl)
            go_upto_region 74 with (fail)
            have s1 := Turn.set HD3.out 6 (.int .i64 5)
            have HD4 := Aside0.mk (show (w3.setCell ⟨fm + 1, 6, none⟩ (.int .i64 5)).heap[fm + 1]? = some (decB g (.iface T (.agg #[])) 0 (.slice none 0 0) wide high 5 8 fm pal) from s1.2)
            have HT4 := Aside0.mk (HT3.out.trans s1.1 (fun k hk => .inl hk))
            clear s1
            generalize w3.setCell ⟨fm + 1, 6, none⟩ (.int .i64 5) = w4 at HD4 HT4 ⊢
            clear f6 z6
            have c7 := (blk_cell HD4.out 7).trans (show _ = some (Value.int .u64 8) from rfl)
            go_upto_region 76 with (fail)
            clear c7
            have f2 := blk_frozen HD4.out 2
            have z2 := (blk_cell HD4.out 2).trans (show _ = some (Value.int .i64 0) from rfl)
            go_wp2_with (fail)
            go_meet
            have s1 := Turn.set HD4.out 2 (.int .i64 3)
            exact ⟨⟨HT4.out.trans s1.1 (fun k hk => .inl hk), 5, by simpa [kindN, decB, Array.set] using s1.2⟩⟩
      · have c7 := (blk_cell HD3.out 7).trans (show _ = some (Value.int .u64 16) from rfl)
        have c8 := (blk_cell HD3.out 8).trans (show _ = some (Value.map (some fm)) from rfl)
        have L3 := HL.out w3 T3.out
        rw [List.length_replicate] at L3
        have HC := Aside0.mk (C_at_blk HB.out (T3.out.far gb (C_at_lt HB.out (by simp)) HGB.out))
        obtain ⟨ad, e, hc⟩ := (Kd.reads_of_C (enc := Value.int .u64) (d := (0 : Int)) HC.out).2.2 (by simp)
        obtain rfl := Option.some.inj e
        have HCE := Aside0.mk (show ∀ k, k < 4 → w3.cell? ⟨gb, k, none⟩ = some (.int .u64 16) from fun k hk => by
          have h := hc k (by simpa using hk)
          rw [add_plain] at h
          rw [h, List.getD_eq_getElem?_getD, List.getElem?_replicate, if_pos hk]; rfl)
        clear hc
        have TW := Aside0.mk (show w3 = w3 from rfl)
        go_wp2_with (fail)
        go_loopg [201, 20] 4 (fun kq v v2 wq => ∃ k : Nat, v = .int .i64 k ∧ Aside0 (kq = 4 - k ∧ k ≤ 4) ∧ w3 = wq)
        case atStart => exact ⟨0, rfl, ⟨rfl, by omega⟩, rfl⟩
        case round =>
          obtain ⟨k, rfl, HK, rfl⟩ := hrel
          have hk1 := HK.out.2
          rcases Nat.lt_or_ge k 4 with hk | hk
          · have ce := HCE.out k hk
            go_wp2_with (fail)
            go_roundg (4 - (k + 1))
            case measure => have := HK.out; omega
            case rel => exact ⟨k + 1, by go_num, ⟨rfl, by omega⟩, rfl⟩
          · obtain rfl : k = 4 := by omega
            have V338 := Aside0.mk (feat_first HF.out 338 1 (by simp [stored]) [1] (HG.out.x (by decide)) rfl)
            go_upto_region 73 with (go_at_call 44; (with_reducible refine (V338.out _ T3.out c8).mono ?_); rintro e w' ⟨rfl, rfl⟩)
            clear L3 c7
            have f6 := blk_frozen HD3.out 6
            have z6 := (blk_cell HD3.out 6).trans (show _ = some (Value.int .i64 0) from rfl)
            go_upto_region 74 with (fail)
            have s1 := Turn.set HD3.out 6 (.int .i64 5)
            have HD4 := Aside0.mk (show (w3.setCell ⟨fm + 1, 6, none⟩ (.int .i64 5)).heap[fm + 1]? = some (decB g (.iface T (.agg #[])) 0 (.slice none 0 0) wide high 5 16 fm pal) from s1.2)
            have HT4 := Aside0.mk (HT3.out.trans s1.1 (fun k hk => .inl hk))
            clear s1
            generalize w3.setCell ⟨fm + 1, 6, none⟩ (.int .i64 5) = w4 at HD4 HT4 ⊢
            clear f6 z6
            have c7 := (blk_cell HD4.out 7).trans (show _ = some (Value.int .u64 16) from rfl)
            go_upto_region 75 with (fail)
            clear c7
            have f2 := blk_frozen HD4.out 2
            have z2 := (blk_cell HD4.out 2).trans (show _ = some (Value.int .i64 0) from rfl)
            go_wp2_with (fail)
            go_meet
            have s1 := Turn.set HD4.out 2 (.int .i64 4)
            exact ⟨⟨HT4.out.trans s1.1 (fun k hk => .inl hk), 5, by simpa [kindN, decB, Array.set] using s1.2⟩⟩
    · as_aux_lemma =>
      rcases HS.out.d1 with rfl | rfl | rfl
      · exact absurd rfl h5
      · have c7 := (blk_cell HD3.out 7).trans (show _ = some (Value.int .u64 8) from rfl)
        have c8 := (blk_cell HD3.out 8).trans (show _ = some (Value.map (some fm)) from rfl)
        have L3 := HL.out w3 T3.out
        rw [List.length_replicate] at L3
        have HC := Aside0.mk (C_at_blk HB.out (T3.out.far gb (C_at_lt HB.out (by simp)) HGB.out))
        obtain ⟨ad, e, hc⟩ := (Kd.reads_of_C (enc := Value.int .u64) (d := (0 : Int)) HC.out).2.2 (by simp)
        obtain rfl := Option.some.inj e
        have HCE := Aside0.mk (show ∀ k, k < 4 → w3.cell? ⟨gb, k, none⟩ = some (.int .u64 8) from fun k hk => by
          have h := hc k (by simpa using hk)
          rw [add_plain] at h
          rw [h, List.getD_eq_getElem?_getD, List.getElem?_replicate, if_pos hk]; rfl)
        clear hc
        have TW := Aside0.mk (show w3 = w3 from rfl)
        go_wp2_with (fail)
        go_loopg [215, 22] 4 (fun kq v v2 wq => ∃ k : Nat, v = .int .i64 k ∧ Aside0 (kq = 4 - k ∧ k ≤ 4) ∧ w3 = wq)
        case atStart => exact ⟨0, rfl, ⟨rfl, by omega⟩, rfl⟩
        case round =>
          obtain ⟨k, rfl, HK, rfl⟩ := hrel
          have hk1 := HK.out.2
          rcases Nat.lt_or_ge k 4 with hk | hk
          · have ce := HCE.out k hk
            go_wp2_with (fail)
            go_roundg (4 - (k + 1))
            case measure => have := HK.out; omega
            case rel => exact ⟨k + 1, by go_num, ⟨rfl, by omega⟩, rfl⟩
          · obtain rfl : k = 4 := by omega
            have V338 := Aside0.mk (feat_first HF.out 338 2 (by simp [stored]) [2] (HG.out.x (by decide)) rfl)
            go_upto_region 78 with (go_at_call 44; (with_reducible refine (V338.out _ T3.out c8).mono ?_); rintro e w' ⟨rfl, rfl⟩)
            clear L3 c7
            have f6 := blk_frozen HD3.out 6
            have z6 := (blk_cell HD3.out 6).trans (show _ = some (Value.int .i64 0) from rfl)
            go_upto_region 79 with (fail)
            have s1 := Turn.set HD3.out 6 (.int .i64 6)
            have HD4 := Aside0.mk (show (w3.setCell ⟨fm + 1, 6, none⟩ (.int .i64 6)).heap[fm + 1]? = some (decB g (.iface T (.agg #[])) 0 (.slice none 0 0) wide high 6 8 fm pal) from s1.2)
            have HT4 := Aside0.mk (HT3.out.trans s1.1 (fun k hk => .inl hk))
            clear s1
            generalize w3.setCell ⟨fm + 1, 6, none⟩ (.int .i64 6) = w4 at HD4 HT4 ⊢
            clear f6 z6
            have c7 := (blk_cell HD4.out 7).trans (show _ = some (Value.int .u64 8) from rfl)
            go_upto_region 81 with (fail)
            clear c7
            have f2 := blk_frozen HD4.out 2
            have z2 := (blk_cell HD4.out 2).trans (show _ = some (Value.int .i64 0) from rfl)
            go_wp2_with (fail)
            go_meet
            have s1 := Turn.set HD4.out 2 (.int .i64 5)
            exact ⟨⟨HT4.out.trans s1.1 (fun k hk => .inl hk), 6, by simpa [kindN, decB, Array.set] using s1.2⟩⟩
      · have c7 := (blk_cell HD3.out 7).trans (show _ = some (Value.int .u64 16) from rfl)
        have c8 := (blk_cell HD3.out 8).trans (show _ = some (Value.map (some fm)) from rfl)
        have L3 := HL.out w3 T3.out
        rw [List.length_replicate] at L3
        have HC := Aside0.mk (C_at_blk HB.out (T3.out.far gb (C_at_lt HB.out (by simp)) HGB.out))
        obtain ⟨ad, e, hc⟩ := (Kd.reads_of_C (enc := Value.int .u64) (d := (0 : Int)) HC.out).2.2 (by simp)
        obtain rfl := Option.some.inj e
        have HCE := Aside0.mk (show ∀ k, k < 4 → w3.cell? ⟨gb, k, none⟩ = some (.int .u64 16) from fun k hk => by
          have h := hc k (by simpa using hk)
          rw [add_plain] at h
          rw [h, List.getD_eq_getElem?_getD, List.getElem?_replicate, if_pos hk]; rfl)
        clear hc
        have TW := Aside0.mk (show w3 = w3 from rfl)
        go_wp2_with (fail)
        go_loopg [201, 20] 4 (fun kq v v2 wq => ∃ k : Nat, v = .int .i64 k ∧ Aside0 (kq = 4 - k ∧ k ≤ 4) ∧ w3 = wq)
        case atStart => exact ⟨0, rfl, ⟨rfl, by omega⟩, rfl⟩
        case round =>
          obtain ⟨k, rfl, HK, rfl⟩ := hrel
          have hk1 := HK.out.2
          rcases Nat.lt_or_ge k 4 with hk | hk
          · have ce := HCE.out k hk
            go_wp2_with (fail)
            go_roundg (4 - (k + 1))
            case measure => have := HK.out; omega
            case rel => exact ⟨k + 1, by go_num, ⟨rfl, by omega⟩, rfl⟩
          · obtain rfl : k = 4 := by omega
            have V338 := Aside0.mk (feat_first HF.out 338 2 (by simp [stored]) [2] (HG.out.x (by decide)) rfl)
            go_upto_region 78 with (go_at_call 44; (with_reducible refine (V338.out _ T3.out c8).mono ?_); rintro e w' ⟨rfl, rfl⟩)
            clear L3 c7
            have f6 := blk_frozen HD3.out 6
            have z6 := (blk_cell HD3.out 6).trans (show _ = some (Value.int .i64 0) from rfl)
            go_upto_region 79 with (fail)
            have s1 := Turn.set HD3.out 6 (.int .i64 6)
            have HD4 := Aside0.mk (show (w3.setCell ⟨fm + 1, 6, none⟩ (.int .i64 6)).heap[fm + 1]? = some (decB g (.iface T (.agg #[])) 0 (.slice none 0 0) wide high 6 16 fm pal) from s1.2)
            have HT4 := Aside0.mk (HT3.out.trans s1.1 (fun k hk => .inl hk))
            clear s1
            generalize w3.setCell ⟨fm + 1, 6, none⟩ (.int .i64 6) = w4 at HD4 HT4 ⊢
            clear f6 z6
            have c7 := (blk_cell HD4.out 7).trans (show _ = some (Value.int .u64 16) from rfl)
            go_upto_region 80 with (fail)
            clear c7
            have f2 := blk_frozen HD4.out 2
            have z2 := (blk_cell HD4.out 2).trans (show _ = some (Value.int .i64 0) from rfl)
            go_wp2_with (fail)
            go_meet
            have s1 := Turn.set HD4.out 2 (.int .i64 6)
            exact ⟨⟨HT4.out.trans s1.1 (fun k hk => .inl hk), 6, by simpa [kindN, decB, Array.set] using s1.2⟩⟩
  case rest =>
  have HE := Aside0.mk hcut.out
  obtain ⟨t1, mode, b1⟩ := HE.out
  have T4 := Aside0.mk t1
  have HD4 := Aside0.mk b1
  clear t1 b1 hcut c7 c8 HD3 T3 HT3
  obtain ⟨w5, rfl⟩ : ∃ w5 : World, w5 = wc := ⟨_, rfl⟩
  have c8 := (blk_cell HD4.out 8).trans (show _ = some (Value.map (some fm)) from rfl)
  have L4 := HL.out w5 T4.out
  rw [List.length_replicate] at L4
  have hx : (x3 = 2) ∨ (x3 ≠ 2 ∧ ch = 1) := by have := HS.out.p1; omega
  rcases hx with rfl | ⟨hx, rfl⟩
  · go_wp2_with (go_at_call 44; (with_reducible refine (V262.out _ T4.out c8).mono ?_); rintro e w' ⟨rfl, rfl⟩)

    exact HQ.out _ HE.out
  · have hx2 : (x3 == 2) = false := by simpa using hx
    have hx3 : (x3 != 2) = true := by simpa using hx
    go_wp2_with (go_at_call 44; (with_reducible refine (V262.out _ T4.out c8).mono ?_); rintro e w' ⟨rfl, rfl⟩)

    exact HQ.out _ HE.out
end Go.Proofs.YtnodmobblamlgaaDoor
