import Derived.Test.YtlbnemnadegapaaGreatDoorKyTail2
import Derived.Deep.Cut
import Derived.Deep.CutRange
import Derived.Deep.CutBlock
import Derived.Deep.DeepCutAuto
set_option linter.unusedVariables false
set_option linter.unusedSimpArgs false
namespace Go.Proofs.YtlbnemnadegapaaGreatDoor.Ky
open Go.RowKit Go.Proofs.YtlbnemnadegapaaGreatDoor.K Go.Proofs.YtlbnemnadegapaaGreatDoor.Nm
set_option maxRecDepth 1000000 in
set_option maxHeartbeats 8000000 in
theorem tail1 (QQ : Exit → Act → World → Prop) (v0 v1 v2 v3 v4 v6 v7 v8 v9 v13 v16 v17 v18 v19 v20 v21 v22 v23 v24 v25 v26 v27 v28 v29 v30 v31 v32 v33 v34 v35 v36 v37 v38 v39 v40 v41 v42 v43 v44 v45 v46 v47 v48 v49 v50 v51 v52 v53 v54 v55 v56 v57 v58 v59 v60 v61 v62 v63 v64 v65 v66 v67 v68 v69 v70 v71 v72 v73 v74 v75 v76 v77 v78 v79 v80 v81 v82 v83 v84 v85 v86 v87 v88 v89 v90 v91 v92 v93 v94 v95 v96 v97 v98 v99 v100 v101 v102 v103 v104 v105 v106 v107 v108 v109 v110 v111 v112 v113 v114 v115 v116 v117 v118 v119 v120 v121 v122 v123 v124 v125 v126 v127 v128 v129 v130 v131 v132 v133 v134 v135 v136 v137 v138 v139 v140 v141 v142 v143 v144 v145 v146 v147 v148 v149 v150 v151 v152 v153 v154 v155 v156 v157 v158 v159 v160 v161 v162 v163 v164 v165 v166 v167 v168 v169 v170 v171 v172 v173 v174 v175 v176 v177 v178 v179 v180 v181 v182 v183 v184 v185 v186 v187 v188 v189 v190 v191 v192 v193 v194 v195 v196 v197 v198 v199 v200 v201 v202 v203 v204 v205 v206 v207 v208 v209 v210 v211 v212 v213 v214 v215 v216 v217 v218 v219 v220 v221 v222 v223 v224 v225 v226 v227 v228 v229 v230 v231 v232 v233 v234 v235 v236 v237 v238 v239 v240 v241 v242 v243 v244 v245 v246 v247 v248 v249 v250 : Value) (Qn : ByteArray → Prop) (B R p g b0 X b1 : Nat) (OA : Option Addr) (On Oc : Nat) (Ks : List Nat) (sns : List SN) (r : RS) (wx : World)
    (hQ : ∀ l : List ByteArray, l.Nodup → (∀ s ∈ l, Qn s) → l.length ≤ 12) (hxa : Blk wx X 34 (xC r)) (hset : SetAt Qn B wx g r.S) (hX : R ≤ X) (hBR : B ≤ R) (hKs : KeysAt wx b1 p Ks) (hki : KeysIn wx Ks) (hsub : Sub Ks r.S) (hn : Ks.length ≤ 20) (ho : OutsR wx B R (.slice OA On Oc) sns) (hsn : sns.length ≤ 1000)
    (hQQ : ∀ (OA2 : Option Addr) (On2 Oc2 : Nat) (wy : World) (y23 y24 y25 y216 y217 y218 y219 y220 y221 y222 y223 y224 y225 y226 y227 y228 y229 y230 y231 y232 y233 y234 y235 y236 y237 y238 y239 y240 y241 y242 y243 y244 y245 y246 y247 y248 y249 : Value), SetAt Qn B wy g r.S → Outs wy B (.slice OA2 On2 Oc2) (sns ++ [snOf Ks r]) → Below B wx wy → QQ .normal ⟨#[v0, v1, v2, v3, v4, .pointer (some ⟨p, 0, none⟩), v6, v7, v8, v9, .func (.func 12) #[] #[.pointer (some ⟨p, 0, none⟩)], .iface 85 (.pointer (some ⟨g, 0, none⟩)), .slice OA2 On2 Oc2, v13, .pointer (some ⟨b0, 0, none⟩), .pointer (some ⟨X, 0, none⟩), v16, v17, v18, v19, v20, v21, v22, y23, y24, y25, v26, v27, v28, v29, v30, v31, v32, v33, v34, v35, v36, v37, v38, v39, v40, v41, v42, v43, v44, v45, v46, v47, v48, v49, v50, v51, v52, v53, v54, v55, v56, v57, v58, v59, v60, v61, v62, v63, v64, v65, v66, v67, v68, v69, v70, v71, v72, v73, v74, v75, v76, v77, v78, v79, v80, v81, v82, v83, v84, v85, v86, v87, v88, v89, v90, v91, v92, v93, v94, v95, v96, v97, v98, v99, v100, v101, v102, v103, v104, v105, v106, v107, v108, v109, v110, v111, v112, v113, v114, v115, v116, v117, v118, v119, v120, v121, v122, v123, v124, v125, v126, v127, v128, v129, v130, v131, v132, v133, v134, v135, v136, v137, v138, v139, v140, v141, v142, v143, v144, v145, v146, v147, v148, v149, v150, v151, v152, v153, v154, v155, v156, v157, v158, v159, v160, v161, v162, v163, v164, v165, v166, v167, v168, v169, v170, v171, v172, v173, v174, v175, v176, v177, v178, v179, v180, v181, v182, v183, v184, v185, v186, v187, v188, v189, v190, v191, v192, v193, v194, v195, v196, v197, v198, v199, v200, v201, v202, v203, v204, v205, v206, v207, v208, v209, v210, v211, v212, v213, v214, v215, y216, y217, y218, y219, y220, y221, y222, y223, y224, y225, y226, y227, y228, y229, y230, y231, y232, y233, y234, y235, y236, y237, y238, y239, y240, y241, y242, y243, y244, y245, y246, y247, y248, y249, v250], []⟩ wy) :
    Code.wp Tryz.prog tlC QQ ⟨#[v0, v1, v2, v3, v4, .pointer (some ⟨p, 0, none⟩), v6, v7, v8, v9, .func (.func 12) #[] #[.pointer (some ⟨p, 0, none⟩)], .iface 85 (.pointer (some ⟨g, 0, none⟩)), .slice OA On Oc, v13, .pointer (some ⟨b0, 0, none⟩), .pointer (some ⟨X, 0, none⟩), v16, v17, v18, v19, v20, v21, v22, v23, v24, v25, v26, v27, v28, v29, v30, v31, v32, v33, v34, v35, v36, v37, v38, v39, v40, v41, v42, v43, v44, v45, v46, v47, v48, v49, v50, v51, v52, v53, v54, v55, v56, v57, v58, v59, v60, v61, v62, v63, v64, v65, v66, v67, v68, v69, v70, v71, v72, v73, v74, v75, v76, v77, v78, v79, v80, v81, v82, v83, v84, v85, v86, v87, v88, v89, v90, v91, v92, v93, v94, v95, v96, v97, v98, v99, v100, v101, v102, v103, v104, v105, v106, v107, v108, v109, v110, v111, v112, v113, v114, v115, v116, v117, v118, v119, v120, v121, v122, v123, v124, v125, v126, v127, v128, v129, v130, v131, v132, v133, v134, v135, v136, v137, v138, v139, v140, v141, v142, v143, v144, v145, v146, v147, v148, v149, v150, v151, v152, v153, v154, v155, v156, v157, v158, v159, v160, v161, v162, v163, v164, v165, v166, v167, v168, v169, v170, v171, v172, v173, v174, v175, v176, v177, v178, v179, v180, v181, v182, v183, v184, v185, v186, v187, v188, v189, v190, v191, v192, v193, v194, v195, v196, v197, v198, v199, v200, v201, v202, v203, v204, v205, v206, v207, v208, v209, v210, v211, v212, v213, v214, v215, v216, v217, v218, v219, v220, v221, v222, v223, v224, v225, v226, v227, v228, v229, v230, v231, v232, v233, v234, v235, v236, v237, v238, v239, v240, v241, v242, v243, v244, v245, v246, v247, v248, v249, v250], []⟩ wx := by
  have hnKeys : ∀ (W : World) (x : Nat), Sem.run Tryz.prog (nilAhead 297 85 (.pointer (some ⟨x, 0, none⟩)) "Keys") W = .ok (some false) W := fun W x => by kernel_rfl
  have hmKeys : ∀ (W : World) (x : Nat), (method 297 85 (.pointer (some ⟨x, 0, none⟩)) "Keys").run Tryz.prog W = .ok (115, .pointer (some ⟨x, 0, none⟩)) W := fun W x => by kernel_rfl
  have hnLen : ∀ (W : World) (x : Nat), Sem.run Tryz.prog (nilAhead 297 85 (.pointer (some ⟨x, 0, none⟩)) "Len") W = .ok (some false) W := fun W x => by kernel_rfl
  have hmLen : ∀ (W : World) (x : Nat), (method 297 85 (.pointer (some ⟨x, 0, none⟩)) "Len").run Tryz.prog W = .ok (116, .pointer (some ⟨x, 0, none⟩)) W := fun W x => by kernel_rfl
  have hnKey : ∀ (W : World) (x : Nat), Sem.run Tryz.prog (nilAhead 297 85 (.pointer (some ⟨x, 0, none⟩)) "Key") W = .ok (some false) W := fun W x => by kernel_rfl
  have hmKey : ∀ (W : World) (x : Nat), (method 297 85 (.pointer (some ⟨x, 0, none⟩)) "Key").run Tryz.prog W = .ok (114, .pointer (some ⟨x, 0, none⟩)) W := fun W x => by kernel_rfl
  obtain ⟨i0, hi, hz0, hz1, hz2⟩ := info_parts infoSeen
  have HI := Lib.hid (And.intro hi (And.intro hz0 (And.intro hz1 hz2)))
  have HC := Lib.hid (Keys_calls hset hQ)
  have hRw : R ≤ wx.heap.size := by have := hxa.lt; omega
  have hlS := hsub.len
  have HX := Lib.hid (And.intro hxa (And.intro hset (And.intro hKs (And.intro hki (And.intro hsub ho)))))
  have HQQ := Lib.hid hQQ
  clear hxa hset hQ hKs hki hsub ho hQQ hi hz0 hz1 hz2
  obtain ⟨K, hK⟩ : ∃ K, K = r.S.length := ⟨_, rfl⟩
  rw [← hK] at hlS
  have HK := Lib.hid hK
  clear hK
  unfold tlC
  conv => arg 2; whnf
  go_wp2_with (first
    | (go_at_call 115; (with_reducible refine Calls.mono HC.out ?_); rintro e w1 ⟨b, n, l, rfl, hn12, hl, hlt, hb⟩; obtain ⟨hll, htx⟩ := tl_txs hl hlt; have H1 := Lib.hid (And.intro hn12 (And.intro hll (And.intro htx (And.intro hlt hb)))); clear hn12 hl hlt hb hll htx)
    | (go_at_call 15; refine (Values_calls _ _ _ _).mono ?_; rintro e w2 ⟨rfl, hw2⟩; have hb2 := below_alloc' H1.out.2.2.2.2 (.cells #[.slice (some ⟨b, 0, none⟩) n n] 32); rw [← hw2] at hb2; have hs2 : w2.heap.size = w1.heap.size + 1 := (by rw [hw2, World.size_alloc]); have HS := Lib.hid (Sorted_calls w1.heap.size (.slice (some ⟨b, 0, none⟩) n n) l (by have h1 := H1.out.1; have h2 := H1.out.2.1; omega) w2 (by omega) (by rw [hw2, (Blk.new w1 32 #[.slice (some ⟨b, 0, none⟩) n n]).cell]; rfl) ((H1.out.2.2.1.below (show Below w1.heap.size w1 w2 from by rw [hw2]; exact below_alloc' (Below.refl _ _) _)).mono (by omega))); have H2 := Lib.hid hb2; clear hw2 hb2 hs2)
    | (go_at_call 14; (with_reducible refine Calls.mono HS.out ?_); rintro e w3 ⟨v, rfl, hown, hb3⟩; obtain ⟨nA, nc, hv⟩ := own_slice hown; subst hv; have hb3' := H2.out.trans (hb3.mono H2.out.size); have hX3 := HX.out.1.below hb3' HX.out.1.lt; have x5 : w3.cell? ⟨X, 5, none⟩ = some (.slice none 0 0) := (by rw [hX3.cell]; rfl); have x5f := hX3.frozen 5; have x3 : w3.cell? ⟨X, 3, none⟩ = some (.int .i64 0) := (by rw [hX3.cell]; rfl); have x3f := hX3.frozen 3; have hS3 := HX.out.2.1.below hb3'; have H3 := Lib.hid (And.intro hb3' (And.intro hX3 hS3)); clear hown hb3 hb3' hX3 hS3)
    | (go_at_call 116; obtain ⟨sv, sm, hSK, _⟩ := H3.out.2.2.setCell H3.out.2.1 (by unfold badSK; decide) (.slice nA l.length nc); (with_reducible refine Calls.mono (Len_calls hSK) ?_); rw [← HK.out]; rintro e w4 ⟨rfl, rfl⟩; clear hSK))
  have H0 := Lib.hid (show TA Qn B R X g p b1 Ks r nA l.length nc 0 wx ((w3.setCell ⟨X, 5, none⟩ (.slice nA l.length nc)).setCell ⟨X, 3, none⟩ (.int .i64 K)) none 0 0 from by
    have hf : Fr (fun T => T = 34) wx ((w3.setCell ⟨X, 5, none⟩ (.slice nA l.length nc)).setCell ⟨X, 3, none⟩ (.int .i64 K)) := ((Fr.of_below H3.out.1).trans (Fr.setCell (bad := fun T => T = 34) H3.out.2.1 rfl _)).trans (Fr.setCell (bad := fun T => T = 34) (H3.out.2.1.set_ 5 _) rfl _)
    refine ⟨?_, KL.nil _ _ _, HX.out.2.1.fr hf (by decide) (by decide), HX.out.2.2.1.fr hf (by decide) (by decide), HX.out.2.2.2.1.fr hf (by decide), ((H3.out.1.mono hRw).setCell (by show R ≤ X; exact hX) _).setCell (by show R ≤ X; exact hX) _, Nat.le_trans hRw hf.size⟩
    rw [← HK.out]
    exact (H3.out.2.1.set_ 5 _).set_ 3 _)
  go_loopg [23] K (fun q u wr => ∃ (i : Nat) (A : Option Addr) (n c : Nat), q + i = K ∧ u = .int .i64 (i : Nat) ∧ Hid (TA Qn B R X g p b1 Ks r nA l.length nc i wx wr A n c))
  case atStart => exact ⟨0, none, 0, 0, rfl, rfl, H0⟩
  case round =>
    obtain ⟨i, A, n7, c7, hq, rfl, HT⟩ := hrel
    clear H0 H3
    obtain ⟨sv, sm, hSK, hSM⟩ := HT.out.2.2.1
    have HL := Lib.hid (Len_calls hSK)
    rw [← HK.out] at HL
    by_cases hi : i < K
    · have hir : i < r.S.length := by rw [← HK.out]; exact hi
      obtain ⟨x, hx⟩ : ∃ x, x = r.S[i] := ⟨_, rfl⟩
      have hxi : r.S[i]? = some x := by rw [List.getElem?_eq_getElem hir, hx]
      have HKy := Lib.hid (Key_yes hSK i x hxi (by have := HX.out.2.2.2.2.1.len; omega))
      have HTD := Lib.hid HT.out.drew
      have HP := Lib.hid (place_calls HTD.out.2.2.2.1 x (fun y hy => by
        rcases List.mem_cons.1 hy with rfl | hy
        · exact HTD.out.2.2.2.2.1 _ (HX.out.2.2.2.2.1.2 _ (by rw [hx]; exact List.getElem_mem _))
        · exact HTD.out.2.2.2.2.1 _ hy) (by omega))
      obtain ⟨A', n', c', w7, hrun, h47, hf7, hT7⟩ := HTD.out.step hxi (by have := HX.out.2.2.2.2.1.len; omega) hX
      have HR := Lib.hid hrun
      have HT7 := Lib.hid hT7
      have c4 : wr.drew.cell? ⟨X, 4, none⟩ = some (.slice A n7 c7) := by rw [HTD.out.1.cell]; rfl
      have c4a : (wr.alloc (.cells #[.int .i64 (ix Ks x)] 3)).cell? ⟨X, 4, none⟩ = some (.slice A n7 c7) := by rw [(HT.out.1.alloc _).cell]; rfl
      have hiK : (i : Int) < (K : Int) := by omega
      clear hSK hSM hx hxi hrun hT7 hir
      go_wp2_with (first
        | (go_at_call 116; (with_reducible refine Calls.mono HL.out ?_); rintro e w4 ⟨rfl, rfl⟩)
        | (go_at_call 114; (with_reducible refine Calls.mono HKy.out ?_); rintro e w4 ⟨rfl, rfl⟩))
      refine wp_only ?_
      go_region_law (first
        | (refine step_append_run rfl (.tmp 238) (.tmp 242) 31 rfl _ _ (by simp [Act.eval, Act.put]) (by simp [Act.eval, Act.put]) HR.out ?_)
        | (rw [if_pos (by rfl)]; go_simp; go_at_call 12; (with_reducible refine Calls.mono HP.out ?_); rintro e w4 ⟨rfl, rfl⟩))
      all_goals
        refine only_n ?_
        go_wp2_with fail
        go_roundg (K - (i + 1))
        case measure => omega
        case rel => exact ⟨i + 1, A', n', c', by omega, by go_num, HT7⟩
    · obtain rfl : i = K := by omega
      rw [HK.out] at HT
      obtain ⟨rs, ho1, ho2, ho3⟩ := (HX.out.2.2.2.2.2.below HT.out.2.2.2.2.2.1).outs
      have x0 : wr.cell? ⟨X, 0, none⟩ = some (.bool r.ok) := by rw [HT.out.1.cell]; rfl
      have x1 : wr.cell? ⟨X, 1, none⟩ = some (.int .i64 r.idx) := by rw [HT.out.1.cell]; rfl
      have x2 : wr.cell? ⟨X, 2, none⟩ = some (.int .i64 r.fnd) := by rw [HT.out.1.cell]; rfl
      have x3 : wr.cell? ⟨X, 3, none⟩ = some (.int .i64 (r.S.length : Nat)) := by rw [HT.out.1.cell]; rfl
      have x4 : wr.cell? ⟨X, 4, none⟩ = some (.slice A n7 c7) := by rw [HT.out.1.cell]; rfl
      have x5 : wr.cell? ⟨X, 5, none⟩ = some (.slice nA l.length nc) := by rw [HT.out.1.cell]; rfl
      have HO := Lib.hid (And.intro ho1 (And.intro ho2 ho3))
      clear ho1 ho2 ho3 hSK hSM
      go_wp2_with (first
        | (go_at_call 116; (with_reducible refine Calls.mono HL.out ?_); rintro e w4 ⟨rfl, rfl⟩)
        | (at_builtin; refine wpList_append_own _ rfl _ _ 30 rfl B 34 i0 zSeen 6 80 Tryz.underlying30 HI.out.1 HI.out.2.1 HI.out.2.2.1 HI.out.2.2.2 rfl (by decide) _ rs.length (flat (·.1) rs) rfl (own_keep HO.out.1 (fun j cs hb => hb.alloc _)) ⟨wr.heap.size, 0, none⟩ 1 1 [.bool r.ok, .int .i64 r.idx, .int .i64 r.fnd, .int .i64 (r.S.length : Nat), .slice A n7 c7, .slice nA l.length nc] rfl rfl (fun k u hu => by have hb := Blk.new wr 34 #[.bool r.ok, .int .i64 r.idx, .int .i64 r.fnd, .int .i64 (r.S.length : Nat), .slice A n7 c7, .slice nA l.length nc]; rw [show (⟨wr.heap.size, 0, none⟩ : Addr).add k = ⟨wr.heap.size, k, none⟩ from by unfold Addr.add; by_cases hk0 : k = 0 <;> simp [hk0], hb.cell]; simpa using hu) (seen_one _ _ _ _ _ _ _ _ _ _) (by have := HO.out.2.1; have h2 : sns.length = rs.length := (by rw [this]; simp); unfold maxLen; omega) (by have := HO.out.2.1; have h2 : sns.length = rs.length := (by rw [this]; simp); omega) (by have := HT.out.2.2.2.2.2.2; rw [World.size_alloc]; omega) ?_; intro v2 w8 hown hg8 _; obtain ⟨OA2, Oc2, hv2⟩ := own_slice hown; subst hv2; have HF := Lib.hid (And.intro hown hg8); clear hown hg8))
      refine HQQ.out OA2 _ Oc2 w8 _ _ _ _ _ _ _ _ _ _ _ _ _ _ _ _ _ _ _ _ _ _ _ _ _ _ _ _ _ _ _ _ _ _ _ _ _ ?_ ?_ ?_
      · exact (HT.out.2.2.1.alloc _).fr (own_fr (own_keep HO.out.1 (fun j cs hb => hb.alloc _)) HF.out.2) (by decide) (by decide)
      · exact Outs.snoc (own_keep HO.out.1 (fun j cs hb => hb.alloc _)) HO.out.2.1 (fun r hr => (HO.out.2.2 r hr).keep (fun j cs hb => hb.alloc _)) HF.out.1 HF.out.2 ((HT.out.seen hBR).keep (fun j cs hb => hb.alloc _))
      · exact ((HT.out.2.2.2.2.2.1.mono hBR).alloc (Nat.le_trans hBR HT.out.2.2.2.2.2.2) _).trans (own_low (own_keep HO.out.1 (fun j cs hb => hb.alloc _)) HF.out.2 (by have := HT.out.2.2.2.2.2.2; rw [World.size_alloc]; omega))
end Go.Proofs.YtlbnemnadegapaaGreatDoor.Ky
