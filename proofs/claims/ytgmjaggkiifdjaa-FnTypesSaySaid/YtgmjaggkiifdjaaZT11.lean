/- Texts of this claim, one behind the other (merged by wip/prune.py of this repo, without what the proof does not use): GSort66c, GSort66, GSort, QA31, QA20, GSpecSortF, LSort7. -/
import Derived.Test.YtgmjaggkiifdjaaZT4
import Derived.Test.YtgmjaggkiifdjaaZT5
import Derived.Test.YtgmjaggkiifdjaaZT8
import Derived.Test.YtgmjaggkiifdjaaZT10
set_option linter.unusedVariables false
set_option linter.unusedSimpArgs false
namespace Go.Proofs.Ytgmjaggkiifdjaa.Given
open Go.RowKit Go.Proofs.YtgmjaggkiifdjaaW.PrintWords Go.Proofs.YtgmjaggkiifdjaaW.PrintLast Go.Proofs.YtgmjaggkiifdjaaW.PrintMore Go.Proofs.Ytgmjaggkiifdjaa.Base Go.Proofs.Ytgmjaggkiifdjaa.Gv Go.Proofs.Ytgmjaggkiifdjaa.QA Go.Proofs.Ytgmjaggkiifdjaa.Srt Go.Proofs.Ytgmjaggkiifdjaa.Fl
set_option maxHeartbeats 4000000 in
set_option maxRecDepth 100000 in
theorem cmp_lt (w : World) (p g n cap i m : Nat) (l : List S68) (x y : S68) (hl : l.length = n) (hi : i < n) (hm : m < n) (hn2 : n ≤ 1000000) (hr : ARow w p g n cap l) (hx : l.getD i z68 = x) (hy : l.getD m z68 = y) (hxq : 0 ≤ x.f1 ∧ x.f1 ≤ 1000) (hyq : 0 ≤ y.f1 ∧ y.f1 ≤ 1000)
    (hw : x.f1 < y.f1) (s0 s1 s4 s5 s7 s8 s9 s10 s11 s12 s13 s14 s15 s16 s17 s18 s19 s20 s21 s22 s23 s24 s25 s26 s27 s28 s29 s30 s31 s32 s33 s34 s35 s36 s37 s38 s39 s40 s41 s42 s43 s44 s45 s46 s47 s48 s49 s50 s51 s52 s53 s54 s55 s56 s57 s58 s59 s60 s61 s62 s63 s64 s65 s66 s67 s68 s69 s70 s71 s72 s73 s74 s75 s76 s77 s78 s79 s80 s81 s82 s83 s84 s85 s86 s87 s88 s89 s90 s91 s92 s93 s94 s95 s96 s97 s98 s99 s100 s101 s102 s103 s104 s105 s106 s107 s108 s109 s110 s111 s112 s113 s114 s115 s116 s117 s118 s119 s120 s121 s122 s123 s124 s125 s126 s127 s128 s129 s130 s131 s132 s133 s134 s135 s136 s137 s138 s139 s140 s141 s142 s143 s144 s145 s146 s147 s148 s149 s150 s151 s152 s153 s154 s155 s156 s157 s158 s159 s160 s161 s162 s163 s164 s165 s166 s167 s168 s169 s170 s171 s172 s173 s174 s175 s176 s177 s178 s179 s180 s181 s182 s183 s184 s185 s186 s187 s188 s189 s190 s191 s192 : Value) (Q : Exit → Act → World → Prop)
    (k : ∀ (nq : Nat) (v35 v36 v37 v38 v39 v40 v41 v42 v43 v44 v45 v46 v47 v48 v49 v50 v51 v52 v53 v54 v55 v56 v57 v58 v59 v60 v61 v62 v63 v64 v65 v66 v67 v68 v69 v70 v71 v72 v73 v74 v75 v76 v77 v78 v79 v80 v81 v82 v83 v84 v85 v86 v87 v88 v89 v90 v91 v92 v93 v94 v95 v96 v97 v98 v99 v100 v101 v102 v103 v104 v105 v106 v107 v108 v109 v110 v111 v112 v113 v114 v115 v116 v117 v118 v119 v120 v121 v122 v123 v124 v125 v126 v127 v128 v129 v130 v131 v132 v133 v134 v135 v136 v137 v138 v139 v140 v141 v142 v143 v144 v145 v146 v147 v148 v149 v150 v151 v152 v153 v154 v155 v156 v157 v158 v159 v160 v161 v162 v163 v164 v165 : Value), Q .normal ⟨List.toArray (s0 :: s1 :: (.slice (some ⟨g, 0, none⟩) n cap) :: (.int .i64 i) :: s4 :: s5 :: (.int .i64 m) :: s7 :: s8 :: s9 :: s10 :: s11 :: s12 :: s13 :: s14 :: s15 :: s16 :: s17 :: s18 :: s19 :: s20 :: s21 :: s22 :: s23 :: s24 :: s25 :: s26 :: s27 :: s28 :: s29 :: s30 :: s31 :: s32 :: s33 :: s34 :: v35 :: v36 :: v37 :: v38 :: v39 :: v40 :: v41 :: v42 :: v43 :: v44 :: v45 :: v46 :: v47 :: v48 :: v49 :: v50 :: v51 :: v52 :: v53 :: v54 :: v55 :: v56 :: v57 :: v58 :: v59 :: v60 :: v61 :: v62 :: v63 :: v64 :: v65 :: v66 :: v67 :: v68 :: v69 :: v70 :: v71 :: v72 :: v73 :: v74 :: v75 :: v76 :: v77 :: v78 :: v79 :: v80 :: v81 :: v82 :: v83 :: v84 :: v85 :: v86 :: v87 :: v88 :: v89 :: v90 :: v91 :: v92 :: v93 :: v94 :: v95 :: v96 :: v97 :: v98 :: v99 :: v100 :: v101 :: v102 :: v103 :: v104 :: v105 :: v106 :: v107 :: v108 :: v109 :: v110 :: v111 :: v112 :: v113 :: v114 :: v115 :: v116 :: v117 :: v118 :: v119 :: v120 :: v121 :: v122 :: v123 :: v124 :: v125 :: v126 :: v127 :: v128 :: v129 :: v130 :: v131 :: v132 :: v133 :: v134 :: v135 :: v136 :: v137 :: v138 :: v139 :: v140 :: v141 :: v142 :: v143 :: v144 :: v145 :: v146 :: v147 :: v148 :: v149 :: v150 :: v151 :: v152 :: v153 :: v154 :: v155 :: v156 :: v157 :: v158 :: v159 :: v160 :: v161 :: v162 :: v163 :: v164 :: v165 :: (.bool true) :: s167 :: s168 :: s169 :: s170 :: s171 :: s172 :: s173 :: s174 :: s175 :: s176 :: s177 :: s178 :: s179 :: s180 :: s181 :: s182 :: s183 :: s184 :: s185 :: s186 :: s187 :: s188 :: s189 :: s190 :: s191 :: s192 :: []), []⟩ (w.drewN nq)) :
    (Code.region 8 (opsOf Try.f47 8) true).wp Try.prog Q ⟨List.toArray (s0 :: s1 :: (.slice (some ⟨g, 0, none⟩) n cap) :: (.int .i64 i) :: s4 :: s5 :: (.int .i64 m) :: s7 :: s8 :: s9 :: s10 :: s11 :: s12 :: s13 :: s14 :: s15 :: s16 :: s17 :: s18 :: s19 :: s20 :: s21 :: s22 :: s23 :: s24 :: s25 :: s26 :: s27 :: s28 :: s29 :: s30 :: s31 :: s32 :: s33 :: s34 :: s35 :: s36 :: s37 :: s38 :: s39 :: s40 :: s41 :: s42 :: s43 :: s44 :: s45 :: s46 :: s47 :: s48 :: s49 :: s50 :: s51 :: s52 :: s53 :: s54 :: s55 :: s56 :: s57 :: s58 :: s59 :: s60 :: s61 :: s62 :: s63 :: s64 :: s65 :: s66 :: s67 :: s68 :: s69 :: s70 :: s71 :: s72 :: s73 :: s74 :: s75 :: s76 :: s77 :: s78 :: s79 :: s80 :: s81 :: s82 :: s83 :: s84 :: s85 :: s86 :: s87 :: s88 :: s89 :: s90 :: s91 :: s92 :: s93 :: s94 :: s95 :: s96 :: s97 :: s98 :: s99 :: s100 :: s101 :: s102 :: s103 :: s104 :: s105 :: s106 :: s107 :: s108 :: s109 :: s110 :: s111 :: s112 :: s113 :: s114 :: s115 :: s116 :: s117 :: s118 :: s119 :: s120 :: s121 :: s122 :: s123 :: s124 :: s125 :: s126 :: s127 :: s128 :: s129 :: s130 :: s131 :: s132 :: s133 :: s134 :: s135 :: s136 :: s137 :: s138 :: s139 :: s140 :: s141 :: s142 :: s143 :: s144 :: s145 :: s146 :: s147 :: s148 :: s149 :: s150 :: s151 :: s152 :: s153 :: s154 :: s155 :: s156 :: s157 :: s158 :: s159 :: s160 :: s161 :: s162 :: s163 :: s164 :: s165 :: s166 :: s167 :: s168 :: s169 :: s170 :: s171 :: s172 :: s173 :: s174 :: s175 :: s176 :: s177 :: s178 :: s179 :: s180 :: s181 :: s182 :: s183 :: s184 :: s185 :: s186 :: s187 :: s188 :: s189 :: s190 :: s191 :: s192 :: []), []⟩ w := by
  have hyc := hr.cells hl m hm
  have hxc := hr.cells hl i hi
  rw [hx] at hxc
  rw [hy] at hyc
  obtain ⟨x0, x1, x2, x3, x4⟩ := hxc
  obtain ⟨y0, y1, y2, y3, y4⟩ := hyc
  have o1 := fl_lt x.f1 y.f1 hxq.1 hxq.2 hyq.1 hyq.2
  have o2 := fl_eq x.f1 y.f1 hxq.1 hxq.2 hyq.1 hyq.2
  have d1 : (FloatKind.f64.format.order (fl x.f1) (fl y.f1) == some .lt) = true := by rw [o1]; exact decide_eq_true hw
  have e1 : (i : Int) < (n : Int) := by omega
  have e2 : (m : Int) < (n : Int) := by omega
  have K := Lib.hid k
  clear o1 o2 hr hx hy hxq hyq hw hi hm hl k
  have e8 : (opsOf Try.f47 8) = (opsOf Try.f47 8) := rfl
  conv at e8 => rhs; unfold opsOf; whnf
  dsimp only [List.append] at e8
  have hB := Lex.lex8
  rw [e8] at hB ⊢
  clear e8
  refine wp_region_quiet_lit (by kernel_rfl) hB ?_
  clear hB
  repeat (go_big_quiet_step (fail))
  refine wpQuiet_nil ?_
  rintro w1 ⟨nq, rfl⟩
  apply K.out
set_option maxHeartbeats 4000000 in
set_option maxRecDepth 100000 in
theorem cmp_gt (w : World) (p g n cap i m : Nat) (l : List S68) (x y : S68) (hl : l.length = n) (hi : i < n) (hm : m < n) (hn2 : n ≤ 1000000) (hr : ARow w p g n cap l) (hx : l.getD i z68 = x) (hy : l.getD m z68 = y) (hxq : 0 ≤ x.f1 ∧ x.f1 ≤ 1000) (hyq : 0 ≤ y.f1 ∧ y.f1 ≤ 1000)
    (hw : y.f1 < x.f1) (s0 s1 s4 s5 s7 s8 s9 s10 s11 s12 s13 s14 s15 s16 s17 s18 s19 s20 s21 s22 s23 s24 s25 s26 s27 s28 s29 s30 s31 s32 s33 s34 s35 s36 s37 s38 s39 s40 s41 s42 s43 s44 s45 s46 s47 s48 s49 s50 s51 s52 s53 s54 s55 s56 s57 s58 s59 s60 s61 s62 s63 s64 s65 s66 s67 s68 s69 s70 s71 s72 s73 s74 s75 s76 s77 s78 s79 s80 s81 s82 s83 s84 s85 s86 s87 s88 s89 s90 s91 s92 s93 s94 s95 s96 s97 s98 s99 s100 s101 s102 s103 s104 s105 s106 s107 s108 s109 s110 s111 s112 s113 s114 s115 s116 s117 s118 s119 s120 s121 s122 s123 s124 s125 s126 s127 s128 s129 s130 s131 s132 s133 s134 s135 s136 s137 s138 s139 s140 s141 s142 s143 s144 s145 s146 s147 s148 s149 s150 s151 s152 s153 s154 s155 s156 s157 s158 s159 s160 s161 s162 s163 s164 s165 s166 s167 s168 s169 s170 s171 s172 s173 s174 s175 s176 s177 s178 s179 s180 s181 s182 s183 s184 s185 s186 s187 s188 s189 s190 s191 s192 : Value) (Q : Exit → Act → World → Prop)
    (k : ∀ (nq : Nat) (v35 v36 v37 v38 v39 v40 v41 v42 v43 v44 v45 v46 v47 v48 v49 v50 v51 v52 v53 v54 v55 v56 v57 v58 v59 v60 v61 v62 v63 v64 v65 v66 v67 v68 v69 v70 v71 v72 v73 v74 v75 v76 v77 v78 v79 v80 v81 v82 v83 v84 v85 v86 v87 v88 v89 v90 v91 v92 v93 v94 v95 v96 v97 v98 v99 v100 v101 v102 v103 v104 v105 v106 v107 v108 v109 v110 v111 v112 v113 v114 v115 v116 v117 v118 v119 v120 v121 v122 v123 v124 v125 v126 v127 v128 v129 v130 v131 v132 v133 v134 v135 v136 v137 v138 v139 v140 v141 v142 v143 v144 v145 v146 v147 v148 v149 v150 v151 v152 v153 v154 v155 v156 v157 v158 v159 v160 v161 v162 v163 v164 v165 : Value), Q .normal ⟨List.toArray (s0 :: s1 :: (.slice (some ⟨g, 0, none⟩) n cap) :: (.int .i64 i) :: s4 :: s5 :: (.int .i64 m) :: s7 :: s8 :: s9 :: s10 :: s11 :: s12 :: s13 :: s14 :: s15 :: s16 :: s17 :: s18 :: s19 :: s20 :: s21 :: s22 :: s23 :: s24 :: s25 :: s26 :: s27 :: s28 :: s29 :: s30 :: s31 :: s32 :: s33 :: s34 :: v35 :: v36 :: v37 :: v38 :: v39 :: v40 :: v41 :: v42 :: v43 :: v44 :: v45 :: v46 :: v47 :: v48 :: v49 :: v50 :: v51 :: v52 :: v53 :: v54 :: v55 :: v56 :: v57 :: v58 :: v59 :: v60 :: v61 :: v62 :: v63 :: v64 :: v65 :: v66 :: v67 :: v68 :: v69 :: v70 :: v71 :: v72 :: v73 :: v74 :: v75 :: v76 :: v77 :: v78 :: v79 :: v80 :: v81 :: v82 :: v83 :: v84 :: v85 :: v86 :: v87 :: v88 :: v89 :: v90 :: v91 :: v92 :: v93 :: v94 :: v95 :: v96 :: v97 :: v98 :: v99 :: v100 :: v101 :: v102 :: v103 :: v104 :: v105 :: v106 :: v107 :: v108 :: v109 :: v110 :: v111 :: v112 :: v113 :: v114 :: v115 :: v116 :: v117 :: v118 :: v119 :: v120 :: v121 :: v122 :: v123 :: v124 :: v125 :: v126 :: v127 :: v128 :: v129 :: v130 :: v131 :: v132 :: v133 :: v134 :: v135 :: v136 :: v137 :: v138 :: v139 :: v140 :: v141 :: v142 :: v143 :: v144 :: v145 :: v146 :: v147 :: v148 :: v149 :: v150 :: v151 :: v152 :: v153 :: v154 :: v155 :: v156 :: v157 :: v158 :: v159 :: v160 :: v161 :: v162 :: v163 :: v164 :: v165 :: (.bool false) :: s167 :: s168 :: s169 :: s170 :: s171 :: s172 :: s173 :: s174 :: s175 :: s176 :: s177 :: s178 :: s179 :: s180 :: s181 :: s182 :: s183 :: s184 :: s185 :: s186 :: s187 :: s188 :: s189 :: s190 :: s191 :: s192 :: []), []⟩ (w.drewN nq)) :
    (Code.region 8 (opsOf Try.f47 8) true).wp Try.prog Q ⟨List.toArray (s0 :: s1 :: (.slice (some ⟨g, 0, none⟩) n cap) :: (.int .i64 i) :: s4 :: s5 :: (.int .i64 m) :: s7 :: s8 :: s9 :: s10 :: s11 :: s12 :: s13 :: s14 :: s15 :: s16 :: s17 :: s18 :: s19 :: s20 :: s21 :: s22 :: s23 :: s24 :: s25 :: s26 :: s27 :: s28 :: s29 :: s30 :: s31 :: s32 :: s33 :: s34 :: s35 :: s36 :: s37 :: s38 :: s39 :: s40 :: s41 :: s42 :: s43 :: s44 :: s45 :: s46 :: s47 :: s48 :: s49 :: s50 :: s51 :: s52 :: s53 :: s54 :: s55 :: s56 :: s57 :: s58 :: s59 :: s60 :: s61 :: s62 :: s63 :: s64 :: s65 :: s66 :: s67 :: s68 :: s69 :: s70 :: s71 :: s72 :: s73 :: s74 :: s75 :: s76 :: s77 :: s78 :: s79 :: s80 :: s81 :: s82 :: s83 :: s84 :: s85 :: s86 :: s87 :: s88 :: s89 :: s90 :: s91 :: s92 :: s93 :: s94 :: s95 :: s96 :: s97 :: s98 :: s99 :: s100 :: s101 :: s102 :: s103 :: s104 :: s105 :: s106 :: s107 :: s108 :: s109 :: s110 :: s111 :: s112 :: s113 :: s114 :: s115 :: s116 :: s117 :: s118 :: s119 :: s120 :: s121 :: s122 :: s123 :: s124 :: s125 :: s126 :: s127 :: s128 :: s129 :: s130 :: s131 :: s132 :: s133 :: s134 :: s135 :: s136 :: s137 :: s138 :: s139 :: s140 :: s141 :: s142 :: s143 :: s144 :: s145 :: s146 :: s147 :: s148 :: s149 :: s150 :: s151 :: s152 :: s153 :: s154 :: s155 :: s156 :: s157 :: s158 :: s159 :: s160 :: s161 :: s162 :: s163 :: s164 :: s165 :: s166 :: s167 :: s168 :: s169 :: s170 :: s171 :: s172 :: s173 :: s174 :: s175 :: s176 :: s177 :: s178 :: s179 :: s180 :: s181 :: s182 :: s183 :: s184 :: s185 :: s186 :: s187 :: s188 :: s189 :: s190 :: s191 :: s192 :: []), []⟩ w := by
  have hyc := hr.cells hl m hm
  have hxc := hr.cells hl i hi
  rw [hx] at hxc
  rw [hy] at hyc
  obtain ⟨x0, x1, x2, x3, x4⟩ := hxc
  obtain ⟨y0, y1, y2, y3, y4⟩ := hyc
  have o1 := fl_lt x.f1 y.f1 hxq.1 hxq.2 hyq.1 hyq.2
  have o2 := fl_eq x.f1 y.f1 hxq.1 hxq.2 hyq.1 hyq.2
  have d1 : (FloatKind.f64.format.order (fl x.f1) (fl y.f1) == some .lt) = false := by rw [o1]; exact decide_eq_false (by omega)
  have d2 : (FloatKind.f64.format.order (fl x.f1) (fl y.f1) == some .eq) = false := by rw [o2]; exact decide_eq_false (by omega)
  have e1 : (i : Int) < (n : Int) := by omega
  have e2 : (m : Int) < (n : Int) := by omega
  have K := Lib.hid k
  clear o1 o2 hr hx hy hxq hyq hw hi hm hl k
  have e8 : (opsOf Try.f47 8) = (opsOf Try.f47 8) := rfl
  conv at e8 => rhs; unfold opsOf; whnf
  dsimp only [List.append] at e8
  have hB := Lex.lex8
  rw [e8] at hB ⊢
  clear e8
  refine wp_region_quiet_lit (by kernel_rfl) hB ?_
  clear hB
  repeat (go_big_quiet_step (fail))
  refine wpQuiet_nil ?_
  rintro w1 ⟨nq, rfl⟩
  apply K.out
set_option maxHeartbeats 4000000 in
set_option maxRecDepth 100000 in
theorem cmp_slt (w : World) (p g n cap i m : Nat) (l : List S68) (x y : S68) (hl : l.length = n) (hi : i < n) (hm : m < n) (hn2 : n ≤ 1000000) (hr : ARow w p g n cap l) (hx : l.getD i z68 = x) (hy : l.getD m z68 = y) (hxq : 0 ≤ x.f1 ∧ x.f1 ≤ 1000) (hyq : 0 ≤ y.f1 ∧ y.f1 ≤ 1000)
    (hw : x.f1 = y.f1 ∧ x.f2 < y.f2) (s0 s1 s4 s5 s7 s8 s9 s10 s11 s12 s13 s14 s15 s16 s17 s18 s19 s20 s21 s22 s23 s24 s25 s26 s27 s28 s29 s30 s31 s32 s33 s34 s35 s36 s37 s38 s39 s40 s41 s42 s43 s44 s45 s46 s47 s48 s49 s50 s51 s52 s53 s54 s55 s56 s57 s58 s59 s60 s61 s62 s63 s64 s65 s66 s67 s68 s69 s70 s71 s72 s73 s74 s75 s76 s77 s78 s79 s80 s81 s82 s83 s84 s85 s86 s87 s88 s89 s90 s91 s92 s93 s94 s95 s96 s97 s98 s99 s100 s101 s102 s103 s104 s105 s106 s107 s108 s109 s110 s111 s112 s113 s114 s115 s116 s117 s118 s119 s120 s121 s122 s123 s124 s125 s126 s127 s128 s129 s130 s131 s132 s133 s134 s135 s136 s137 s138 s139 s140 s141 s142 s143 s144 s145 s146 s147 s148 s149 s150 s151 s152 s153 s154 s155 s156 s157 s158 s159 s160 s161 s162 s163 s164 s165 s166 s167 s168 s169 s170 s171 s172 s173 s174 s175 s176 s177 s178 s179 s180 s181 s182 s183 s184 s185 s186 s187 s188 s189 s190 s191 s192 : Value) (Q : Exit → Act → World → Prop)
    (k : ∀ (nq : Nat) (v35 v36 v37 v38 v39 v40 v41 v42 v43 v44 v45 v46 v47 v48 v49 v50 v51 v52 v53 v54 v55 v56 v57 v58 v59 v60 v61 v62 v63 v64 v65 v66 v67 v68 v69 v70 v71 v72 v73 v74 v75 v76 v77 v78 v79 v80 v81 v82 v83 v84 v85 v86 v87 v88 v89 v90 v91 v92 v93 v94 v95 v96 v97 v98 v99 v100 v101 v102 v103 v104 v105 v106 v107 v108 v109 v110 v111 v112 v113 v114 v115 v116 v117 v118 v119 v120 v121 v122 v123 v124 v125 v126 v127 v128 v129 v130 v131 v132 v133 v134 v135 v136 v137 v138 v139 v140 v141 v142 v143 v144 v145 v146 v147 v148 v149 v150 v151 v152 v153 v154 v155 v156 v157 v158 v159 v160 v161 v162 v163 v164 v165 : Value), Q .normal ⟨List.toArray (s0 :: s1 :: (.slice (some ⟨g, 0, none⟩) n cap) :: (.int .i64 i) :: s4 :: s5 :: (.int .i64 m) :: s7 :: s8 :: s9 :: s10 :: s11 :: s12 :: s13 :: s14 :: s15 :: s16 :: s17 :: s18 :: s19 :: s20 :: s21 :: s22 :: s23 :: s24 :: s25 :: s26 :: s27 :: s28 :: s29 :: s30 :: s31 :: s32 :: s33 :: s34 :: v35 :: v36 :: v37 :: v38 :: v39 :: v40 :: v41 :: v42 :: v43 :: v44 :: v45 :: v46 :: v47 :: v48 :: v49 :: v50 :: v51 :: v52 :: v53 :: v54 :: v55 :: v56 :: v57 :: v58 :: v59 :: v60 :: v61 :: v62 :: v63 :: v64 :: v65 :: v66 :: v67 :: v68 :: v69 :: v70 :: v71 :: v72 :: v73 :: v74 :: v75 :: v76 :: v77 :: v78 :: v79 :: v80 :: v81 :: v82 :: v83 :: v84 :: v85 :: v86 :: v87 :: v88 :: v89 :: v90 :: v91 :: v92 :: v93 :: v94 :: v95 :: v96 :: v97 :: v98 :: v99 :: v100 :: v101 :: v102 :: v103 :: v104 :: v105 :: v106 :: v107 :: v108 :: v109 :: v110 :: v111 :: v112 :: v113 :: v114 :: v115 :: v116 :: v117 :: v118 :: v119 :: v120 :: v121 :: v122 :: v123 :: v124 :: v125 :: v126 :: v127 :: v128 :: v129 :: v130 :: v131 :: v132 :: v133 :: v134 :: v135 :: v136 :: v137 :: v138 :: v139 :: v140 :: v141 :: v142 :: v143 :: v144 :: v145 :: v146 :: v147 :: v148 :: v149 :: v150 :: v151 :: v152 :: v153 :: v154 :: v155 :: v156 :: v157 :: v158 :: v159 :: v160 :: v161 :: v162 :: v163 :: v164 :: v165 :: (.bool true) :: s167 :: s168 :: s169 :: s170 :: s171 :: s172 :: s173 :: s174 :: s175 :: s176 :: s177 :: s178 :: s179 :: s180 :: s181 :: s182 :: s183 :: s184 :: s185 :: s186 :: s187 :: s188 :: s189 :: s190 :: s191 :: s192 :: []), []⟩ (w.drewN nq)) :
    (Code.region 8 (opsOf Try.f47 8) true).wp Try.prog Q ⟨List.toArray (s0 :: s1 :: (.slice (some ⟨g, 0, none⟩) n cap) :: (.int .i64 i) :: s4 :: s5 :: (.int .i64 m) :: s7 :: s8 :: s9 :: s10 :: s11 :: s12 :: s13 :: s14 :: s15 :: s16 :: s17 :: s18 :: s19 :: s20 :: s21 :: s22 :: s23 :: s24 :: s25 :: s26 :: s27 :: s28 :: s29 :: s30 :: s31 :: s32 :: s33 :: s34 :: s35 :: s36 :: s37 :: s38 :: s39 :: s40 :: s41 :: s42 :: s43 :: s44 :: s45 :: s46 :: s47 :: s48 :: s49 :: s50 :: s51 :: s52 :: s53 :: s54 :: s55 :: s56 :: s57 :: s58 :: s59 :: s60 :: s61 :: s62 :: s63 :: s64 :: s65 :: s66 :: s67 :: s68 :: s69 :: s70 :: s71 :: s72 :: s73 :: s74 :: s75 :: s76 :: s77 :: s78 :: s79 :: s80 :: s81 :: s82 :: s83 :: s84 :: s85 :: s86 :: s87 :: s88 :: s89 :: s90 :: s91 :: s92 :: s93 :: s94 :: s95 :: s96 :: s97 :: s98 :: s99 :: s100 :: s101 :: s102 :: s103 :: s104 :: s105 :: s106 :: s107 :: s108 :: s109 :: s110 :: s111 :: s112 :: s113 :: s114 :: s115 :: s116 :: s117 :: s118 :: s119 :: s120 :: s121 :: s122 :: s123 :: s124 :: s125 :: s126 :: s127 :: s128 :: s129 :: s130 :: s131 :: s132 :: s133 :: s134 :: s135 :: s136 :: s137 :: s138 :: s139 :: s140 :: s141 :: s142 :: s143 :: s144 :: s145 :: s146 :: s147 :: s148 :: s149 :: s150 :: s151 :: s152 :: s153 :: s154 :: s155 :: s156 :: s157 :: s158 :: s159 :: s160 :: s161 :: s162 :: s163 :: s164 :: s165 :: s166 :: s167 :: s168 :: s169 :: s170 :: s171 :: s172 :: s173 :: s174 :: s175 :: s176 :: s177 :: s178 :: s179 :: s180 :: s181 :: s182 :: s183 :: s184 :: s185 :: s186 :: s187 :: s188 :: s189 :: s190 :: s191 :: s192 :: []), []⟩ w := by
  have hyc := hr.cells hl m hm
  have hxc := hr.cells hl i hi
  rw [hx] at hxc
  rw [hy] at hyc
  obtain ⟨x0, x1, x2, x3, x4⟩ := hxc
  obtain ⟨y0, y1, y2, y3, y4⟩ := hyc
  have o1 := fl_lt x.f1 y.f1 hxq.1 hxq.2 hyq.1 hyq.2
  have o2 := fl_eq x.f1 y.f1 hxq.1 hxq.2 hyq.1 hyq.2
  have d1 : (FloatKind.f64.format.order (fl x.f1) (fl y.f1) == some .lt) = false := by rw [o1]; exact decide_eq_false (by omega)
  have d2 : (FloatKind.f64.format.order (fl x.f1) (fl y.f1) == some .eq) = true := by rw [o2]; exact decide_eq_true hw.1
  have d3 : decide (x.f2 < y.f2) = true := decide_eq_true (by omega)
  have e1 : (i : Int) < (n : Int) := by omega
  have e2 : (m : Int) < (n : Int) := by omega
  have K := Lib.hid k
  clear o1 o2 hr hx hy hxq hyq hw hi hm hl k
  have e8 : (opsOf Try.f47 8) = (opsOf Try.f47 8) := rfl
  conv at e8 => rhs; unfold opsOf; whnf
  dsimp only [List.append] at e8
  have hB := Lex.lex8
  rw [e8] at hB ⊢
  clear e8
  refine wp_region_quiet_lit (by kernel_rfl) hB ?_
  clear hB
  repeat (go_big_quiet_step (fail))
  refine wpQuiet_nil ?_
  rintro w1 ⟨nq, rfl⟩
  apply K.out
set_option maxHeartbeats 4000000 in
set_option maxRecDepth 100000 in
theorem cmp_sgt (w : World) (p g n cap i m : Nat) (l : List S68) (x y : S68) (hl : l.length = n) (hi : i < n) (hm : m < n) (hn2 : n ≤ 1000000) (hr : ARow w p g n cap l) (hx : l.getD i z68 = x) (hy : l.getD m z68 = y) (hxq : 0 ≤ x.f1 ∧ x.f1 ≤ 1000) (hyq : 0 ≤ y.f1 ∧ y.f1 ≤ 1000)
    (hw : x.f1 = y.f1 ∧ y.f2 < x.f2) (s0 s1 s4 s5 s7 s8 s9 s10 s11 s12 s13 s14 s15 s16 s17 s18 s19 s20 s21 s22 s23 s24 s25 s26 s27 s28 s29 s30 s31 s32 s33 s34 s35 s36 s37 s38 s39 s40 s41 s42 s43 s44 s45 s46 s47 s48 s49 s50 s51 s52 s53 s54 s55 s56 s57 s58 s59 s60 s61 s62 s63 s64 s65 s66 s67 s68 s69 s70 s71 s72 s73 s74 s75 s76 s77 s78 s79 s80 s81 s82 s83 s84 s85 s86 s87 s88 s89 s90 s91 s92 s93 s94 s95 s96 s97 s98 s99 s100 s101 s102 s103 s104 s105 s106 s107 s108 s109 s110 s111 s112 s113 s114 s115 s116 s117 s118 s119 s120 s121 s122 s123 s124 s125 s126 s127 s128 s129 s130 s131 s132 s133 s134 s135 s136 s137 s138 s139 s140 s141 s142 s143 s144 s145 s146 s147 s148 s149 s150 s151 s152 s153 s154 s155 s156 s157 s158 s159 s160 s161 s162 s163 s164 s165 s166 s167 s168 s169 s170 s171 s172 s173 s174 s175 s176 s177 s178 s179 s180 s181 s182 s183 s184 s185 s186 s187 s188 s189 s190 s191 s192 : Value) (Q : Exit → Act → World → Prop)
    (k : ∀ (nq : Nat) (v35 v36 v37 v38 v39 v40 v41 v42 v43 v44 v45 v46 v47 v48 v49 v50 v51 v52 v53 v54 v55 v56 v57 v58 v59 v60 v61 v62 v63 v64 v65 v66 v67 v68 v69 v70 v71 v72 v73 v74 v75 v76 v77 v78 v79 v80 v81 v82 v83 v84 v85 v86 v87 v88 v89 v90 v91 v92 v93 v94 v95 v96 v97 v98 v99 v100 v101 v102 v103 v104 v105 v106 v107 v108 v109 v110 v111 v112 v113 v114 v115 v116 v117 v118 v119 v120 v121 v122 v123 v124 v125 v126 v127 v128 v129 v130 v131 v132 v133 v134 v135 v136 v137 v138 v139 v140 v141 v142 v143 v144 v145 v146 v147 v148 v149 v150 v151 v152 v153 v154 v155 v156 v157 v158 v159 v160 v161 v162 v163 v164 v165 : Value), Q .normal ⟨List.toArray (s0 :: s1 :: (.slice (some ⟨g, 0, none⟩) n cap) :: (.int .i64 i) :: s4 :: s5 :: (.int .i64 m) :: s7 :: s8 :: s9 :: s10 :: s11 :: s12 :: s13 :: s14 :: s15 :: s16 :: s17 :: s18 :: s19 :: s20 :: s21 :: s22 :: s23 :: s24 :: s25 :: s26 :: s27 :: s28 :: s29 :: s30 :: s31 :: s32 :: s33 :: s34 :: v35 :: v36 :: v37 :: v38 :: v39 :: v40 :: v41 :: v42 :: v43 :: v44 :: v45 :: v46 :: v47 :: v48 :: v49 :: v50 :: v51 :: v52 :: v53 :: v54 :: v55 :: v56 :: v57 :: v58 :: v59 :: v60 :: v61 :: v62 :: v63 :: v64 :: v65 :: v66 :: v67 :: v68 :: v69 :: v70 :: v71 :: v72 :: v73 :: v74 :: v75 :: v76 :: v77 :: v78 :: v79 :: v80 :: v81 :: v82 :: v83 :: v84 :: v85 :: v86 :: v87 :: v88 :: v89 :: v90 :: v91 :: v92 :: v93 :: v94 :: v95 :: v96 :: v97 :: v98 :: v99 :: v100 :: v101 :: v102 :: v103 :: v104 :: v105 :: v106 :: v107 :: v108 :: v109 :: v110 :: v111 :: v112 :: v113 :: v114 :: v115 :: v116 :: v117 :: v118 :: v119 :: v120 :: v121 :: v122 :: v123 :: v124 :: v125 :: v126 :: v127 :: v128 :: v129 :: v130 :: v131 :: v132 :: v133 :: v134 :: v135 :: v136 :: v137 :: v138 :: v139 :: v140 :: v141 :: v142 :: v143 :: v144 :: v145 :: v146 :: v147 :: v148 :: v149 :: v150 :: v151 :: v152 :: v153 :: v154 :: v155 :: v156 :: v157 :: v158 :: v159 :: v160 :: v161 :: v162 :: v163 :: v164 :: v165 :: (.bool false) :: s167 :: s168 :: s169 :: s170 :: s171 :: s172 :: s173 :: s174 :: s175 :: s176 :: s177 :: s178 :: s179 :: s180 :: s181 :: s182 :: s183 :: s184 :: s185 :: s186 :: s187 :: s188 :: s189 :: s190 :: s191 :: s192 :: []), []⟩ (w.drewN nq)) :
    (Code.region 8 (opsOf Try.f47 8) true).wp Try.prog Q ⟨List.toArray (s0 :: s1 :: (.slice (some ⟨g, 0, none⟩) n cap) :: (.int .i64 i) :: s4 :: s5 :: (.int .i64 m) :: s7 :: s8 :: s9 :: s10 :: s11 :: s12 :: s13 :: s14 :: s15 :: s16 :: s17 :: s18 :: s19 :: s20 :: s21 :: s22 :: s23 :: s24 :: s25 :: s26 :: s27 :: s28 :: s29 :: s30 :: s31 :: s32 :: s33 :: s34 :: s35 :: s36 :: s37 :: s38 :: s39 :: s40 :: s41 :: s42 :: s43 :: s44 :: s45 :: s46 :: s47 :: s48 :: s49 :: s50 :: s51 :: s52 :: s53 :: s54 :: s55 :: s56 :: s57 :: s58 :: s59 :: s60 :: s61 :: s62 :: s63 :: s64 :: s65 :: s66 :: s67 :: s68 :: s69 :: s70 :: s71 :: s72 :: s73 :: s74 :: s75 :: s76 :: s77 :: s78 :: s79 :: s80 :: s81 :: s82 :: s83 :: s84 :: s85 :: s86 :: s87 :: s88 :: s89 :: s90 :: s91 :: s92 :: s93 :: s94 :: s95 :: s96 :: s97 :: s98 :: s99 :: s100 :: s101 :: s102 :: s103 :: s104 :: s105 :: s106 :: s107 :: s108 :: s109 :: s110 :: s111 :: s112 :: s113 :: s114 :: s115 :: s116 :: s117 :: s118 :: s119 :: s120 :: s121 :: s122 :: s123 :: s124 :: s125 :: s126 :: s127 :: s128 :: s129 :: s130 :: s131 :: s132 :: s133 :: s134 :: s135 :: s136 :: s137 :: s138 :: s139 :: s140 :: s141 :: s142 :: s143 :: s144 :: s145 :: s146 :: s147 :: s148 :: s149 :: s150 :: s151 :: s152 :: s153 :: s154 :: s155 :: s156 :: s157 :: s158 :: s159 :: s160 :: s161 :: s162 :: s163 :: s164 :: s165 :: s166 :: s167 :: s168 :: s169 :: s170 :: s171 :: s172 :: s173 :: s174 :: s175 :: s176 :: s177 :: s178 :: s179 :: s180 :: s181 :: s182 :: s183 :: s184 :: s185 :: s186 :: s187 :: s188 :: s189 :: s190 :: s191 :: s192 :: []), []⟩ w := by
  have hyc := hr.cells hl m hm
  have hxc := hr.cells hl i hi
  rw [hx] at hxc
  rw [hy] at hyc
  obtain ⟨x0, x1, x2, x3, x4⟩ := hxc
  obtain ⟨y0, y1, y2, y3, y4⟩ := hyc
  have o1 := fl_lt x.f1 y.f1 hxq.1 hxq.2 hyq.1 hyq.2
  have o2 := fl_eq x.f1 y.f1 hxq.1 hxq.2 hyq.1 hyq.2
  have d1 : (FloatKind.f64.format.order (fl x.f1) (fl y.f1) == some .lt) = false := by rw [o1]; exact decide_eq_false (by omega)
  have d2 : (FloatKind.f64.format.order (fl x.f1) (fl y.f1) == some .eq) = true := by rw [o2]; exact decide_eq_true hw.1
  have d3 : decide (x.f2 < y.f2) = false := decide_eq_false (by omega)
  have d4 : (x.f2 == y.f2) = false := beq_eq_false_iff_ne.2 (by omega)
  have e1 : (i : Int) < (n : Int) := by omega
  have e2 : (m : Int) < (n : Int) := by omega
  have K := Lib.hid k
  clear o1 o2 hr hx hy hxq hyq hw hi hm hl k
  have e8 : (opsOf Try.f47 8) = (opsOf Try.f47 8) := rfl
  conv at e8 => rhs; unfold opsOf; whnf
  dsimp only [List.append] at e8
  have hB := Lex.lex8
  rw [e8] at hB ⊢
  clear e8
  refine wp_region_quiet_lit (by kernel_rfl) hB ?_
  clear hB
  repeat (go_big_quiet_step (fail))
  refine wpQuiet_nil ?_
  rintro w1 ⟨nq, rfl⟩
  apply K.out
set_option maxHeartbeats 4000000 in
set_option maxRecDepth 100000 in
theorem cmp_len (w : World) (p g n cap i m : Nat) (l : List S68) (x y : S68) (hl : l.length = n) (hi : i < n) (hm : m < n) (hn2 : n ≤ 1000000) (hr : ARow w p g n cap l) (hx : l.getD i z68 = x) (hy : l.getD m z68 = y) (hxq : 0 ≤ x.f1 ∧ x.f1 ≤ 1000) (hyq : 0 ≤ y.f1 ∧ y.f1 ≤ 1000)
    (hw : x.f1 = y.f1 ∧ x.f2 = y.f2 ∧ x.f4.size ≠ y.f4.size) (s0 s1 s4 s5 s7 s8 s9 s10 s11 s12 s13 s14 s15 s16 s17 s18 s19 s20 s21 s22 s23 s24 s25 s26 s27 s28 s29 s30 s31 s32 s33 s34 s35 s36 s37 s38 s39 s40 s41 s42 s43 s44 s45 s46 s47 s48 s49 s50 s51 s52 s53 s54 s55 s56 s57 s58 s59 s60 s61 s62 s63 s64 s65 s66 s67 s68 s69 s70 s71 s72 s73 s74 s75 s76 s77 s78 s79 s80 s81 s82 s83 s84 s85 s86 s87 s88 s89 s90 s91 s92 s93 s94 s95 s96 s97 s98 s99 s100 s101 s102 s103 s104 s105 s106 s107 s108 s109 s110 s111 s112 s113 s114 s115 s116 s117 s118 s119 s120 s121 s122 s123 s124 s125 s126 s127 s128 s129 s130 s131 s132 s133 s134 s135 s136 s137 s138 s139 s140 s141 s142 s143 s144 s145 s146 s147 s148 s149 s150 s151 s152 s153 s154 s155 s156 s157 s158 s159 s160 s161 s162 s163 s164 s165 s166 s167 s168 s169 s170 s171 s172 s173 s174 s175 s176 s177 s178 s179 s180 s181 s182 s183 s184 s185 s186 s187 s188 s189 s190 s191 s192 : Value) (Q : Exit → Act → World → Prop)
    (k : ∀ (nq : Nat) (v35 v36 v37 v38 v39 v40 v41 v42 v43 v44 v45 v46 v47 v48 v49 v50 v51 v52 v53 v54 v55 v56 v57 v58 v59 v60 v61 v62 v63 v64 v65 v66 v67 v68 v69 v70 v71 v72 v73 v74 v75 v76 v77 v78 v79 v80 v81 v82 v83 v84 v85 v86 v87 v88 v89 v90 v91 v92 v93 v94 v95 v96 v97 v98 v99 v100 v101 v102 v103 v104 v105 v106 v107 v108 v109 v110 v111 v112 v113 v114 v115 v116 v117 v118 v119 v120 v121 v122 v123 v124 v125 v126 v127 v128 v129 v130 v131 v132 v133 v134 v135 v136 v137 v138 v139 v140 v141 v142 v143 v144 v145 v146 v147 v148 v149 v150 v151 v152 v153 v154 v155 v156 v157 v158 v159 v160 v161 v162 v163 v164 v165 : Value), Q .normal ⟨List.toArray (s0 :: s1 :: (.slice (some ⟨g, 0, none⟩) n cap) :: (.int .i64 i) :: s4 :: s5 :: (.int .i64 m) :: s7 :: s8 :: s9 :: s10 :: s11 :: s12 :: s13 :: s14 :: s15 :: s16 :: s17 :: s18 :: s19 :: s20 :: s21 :: s22 :: s23 :: s24 :: s25 :: s26 :: s27 :: s28 :: s29 :: s30 :: s31 :: s32 :: s33 :: s34 :: v35 :: v36 :: v37 :: v38 :: v39 :: v40 :: v41 :: v42 :: v43 :: v44 :: v45 :: v46 :: v47 :: v48 :: v49 :: v50 :: v51 :: v52 :: v53 :: v54 :: v55 :: v56 :: v57 :: v58 :: v59 :: v60 :: v61 :: v62 :: v63 :: v64 :: v65 :: v66 :: v67 :: v68 :: v69 :: v70 :: v71 :: v72 :: v73 :: v74 :: v75 :: v76 :: v77 :: v78 :: v79 :: v80 :: v81 :: v82 :: v83 :: v84 :: v85 :: v86 :: v87 :: v88 :: v89 :: v90 :: v91 :: v92 :: v93 :: v94 :: v95 :: v96 :: v97 :: v98 :: v99 :: v100 :: v101 :: v102 :: v103 :: v104 :: v105 :: v106 :: v107 :: v108 :: v109 :: v110 :: v111 :: v112 :: v113 :: v114 :: v115 :: v116 :: v117 :: v118 :: v119 :: v120 :: v121 :: v122 :: v123 :: v124 :: v125 :: v126 :: v127 :: v128 :: v129 :: v130 :: v131 :: v132 :: v133 :: v134 :: v135 :: v136 :: v137 :: v138 :: v139 :: v140 :: v141 :: v142 :: v143 :: v144 :: v145 :: v146 :: v147 :: v148 :: v149 :: v150 :: v151 :: v152 :: v153 :: v154 :: v155 :: v156 :: v157 :: v158 :: v159 :: v160 :: v161 :: v162 :: v163 :: v164 :: v165 :: (.bool false) :: s167 :: s168 :: s169 :: s170 :: s171 :: s172 :: s173 :: s174 :: s175 :: s176 :: s177 :: s178 :: s179 :: s180 :: s181 :: s182 :: s183 :: s184 :: s185 :: s186 :: s187 :: s188 :: s189 :: s190 :: s191 :: s192 :: []), []⟩ (w.drewN nq)) :
    (Code.region 8 (opsOf Try.f47 8) true).wp Try.prog Q ⟨List.toArray (s0 :: s1 :: (.slice (some ⟨g, 0, none⟩) n cap) :: (.int .i64 i) :: s4 :: s5 :: (.int .i64 m) :: s7 :: s8 :: s9 :: s10 :: s11 :: s12 :: s13 :: s14 :: s15 :: s16 :: s17 :: s18 :: s19 :: s20 :: s21 :: s22 :: s23 :: s24 :: s25 :: s26 :: s27 :: s28 :: s29 :: s30 :: s31 :: s32 :: s33 :: s34 :: s35 :: s36 :: s37 :: s38 :: s39 :: s40 :: s41 :: s42 :: s43 :: s44 :: s45 :: s46 :: s47 :: s48 :: s49 :: s50 :: s51 :: s52 :: s53 :: s54 :: s55 :: s56 :: s57 :: s58 :: s59 :: s60 :: s61 :: s62 :: s63 :: s64 :: s65 :: s66 :: s67 :: s68 :: s69 :: s70 :: s71 :: s72 :: s73 :: s74 :: s75 :: s76 :: s77 :: s78 :: s79 :: s80 :: s81 :: s82 :: s83 :: s84 :: s85 :: s86 :: s87 :: s88 :: s89 :: s90 :: s91 :: s92 :: s93 :: s94 :: s95 :: s96 :: s97 :: s98 :: s99 :: s100 :: s101 :: s102 :: s103 :: s104 :: s105 :: s106 :: s107 :: s108 :: s109 :: s110 :: s111 :: s112 :: s113 :: s114 :: s115 :: s116 :: s117 :: s118 :: s119 :: s120 :: s121 :: s122 :: s123 :: s124 :: s125 :: s126 :: s127 :: s128 :: s129 :: s130 :: s131 :: s132 :: s133 :: s134 :: s135 :: s136 :: s137 :: s138 :: s139 :: s140 :: s141 :: s142 :: s143 :: s144 :: s145 :: s146 :: s147 :: s148 :: s149 :: s150 :: s151 :: s152 :: s153 :: s154 :: s155 :: s156 :: s157 :: s158 :: s159 :: s160 :: s161 :: s162 :: s163 :: s164 :: s165 :: s166 :: s167 :: s168 :: s169 :: s170 :: s171 :: s172 :: s173 :: s174 :: s175 :: s176 :: s177 :: s178 :: s179 :: s180 :: s181 :: s182 :: s183 :: s184 :: s185 :: s186 :: s187 :: s188 :: s189 :: s190 :: s191 :: s192 :: []), []⟩ w := by
  have hyc := hr.cells hl m hm
  have hxc := hr.cells hl i hi
  rw [hx] at hxc
  rw [hy] at hyc
  obtain ⟨x0, x1, x2, x3, x4⟩ := hxc
  obtain ⟨y0, y1, y2, y3, y4⟩ := hyc
  have o1 := fl_lt x.f1 y.f1 hxq.1 hxq.2 hyq.1 hyq.2
  have o2 := fl_eq x.f1 y.f1 hxq.1 hxq.2 hyq.1 hyq.2
  have d1 : (FloatKind.f64.format.order (fl x.f1) (fl y.f1) == some .lt) = false := by rw [o1]; exact decide_eq_false (by omega)
  have d2 : (FloatKind.f64.format.order (fl x.f1) (fl y.f1) == some .eq) = true := by rw [o2]; exact decide_eq_true hw.1
  have d3 : decide (x.f2 < y.f2) = false := decide_eq_false (by omega)
  have d4 : (x.f2 == y.f2) = true := beq_iff_eq.2 (by omega)
  have d5 : ((x.f4.size : Int) == (y.f4.size : Int)) = false := beq_eq_false_iff_ne.2 (by omega)
  have e1 : (i : Int) < (n : Int) := by omega
  have e2 : (m : Int) < (n : Int) := by omega
  have K := Lib.hid k
  clear o1 o2 hr hx hy hxq hyq hw hi hm hl k
  have e8 : (opsOf Try.f47 8) = (opsOf Try.f47 8) := rfl
  conv at e8 => rhs; unfold opsOf; whnf
  dsimp only [List.append] at e8
  have hB := Lex.lex8
  rw [e8] at hB ⊢
  clear e8
  refine wp_region_quiet_lit (by kernel_rfl) hB ?_
  clear hB
  repeat (go_big_quiet_step (fail))
  refine wpQuiet_nil ?_
  rintro w1 ⟨nq, rfl⟩
  apply K.out
set_option maxHeartbeats 4000000 in
set_option maxRecDepth 100000 in
theorem cmp_ogt (w : World) (p g n cap i m : Nat) (l : List S68) (x y : S68) (hl : l.length = n) (hi : i < n) (hm : m < n) (hn2 : n ≤ 1000000) (hr : ARow w p g n cap l) (hx : l.getD i z68 = x) (hy : l.getD m z68 = y) (hxq : 0 ≤ x.f1 ∧ x.f1 ≤ 1000) (hyq : 0 ≤ y.f1 ∧ y.f1 ≤ 1000)
    (hw : x.f1 = y.f1 ∧ x.f2 = y.f2 ∧ x.f4.size = y.f4.size ∧ x.f3 > y.f3) (s0 s1 s4 s5 s7 s8 s9 s10 s11 s12 s13 s14 s15 s16 s17 s18 s19 s20 s21 s22 s23 s24 s25 s26 s27 s28 s29 s30 s31 s32 s33 s34 s35 s36 s37 s38 s39 s40 s41 s42 s43 s44 s45 s46 s47 s48 s49 s50 s51 s52 s53 s54 s55 s56 s57 s58 s59 s60 s61 s62 s63 s64 s65 s66 s67 s68 s69 s70 s71 s72 s73 s74 s75 s76 s77 s78 s79 s80 s81 s82 s83 s84 s85 s86 s87 s88 s89 s90 s91 s92 s93 s94 s95 s96 s97 s98 s99 s100 s101 s102 s103 s104 s105 s106 s107 s108 s109 s110 s111 s112 s113 s114 s115 s116 s117 s118 s119 s120 s121 s122 s123 s124 s125 s126 s127 s128 s129 s130 s131 s132 s133 s134 s135 s136 s137 s138 s139 s140 s141 s142 s143 s144 s145 s146 s147 s148 s149 s150 s151 s152 s153 s154 s155 s156 s157 s158 s159 s160 s161 s162 s163 s164 s165 s166 s167 s168 s169 s170 s171 s172 s173 s174 s175 s176 s177 s178 s179 s180 s181 s182 s183 s184 s185 s186 s187 s188 s189 s190 s191 s192 : Value) (Q : Exit → Act → World → Prop)
    (k : ∀ (nq : Nat) (v35 v36 v37 v38 v39 v40 v41 v42 v43 v44 v45 v46 v47 v48 v49 v50 v51 v52 v53 v54 v55 v56 v57 v58 v59 v60 v61 v62 v63 v64 v65 v66 v67 v68 v69 v70 v71 v72 v73 v74 v75 v76 v77 v78 v79 v80 v81 v82 v83 v84 v85 v86 v87 v88 v89 v90 v91 v92 v93 v94 v95 v96 v97 v98 v99 v100 v101 v102 v103 v104 v105 v106 v107 v108 v109 v110 v111 v112 v113 v114 v115 v116 v117 v118 v119 v120 v121 v122 v123 v124 v125 v126 v127 v128 v129 v130 v131 v132 v133 v134 v135 v136 v137 v138 v139 v140 v141 v142 v143 v144 v145 v146 v147 v148 v149 v150 v151 v152 v153 v154 v155 v156 v157 v158 v159 v160 v161 v162 v163 v164 v165 : Value), Q .normal ⟨List.toArray (s0 :: s1 :: (.slice (some ⟨g, 0, none⟩) n cap) :: (.int .i64 i) :: s4 :: s5 :: (.int .i64 m) :: s7 :: s8 :: s9 :: s10 :: s11 :: s12 :: s13 :: s14 :: s15 :: s16 :: s17 :: s18 :: s19 :: s20 :: s21 :: s22 :: s23 :: s24 :: s25 :: s26 :: s27 :: s28 :: s29 :: s30 :: s31 :: s32 :: s33 :: s34 :: v35 :: v36 :: v37 :: v38 :: v39 :: v40 :: v41 :: v42 :: v43 :: v44 :: v45 :: v46 :: v47 :: v48 :: v49 :: v50 :: v51 :: v52 :: v53 :: v54 :: v55 :: v56 :: v57 :: v58 :: v59 :: v60 :: v61 :: v62 :: v63 :: v64 :: v65 :: v66 :: v67 :: v68 :: v69 :: v70 :: v71 :: v72 :: v73 :: v74 :: v75 :: v76 :: v77 :: v78 :: v79 :: v80 :: v81 :: v82 :: v83 :: v84 :: v85 :: v86 :: v87 :: v88 :: v89 :: v90 :: v91 :: v92 :: v93 :: v94 :: v95 :: v96 :: v97 :: v98 :: v99 :: v100 :: v101 :: v102 :: v103 :: v104 :: v105 :: v106 :: v107 :: v108 :: v109 :: v110 :: v111 :: v112 :: v113 :: v114 :: v115 :: v116 :: v117 :: v118 :: v119 :: v120 :: v121 :: v122 :: v123 :: v124 :: v125 :: v126 :: v127 :: v128 :: v129 :: v130 :: v131 :: v132 :: v133 :: v134 :: v135 :: v136 :: v137 :: v138 :: v139 :: v140 :: v141 :: v142 :: v143 :: v144 :: v145 :: v146 :: v147 :: v148 :: v149 :: v150 :: v151 :: v152 :: v153 :: v154 :: v155 :: v156 :: v157 :: v158 :: v159 :: v160 :: v161 :: v162 :: v163 :: v164 :: v165 :: (.bool true) :: s167 :: s168 :: s169 :: s170 :: s171 :: s172 :: s173 :: s174 :: s175 :: s176 :: s177 :: s178 :: s179 :: s180 :: s181 :: s182 :: s183 :: s184 :: s185 :: s186 :: s187 :: s188 :: s189 :: s190 :: s191 :: s192 :: []), []⟩ (w.drewN nq)) :
    (Code.region 8 (opsOf Try.f47 8) true).wp Try.prog Q ⟨List.toArray (s0 :: s1 :: (.slice (some ⟨g, 0, none⟩) n cap) :: (.int .i64 i) :: s4 :: s5 :: (.int .i64 m) :: s7 :: s8 :: s9 :: s10 :: s11 :: s12 :: s13 :: s14 :: s15 :: s16 :: s17 :: s18 :: s19 :: s20 :: s21 :: s22 :: s23 :: s24 :: s25 :: s26 :: s27 :: s28 :: s29 :: s30 :: s31 :: s32 :: s33 :: s34 :: s35 :: s36 :: s37 :: s38 :: s39 :: s40 :: s41 :: s42 :: s43 :: s44 :: s45 :: s46 :: s47 :: s48 :: s49 :: s50 :: s51 :: s52 :: s53 :: s54 :: s55 :: s56 :: s57 :: s58 :: s59 :: s60 :: s61 :: s62 :: s63 :: s64 :: s65 :: s66 :: s67 :: s68 :: s69 :: s70 :: s71 :: s72 :: s73 :: s74 :: s75 :: s76 :: s77 :: s78 :: s79 :: s80 :: s81 :: s82 :: s83 :: s84 :: s85 :: s86 :: s87 :: s88 :: s89 :: s90 :: s91 :: s92 :: s93 :: s94 :: s95 :: s96 :: s97 :: s98 :: s99 :: s100 :: s101 :: s102 :: s103 :: s104 :: s105 :: s106 :: s107 :: s108 :: s109 :: s110 :: s111 :: s112 :: s113 :: s114 :: s115 :: s116 :: s117 :: s118 :: s119 :: s120 :: s121 :: s122 :: s123 :: s124 :: s125 :: s126 :: s127 :: s128 :: s129 :: s130 :: s131 :: s132 :: s133 :: s134 :: s135 :: s136 :: s137 :: s138 :: s139 :: s140 :: s141 :: s142 :: s143 :: s144 :: s145 :: s146 :: s147 :: s148 :: s149 :: s150 :: s151 :: s152 :: s153 :: s154 :: s155 :: s156 :: s157 :: s158 :: s159 :: s160 :: s161 :: s162 :: s163 :: s164 :: s165 :: s166 :: s167 :: s168 :: s169 :: s170 :: s171 :: s172 :: s173 :: s174 :: s175 :: s176 :: s177 :: s178 :: s179 :: s180 :: s181 :: s182 :: s183 :: s184 :: s185 :: s186 :: s187 :: s188 :: s189 :: s190 :: s191 :: s192 :: []), []⟩ w := by
  have hyc := hr.cells hl m hm
  have hxc := hr.cells hl i hi
  rw [hx] at hxc
  rw [hy] at hyc
  obtain ⟨x0, x1, x2, x3, x4⟩ := hxc
  obtain ⟨y0, y1, y2, y3, y4⟩ := hyc
  have o1 := fl_lt x.f1 y.f1 hxq.1 hxq.2 hyq.1 hyq.2
  have o2 := fl_eq x.f1 y.f1 hxq.1 hxq.2 hyq.1 hyq.2
  have d1 : (FloatKind.f64.format.order (fl x.f1) (fl y.f1) == some .lt) = false := by rw [o1]; exact decide_eq_false (by omega)
  have d2 : (FloatKind.f64.format.order (fl x.f1) (fl y.f1) == some .eq) = true := by rw [o2]; exact decide_eq_true hw.1
  have d3 : decide (x.f2 < y.f2) = false := decide_eq_false (by omega)
  have d4 : (x.f2 == y.f2) = true := beq_iff_eq.2 (by omega)
  have d5 : ((x.f4.size : Int) == (y.f4.size : Int)) = true := beq_iff_eq.2 (by omega)
  have d6 : decide (y.f3 < x.f3) = true := decide_eq_true (by omega)
  have e1 : (i : Int) < (n : Int) := by omega
  have e2 : (m : Int) < (n : Int) := by omega
  have K := Lib.hid k
  clear o1 o2 hr hx hy hxq hyq hw hi hm hl k
  have e8 : (opsOf Try.f47 8) = (opsOf Try.f47 8) := rfl
  conv at e8 => rhs; unfold opsOf; whnf
  dsimp only [List.append] at e8
  have hB := Lex.lex8
  rw [e8] at hB ⊢
  clear e8
  refine wp_region_quiet_lit (by kernel_rfl) hB ?_
  clear hB
  repeat (go_big_quiet_step (fail))
  refine wpQuiet_nil ?_
  rintro w1 ⟨nq, rfl⟩
  apply K.out
set_option maxHeartbeats 4000000 in
set_option maxRecDepth 100000 in
theorem cmp_ole (w : World) (p g n cap i m : Nat) (l : List S68) (x y : S68) (hl : l.length = n) (hi : i < n) (hm : m < n) (hn2 : n ≤ 1000000) (hr : ARow w p g n cap l) (hx : l.getD i z68 = x) (hy : l.getD m z68 = y) (hxq : 0 ≤ x.f1 ∧ x.f1 ≤ 1000) (hyq : 0 ≤ y.f1 ∧ y.f1 ≤ 1000)
    (hw : x.f1 = y.f1 ∧ x.f2 = y.f2 ∧ x.f4.size = y.f4.size ∧ ¬ x.f3 > y.f3) (s0 s1 s4 s5 s7 s8 s9 s10 s11 s12 s13 s14 s15 s16 s17 s18 s19 s20 s21 s22 s23 s24 s25 s26 s27 s28 s29 s30 s31 s32 s33 s34 s35 s36 s37 s38 s39 s40 s41 s42 s43 s44 s45 s46 s47 s48 s49 s50 s51 s52 s53 s54 s55 s56 s57 s58 s59 s60 s61 s62 s63 s64 s65 s66 s67 s68 s69 s70 s71 s72 s73 s74 s75 s76 s77 s78 s79 s80 s81 s82 s83 s84 s85 s86 s87 s88 s89 s90 s91 s92 s93 s94 s95 s96 s97 s98 s99 s100 s101 s102 s103 s104 s105 s106 s107 s108 s109 s110 s111 s112 s113 s114 s115 s116 s117 s118 s119 s120 s121 s122 s123 s124 s125 s126 s127 s128 s129 s130 s131 s132 s133 s134 s135 s136 s137 s138 s139 s140 s141 s142 s143 s144 s145 s146 s147 s148 s149 s150 s151 s152 s153 s154 s155 s156 s157 s158 s159 s160 s161 s162 s163 s164 s165 s166 s167 s168 s169 s170 s171 s172 s173 s174 s175 s176 s177 s178 s179 s180 s181 s182 s183 s184 s185 s186 s187 s188 s189 s190 s191 s192 : Value) (Q : Exit → Act → World → Prop)
    (k : ∀ (nq : Nat) (v35 v36 v37 v38 v39 v40 v41 v42 v43 v44 v45 v46 v47 v48 v49 v50 v51 v52 v53 v54 v55 v56 v57 v58 v59 v60 v61 v62 v63 v64 v65 v66 v67 v68 v69 v70 v71 v72 v73 v74 v75 v76 v77 v78 v79 v80 v81 v82 v83 v84 v85 v86 v87 v88 v89 v90 v91 v92 v93 v94 v95 v96 v97 v98 v99 v100 v101 v102 v103 v104 v105 v106 v107 v108 v109 v110 v111 v112 v113 v114 v115 v116 v117 v118 v119 v120 v121 v122 v123 v124 v125 v126 v127 v128 v129 v130 v131 v132 v133 v134 v135 v136 v137 v138 v139 v140 v141 v142 v143 v144 v145 v146 v147 v148 v149 v150 v151 v152 v153 v154 v155 v156 v157 v158 v159 v160 v161 v162 v163 v164 v165 : Value), Q .normal ⟨List.toArray (s0 :: s1 :: (.slice (some ⟨g, 0, none⟩) n cap) :: (.int .i64 i) :: s4 :: s5 :: (.int .i64 m) :: s7 :: s8 :: s9 :: s10 :: s11 :: s12 :: s13 :: s14 :: s15 :: s16 :: s17 :: s18 :: s19 :: s20 :: s21 :: s22 :: s23 :: s24 :: s25 :: s26 :: s27 :: s28 :: s29 :: s30 :: s31 :: s32 :: s33 :: s34 :: v35 :: v36 :: v37 :: v38 :: v39 :: v40 :: v41 :: v42 :: v43 :: v44 :: v45 :: v46 :: v47 :: v48 :: v49 :: v50 :: v51 :: v52 :: v53 :: v54 :: v55 :: v56 :: v57 :: v58 :: v59 :: v60 :: v61 :: v62 :: v63 :: v64 :: v65 :: v66 :: v67 :: v68 :: v69 :: v70 :: v71 :: v72 :: v73 :: v74 :: v75 :: v76 :: v77 :: v78 :: v79 :: v80 :: v81 :: v82 :: v83 :: v84 :: v85 :: v86 :: v87 :: v88 :: v89 :: v90 :: v91 :: v92 :: v93 :: v94 :: v95 :: v96 :: v97 :: v98 :: v99 :: v100 :: v101 :: v102 :: v103 :: v104 :: v105 :: v106 :: v107 :: v108 :: v109 :: v110 :: v111 :: v112 :: v113 :: v114 :: v115 :: v116 :: v117 :: v118 :: v119 :: v120 :: v121 :: v122 :: v123 :: v124 :: v125 :: v126 :: v127 :: v128 :: v129 :: v130 :: v131 :: v132 :: v133 :: v134 :: v135 :: v136 :: v137 :: v138 :: v139 :: v140 :: v141 :: v142 :: v143 :: v144 :: v145 :: v146 :: v147 :: v148 :: v149 :: v150 :: v151 :: v152 :: v153 :: v154 :: v155 :: v156 :: v157 :: v158 :: v159 :: v160 :: v161 :: v162 :: v163 :: v164 :: v165 :: (.bool false) :: s167 :: s168 :: s169 :: s170 :: s171 :: s172 :: s173 :: s174 :: s175 :: s176 :: s177 :: s178 :: s179 :: s180 :: s181 :: s182 :: s183 :: s184 :: s185 :: s186 :: s187 :: s188 :: s189 :: s190 :: s191 :: s192 :: []), []⟩ (w.drewN nq)) :
    (Code.region 8 (opsOf Try.f47 8) true).wp Try.prog Q ⟨List.toArray (s0 :: s1 :: (.slice (some ⟨g, 0, none⟩) n cap) :: (.int .i64 i) :: s4 :: s5 :: (.int .i64 m) :: s7 :: s8 :: s9 :: s10 :: s11 :: s12 :: s13 :: s14 :: s15 :: s16 :: s17 :: s18 :: s19 :: s20 :: s21 :: s22 :: s23 :: s24 :: s25 :: s26 :: s27 :: s28 :: s29 :: s30 :: s31 :: s32 :: s33 :: s34 :: s35 :: s36 :: s37 :: s38 :: s39 :: s40 :: s41 :: s42 :: s43 :: s44 :: s45 :: s46 :: s47 :: s48 :: s49 :: s50 :: s51 :: s52 :: s53 :: s54 :: s55 :: s56 :: s57 :: s58 :: s59 :: s60 :: s61 :: s62 :: s63 :: s64 :: s65 :: s66 :: s67 :: s68 :: s69 :: s70 :: s71 :: s72 :: s73 :: s74 :: s75 :: s76 :: s77 :: s78 :: s79 :: s80 :: s81 :: s82 :: s83 :: s84 :: s85 :: s86 :: s87 :: s88 :: s89 :: s90 :: s91 :: s92 :: s93 :: s94 :: s95 :: s96 :: s97 :: s98 :: s99 :: s100 :: s101 :: s102 :: s103 :: s104 :: s105 :: s106 :: s107 :: s108 :: s109 :: s110 :: s111 :: s112 :: s113 :: s114 :: s115 :: s116 :: s117 :: s118 :: s119 :: s120 :: s121 :: s122 :: s123 :: s124 :: s125 :: s126 :: s127 :: s128 :: s129 :: s130 :: s131 :: s132 :: s133 :: s134 :: s135 :: s136 :: s137 :: s138 :: s139 :: s140 :: s141 :: s142 :: s143 :: s144 :: s145 :: s146 :: s147 :: s148 :: s149 :: s150 :: s151 :: s152 :: s153 :: s154 :: s155 :: s156 :: s157 :: s158 :: s159 :: s160 :: s161 :: s162 :: s163 :: s164 :: s165 :: s166 :: s167 :: s168 :: s169 :: s170 :: s171 :: s172 :: s173 :: s174 :: s175 :: s176 :: s177 :: s178 :: s179 :: s180 :: s181 :: s182 :: s183 :: s184 :: s185 :: s186 :: s187 :: s188 :: s189 :: s190 :: s191 :: s192 :: []), []⟩ w := by
  have hyc := hr.cells hl m hm
  have hxc := hr.cells hl i hi
  rw [hx] at hxc
  rw [hy] at hyc
  obtain ⟨x0, x1, x2, x3, x4⟩ := hxc
  obtain ⟨y0, y1, y2, y3, y4⟩ := hyc
  have o1 := fl_lt x.f1 y.f1 hxq.1 hxq.2 hyq.1 hyq.2
  have o2 := fl_eq x.f1 y.f1 hxq.1 hxq.2 hyq.1 hyq.2
  have d1 : (FloatKind.f64.format.order (fl x.f1) (fl y.f1) == some .lt) = false := by rw [o1]; exact decide_eq_false (by omega)
  have d2 : (FloatKind.f64.format.order (fl x.f1) (fl y.f1) == some .eq) = true := by rw [o2]; exact decide_eq_true hw.1
  have d3 : decide (x.f2 < y.f2) = false := decide_eq_false (by omega)
  have d4 : (x.f2 == y.f2) = true := beq_iff_eq.2 (by omega)
  have d5 : ((x.f4.size : Int) == (y.f4.size : Int)) = true := beq_iff_eq.2 (by omega)
  have d6 : decide (y.f3 < x.f3) = false := decide_eq_false (by omega)
  have e1 : (i : Int) < (n : Int) := by omega
  have e2 : (m : Int) < (n : Int) := by omega
  have K := Lib.hid k
  clear o1 o2 hr hx hy hxq hyq hw hi hm hl k
  have e8 : (opsOf Try.f47 8) = (opsOf Try.f47 8) := rfl
  conv at e8 => rhs; unfold opsOf; whnf
  dsimp only [List.append] at e8
  have hB := Lex.lex8
  rw [e8] at hB ⊢
  clear e8
  refine wp_region_quiet_lit (by kernel_rfl) hB ?_
  clear hB
  repeat (go_big_quiet_step (fail))
  refine wpQuiet_nil ?_
  rintro w1 ⟨nq, rfl⟩
  apply K.out
theorem cmp_all (w : World) (p g n cap i m : Nat) (l : List S68) (x y : S68) (hl : l.length = n) (hi : i < n) (hm : m < n) (hn2 : n ≤ 1000000) (hr : ARow w p g n cap l) (hx : l.getD i z68 = x) (hy : l.getD m z68 = y) (hxq : 0 ≤ x.f1 ∧ x.f1 ≤ 1000) (hyq : 0 ≤ y.f1 ∧ y.f1 ≤ 1000)
    (s0 s1 s4 s5 s7 s8 s9 s10 s11 s12 s13 s14 s15 s16 s17 s18 s19 s20 s21 s22 s23 s24 s25 s26 s27 s28 s29 s30 s31 s32 s33 s34 s35 s36 s37 s38 s39 s40 s41 s42 s43 s44 s45 s46 s47 s48 s49 s50 s51 s52 s53 s54 s55 s56 s57 s58 s59 s60 s61 s62 s63 s64 s65 s66 s67 s68 s69 s70 s71 s72 s73 s74 s75 s76 s77 s78 s79 s80 s81 s82 s83 s84 s85 s86 s87 s88 s89 s90 s91 s92 s93 s94 s95 s96 s97 s98 s99 s100 s101 s102 s103 s104 s105 s106 s107 s108 s109 s110 s111 s112 s113 s114 s115 s116 s117 s118 s119 s120 s121 s122 s123 s124 s125 s126 s127 s128 s129 s130 s131 s132 s133 s134 s135 s136 s137 s138 s139 s140 s141 s142 s143 s144 s145 s146 s147 s148 s149 s150 s151 s152 s153 s154 s155 s156 s157 s158 s159 s160 s161 s162 s163 s164 s165 s166 s167 s168 s169 s170 s171 s172 s173 s174 s175 s176 s177 s178 s179 s180 s181 s182 s183 s184 s185 s186 s187 s188 s189 s190 s191 s192 : Value) (Q : Exit → Act → World → Prop)
    (k : ∀ (nq : Nat) (v35 v36 v37 v38 v39 v40 v41 v42 v43 v44 v45 v46 v47 v48 v49 v50 v51 v52 v53 v54 v55 v56 v57 v58 v59 v60 v61 v62 v63 v64 v65 v66 v67 v68 v69 v70 v71 v72 v73 v74 v75 v76 v77 v78 v79 v80 v81 v82 v83 v84 v85 v86 v87 v88 v89 v90 v91 v92 v93 v94 v95 v96 v97 v98 v99 v100 v101 v102 v103 v104 v105 v106 v107 v108 v109 v110 v111 v112 v113 v114 v115 v116 v117 v118 v119 v120 v121 v122 v123 v124 v125 v126 v127 v128 v129 v130 v131 v132 v133 v134 v135 v136 v137 v138 v139 v140 v141 v142 v143 v144 v145 v146 v147 v148 v149 v150 v151 v152 v153 v154 v155 v156 v157 v158 v159 v160 v161 v162 v163 v164 v165 : Value), Q .normal ⟨List.toArray (s0 :: s1 :: (.slice (some ⟨g, 0, none⟩) n cap) :: (.int .i64 i) :: s4 :: s5 :: (.int .i64 m) :: s7 :: s8 :: s9 :: s10 :: s11 :: s12 :: s13 :: s14 :: s15 :: s16 :: s17 :: s18 :: s19 :: s20 :: s21 :: s22 :: s23 :: s24 :: s25 :: s26 :: s27 :: s28 :: s29 :: s30 :: s31 :: s32 :: s33 :: s34 :: v35 :: v36 :: v37 :: v38 :: v39 :: v40 :: v41 :: v42 :: v43 :: v44 :: v45 :: v46 :: v47 :: v48 :: v49 :: v50 :: v51 :: v52 :: v53 :: v54 :: v55 :: v56 :: v57 :: v58 :: v59 :: v60 :: v61 :: v62 :: v63 :: v64 :: v65 :: v66 :: v67 :: v68 :: v69 :: v70 :: v71 :: v72 :: v73 :: v74 :: v75 :: v76 :: v77 :: v78 :: v79 :: v80 :: v81 :: v82 :: v83 :: v84 :: v85 :: v86 :: v87 :: v88 :: v89 :: v90 :: v91 :: v92 :: v93 :: v94 :: v95 :: v96 :: v97 :: v98 :: v99 :: v100 :: v101 :: v102 :: v103 :: v104 :: v105 :: v106 :: v107 :: v108 :: v109 :: v110 :: v111 :: v112 :: v113 :: v114 :: v115 :: v116 :: v117 :: v118 :: v119 :: v120 :: v121 :: v122 :: v123 :: v124 :: v125 :: v126 :: v127 :: v128 :: v129 :: v130 :: v131 :: v132 :: v133 :: v134 :: v135 :: v136 :: v137 :: v138 :: v139 :: v140 :: v141 :: v142 :: v143 :: v144 :: v145 :: v146 :: v147 :: v148 :: v149 :: v150 :: v151 :: v152 :: v153 :: v154 :: v155 :: v156 :: v157 :: v158 :: v159 :: v160 :: v161 :: v162 :: v163 :: v164 :: v165 :: (.bool (lessA x y)) :: s167 :: s168 :: s169 :: s170 :: s171 :: s172 :: s173 :: s174 :: s175 :: s176 :: s177 :: s178 :: s179 :: s180 :: s181 :: s182 :: s183 :: s184 :: s185 :: s186 :: s187 :: s188 :: s189 :: s190 :: s191 :: s192 :: []), []⟩ (w.drewN nq)) :
    (Code.region 8 (opsOf Try.f47 8) true).wp Try.prog Q ⟨List.toArray (s0 :: s1 :: (.slice (some ⟨g, 0, none⟩) n cap) :: (.int .i64 i) :: s4 :: s5 :: (.int .i64 m) :: s7 :: s8 :: s9 :: s10 :: s11 :: s12 :: s13 :: s14 :: s15 :: s16 :: s17 :: s18 :: s19 :: s20 :: s21 :: s22 :: s23 :: s24 :: s25 :: s26 :: s27 :: s28 :: s29 :: s30 :: s31 :: s32 :: s33 :: s34 :: s35 :: s36 :: s37 :: s38 :: s39 :: s40 :: s41 :: s42 :: s43 :: s44 :: s45 :: s46 :: s47 :: s48 :: s49 :: s50 :: s51 :: s52 :: s53 :: s54 :: s55 :: s56 :: s57 :: s58 :: s59 :: s60 :: s61 :: s62 :: s63 :: s64 :: s65 :: s66 :: s67 :: s68 :: s69 :: s70 :: s71 :: s72 :: s73 :: s74 :: s75 :: s76 :: s77 :: s78 :: s79 :: s80 :: s81 :: s82 :: s83 :: s84 :: s85 :: s86 :: s87 :: s88 :: s89 :: s90 :: s91 :: s92 :: s93 :: s94 :: s95 :: s96 :: s97 :: s98 :: s99 :: s100 :: s101 :: s102 :: s103 :: s104 :: s105 :: s106 :: s107 :: s108 :: s109 :: s110 :: s111 :: s112 :: s113 :: s114 :: s115 :: s116 :: s117 :: s118 :: s119 :: s120 :: s121 :: s122 :: s123 :: s124 :: s125 :: s126 :: s127 :: s128 :: s129 :: s130 :: s131 :: s132 :: s133 :: s134 :: s135 :: s136 :: s137 :: s138 :: s139 :: s140 :: s141 :: s142 :: s143 :: s144 :: s145 :: s146 :: s147 :: s148 :: s149 :: s150 :: s151 :: s152 :: s153 :: s154 :: s155 :: s156 :: s157 :: s158 :: s159 :: s160 :: s161 :: s162 :: s163 :: s164 :: s165 :: s166 :: s167 :: s168 :: s169 :: s170 :: s171 :: s172 :: s173 :: s174 :: s175 :: s176 :: s177 :: s178 :: s179 :: s180 :: s181 :: s182 :: s183 :: s184 :: s185 :: s186 :: s187 :: s188 :: s189 :: s190 :: s191 :: s192 :: []), []⟩ w := by
  rcases less_cases x y with ⟨e, h | h | h⟩ | ⟨e, h | h | h | h⟩ <;> rw [e] at k
  · exact cmp_lt w p g n cap i m l x y hl hi hm hn2 hr hx hy hxq hyq h s0 s1 s4 s5 s7 s8 s9 s10 s11 s12 s13 s14 s15 s16 s17 s18 s19 s20 s21 s22 s23 s24 s25 s26 s27 s28 s29 s30 s31 s32 s33 s34 s35 s36 s37 s38 s39 s40 s41 s42 s43 s44 s45 s46 s47 s48 s49 s50 s51 s52 s53 s54 s55 s56 s57 s58 s59 s60 s61 s62 s63 s64 s65 s66 s67 s68 s69 s70 s71 s72 s73 s74 s75 s76 s77 s78 s79 s80 s81 s82 s83 s84 s85 s86 s87 s88 s89 s90 s91 s92 s93 s94 s95 s96 s97 s98 s99 s100 s101 s102 s103 s104 s105 s106 s107 s108 s109 s110 s111 s112 s113 s114 s115 s116 s117 s118 s119 s120 s121 s122 s123 s124 s125 s126 s127 s128 s129 s130 s131 s132 s133 s134 s135 s136 s137 s138 s139 s140 s141 s142 s143 s144 s145 s146 s147 s148 s149 s150 s151 s152 s153 s154 s155 s156 s157 s158 s159 s160 s161 s162 s163 s164 s165 s166 s167 s168 s169 s170 s171 s172 s173 s174 s175 s176 s177 s178 s179 s180 s181 s182 s183 s184 s185 s186 s187 s188 s189 s190 s191 s192 Q k
  · exact cmp_slt w p g n cap i m l x y hl hi hm hn2 hr hx hy hxq hyq h s0 s1 s4 s5 s7 s8 s9 s10 s11 s12 s13 s14 s15 s16 s17 s18 s19 s20 s21 s22 s23 s24 s25 s26 s27 s28 s29 s30 s31 s32 s33 s34 s35 s36 s37 s38 s39 s40 s41 s42 s43 s44 s45 s46 s47 s48 s49 s50 s51 s52 s53 s54 s55 s56 s57 s58 s59 s60 s61 s62 s63 s64 s65 s66 s67 s68 s69 s70 s71 s72 s73 s74 s75 s76 s77 s78 s79 s80 s81 s82 s83 s84 s85 s86 s87 s88 s89 s90 s91 s92 s93 s94 s95 s96 s97 s98 s99 s100 s101 s102 s103 s104 s105 s106 s107 s108 s109 s110 s111 s112 s113 s114 s115 s116 s117 s118 s119 s120 s121 s122 s123 s124 s125 s126 s127 s128 s129 s130 s131 s132 s133 s134 s135 s136 s137 s138 s139 s140 s141 s142 s143 s144 s145 s146 s147 s148 s149 s150 s151 s152 s153 s154 s155 s156 s157 s158 s159 s160 s161 s162 s163 s164 s165 s166 s167 s168 s169 s170 s171 s172 s173 s174 s175 s176 s177 s178 s179 s180 s181 s182 s183 s184 s185 s186 s187 s188 s189 s190 s191 s192 Q k
  · exact cmp_ogt w p g n cap i m l x y hl hi hm hn2 hr hx hy hxq hyq h s0 s1 s4 s5 s7 s8 s9 s10 s11 s12 s13 s14 s15 s16 s17 s18 s19 s20 s21 s22 s23 s24 s25 s26 s27 s28 s29 s30 s31 s32 s33 s34 s35 s36 s37 s38 s39 s40 s41 s42 s43 s44 s45 s46 s47 s48 s49 s50 s51 s52 s53 s54 s55 s56 s57 s58 s59 s60 s61 s62 s63 s64 s65 s66 s67 s68 s69 s70 s71 s72 s73 s74 s75 s76 s77 s78 s79 s80 s81 s82 s83 s84 s85 s86 s87 s88 s89 s90 s91 s92 s93 s94 s95 s96 s97 s98 s99 s100 s101 s102 s103 s104 s105 s106 s107 s108 s109 s110 s111 s112 s113 s114 s115 s116 s117 s118 s119 s120 s121 s122 s123 s124 s125 s126 s127 s128 s129 s130 s131 s132 s133 s134 s135 s136 s137 s138 s139 s140 s141 s142 s143 s144 s145 s146 s147 s148 s149 s150 s151 s152 s153 s154 s155 s156 s157 s158 s159 s160 s161 s162 s163 s164 s165 s166 s167 s168 s169 s170 s171 s172 s173 s174 s175 s176 s177 s178 s179 s180 s181 s182 s183 s184 s185 s186 s187 s188 s189 s190 s191 s192 Q k
  · exact cmp_gt w p g n cap i m l x y hl hi hm hn2 hr hx hy hxq hyq h s0 s1 s4 s5 s7 s8 s9 s10 s11 s12 s13 s14 s15 s16 s17 s18 s19 s20 s21 s22 s23 s24 s25 s26 s27 s28 s29 s30 s31 s32 s33 s34 s35 s36 s37 s38 s39 s40 s41 s42 s43 s44 s45 s46 s47 s48 s49 s50 s51 s52 s53 s54 s55 s56 s57 s58 s59 s60 s61 s62 s63 s64 s65 s66 s67 s68 s69 s70 s71 s72 s73 s74 s75 s76 s77 s78 s79 s80 s81 s82 s83 s84 s85 s86 s87 s88 s89 s90 s91 s92 s93 s94 s95 s96 s97 s98 s99 s100 s101 s102 s103 s104 s105 s106 s107 s108 s109 s110 s111 s112 s113 s114 s115 s116 s117 s118 s119 s120 s121 s122 s123 s124 s125 s126 s127 s128 s129 s130 s131 s132 s133 s134 s135 s136 s137 s138 s139 s140 s141 s142 s143 s144 s145 s146 s147 s148 s149 s150 s151 s152 s153 s154 s155 s156 s157 s158 s159 s160 s161 s162 s163 s164 s165 s166 s167 s168 s169 s170 s171 s172 s173 s174 s175 s176 s177 s178 s179 s180 s181 s182 s183 s184 s185 s186 s187 s188 s189 s190 s191 s192 Q k
  · exact cmp_sgt w p g n cap i m l x y hl hi hm hn2 hr hx hy hxq hyq h s0 s1 s4 s5 s7 s8 s9 s10 s11 s12 s13 s14 s15 s16 s17 s18 s19 s20 s21 s22 s23 s24 s25 s26 s27 s28 s29 s30 s31 s32 s33 s34 s35 s36 s37 s38 s39 s40 s41 s42 s43 s44 s45 s46 s47 s48 s49 s50 s51 s52 s53 s54 s55 s56 s57 s58 s59 s60 s61 s62 s63 s64 s65 s66 s67 s68 s69 s70 s71 s72 s73 s74 s75 s76 s77 s78 s79 s80 s81 s82 s83 s84 s85 s86 s87 s88 s89 s90 s91 s92 s93 s94 s95 s96 s97 s98 s99 s100 s101 s102 s103 s104 s105 s106 s107 s108 s109 s110 s111 s112 s113 s114 s115 s116 s117 s118 s119 s120 s121 s122 s123 s124 s125 s126 s127 s128 s129 s130 s131 s132 s133 s134 s135 s136 s137 s138 s139 s140 s141 s142 s143 s144 s145 s146 s147 s148 s149 s150 s151 s152 s153 s154 s155 s156 s157 s158 s159 s160 s161 s162 s163 s164 s165 s166 s167 s168 s169 s170 s171 s172 s173 s174 s175 s176 s177 s178 s179 s180 s181 s182 s183 s184 s185 s186 s187 s188 s189 s190 s191 s192 Q k
  · exact cmp_len w p g n cap i m l x y hl hi hm hn2 hr hx hy hxq hyq h s0 s1 s4 s5 s7 s8 s9 s10 s11 s12 s13 s14 s15 s16 s17 s18 s19 s20 s21 s22 s23 s24 s25 s26 s27 s28 s29 s30 s31 s32 s33 s34 s35 s36 s37 s38 s39 s40 s41 s42 s43 s44 s45 s46 s47 s48 s49 s50 s51 s52 s53 s54 s55 s56 s57 s58 s59 s60 s61 s62 s63 s64 s65 s66 s67 s68 s69 s70 s71 s72 s73 s74 s75 s76 s77 s78 s79 s80 s81 s82 s83 s84 s85 s86 s87 s88 s89 s90 s91 s92 s93 s94 s95 s96 s97 s98 s99 s100 s101 s102 s103 s104 s105 s106 s107 s108 s109 s110 s111 s112 s113 s114 s115 s116 s117 s118 s119 s120 s121 s122 s123 s124 s125 s126 s127 s128 s129 s130 s131 s132 s133 s134 s135 s136 s137 s138 s139 s140 s141 s142 s143 s144 s145 s146 s147 s148 s149 s150 s151 s152 s153 s154 s155 s156 s157 s158 s159 s160 s161 s162 s163 s164 s165 s166 s167 s168 s169 s170 s171 s172 s173 s174 s175 s176 s177 s178 s179 s180 s181 s182 s183 s184 s185 s186 s187 s188 s189 s190 s191 s192 Q k
  · exact cmp_ole w p g n cap i m l x y hl hi hm hn2 hr hx hy hxq hyq h s0 s1 s4 s5 s7 s8 s9 s10 s11 s12 s13 s14 s15 s16 s17 s18 s19 s20 s21 s22 s23 s24 s25 s26 s27 s28 s29 s30 s31 s32 s33 s34 s35 s36 s37 s38 s39 s40 s41 s42 s43 s44 s45 s46 s47 s48 s49 s50 s51 s52 s53 s54 s55 s56 s57 s58 s59 s60 s61 s62 s63 s64 s65 s66 s67 s68 s69 s70 s71 s72 s73 s74 s75 s76 s77 s78 s79 s80 s81 s82 s83 s84 s85 s86 s87 s88 s89 s90 s91 s92 s93 s94 s95 s96 s97 s98 s99 s100 s101 s102 s103 s104 s105 s106 s107 s108 s109 s110 s111 s112 s113 s114 s115 s116 s117 s118 s119 s120 s121 s122 s123 s124 s125 s126 s127 s128 s129 s130 s131 s132 s133 s134 s135 s136 s137 s138 s139 s140 s141 s142 s143 s144 s145 s146 s147 s148 s149 s150 s151 s152 s153 s154 s155 s156 s157 s158 s159 s160 s161 s162 s163 s164 s165 s166 s167 s168 s169 s170 s171 s172 s173 s174 s175 s176 s177 s178 s179 s180 s181 s182 s183 s184 s185 s186 s187 s188 s189 s190 s191 s192 Q k
@[local go_sem] theorem store_float66 {P : Program} (w : World) (a : Addr) (k : FloatKind) (b : Nat) (m : Mode) : (store a (.float k b) m).run P w = stored P w a (.float k b) m := run_store P w a _ m rfl
theorem region_ops {P : Program} {id : Nat} {ops ops' : Array Oper} {b : Bool} {Q : Exit → Act → World → Prop} {a : Act} {w : World} (h : ops = ops') (k : (Code.region id ops' b).wp P Q a w) : (Code.region id ops b).wp P Q a w := h ▸ k
theorem swap_world (w : World) (g k : Nat) (x y : S68) : (w.drew.setCells g (k * 5) (accC x)).setCells g (k * 5 + 5) (accC y) = ((((((((((w.setCell ⟨g, k * 5, none⟩ (.string x.f0)).setCell ⟨g, k * 5 + 1, none⟩ (.float .f64 (fl x.f1))).setCell ⟨g, k * 5 + 2, none⟩ (.int .i64 x.f2)).setCell ⟨g, k * 5 + 3, none⟩ (.int .i64 x.f3)).setCell ⟨g, k * 5 + 4, none⟩ (.string x.f4)).setCell ⟨g, k * 5 + 5, none⟩ (.string y.f0)).setCell ⟨g, k * 5 + 5 + 1, none⟩ (.float .f64 (fl y.f1))).setCell ⟨g, k * 5 + 5 + 2, none⟩ (.int .i64 y.f2)).setCell ⟨g, k * 5 + 5 + 3, none⟩ (.int .i64 y.f3)).setCell ⟨g, k * 5 + 5 + 4, none⟩ (.string y.f4)).drew := by
  simp only [World.setCells, accC, World.setCell_drew, Nat.add_assoc, Nat.reduceAdd]
set_option maxHeartbeats 4000000 in
set_option maxRecDepth 100000 in
theorem sort_calls (w : World) (p g n cap : Nat) (l : List S68) (hl : l.length = n) (hn : 2 ≤ n) (hn2 : n ≤ 1000000) (hq : inQ l) (hp : p < w.heap.size) (hc : w.heap[p]? = some (.cells #[.slice (some ⟨g, 0, none⟩) n cap] 75 (0, 0))) (hr : ARow w (p + 1) g n cap l) :
    Calls Try.prog 47 #[.pointer (some ⟨p, 0, none⟩)] w fun e w' => e = .returned (.tuple #[]) ∧ ARow w' (p + 1) g n cap (sortS l) ∧ Below (p + 1) w w' := by
  have c0 : w.cell? ⟨p, 0, none⟩ = some (.slice (some ⟨g, 0, none⟩) n cap) := by rw [cell_of_row w p 0 _ _ (0, 0) hc]; rfl
  have hnb : ((n : Int) < 2) = False := eq_false (by omega)
  obtain ⟨RES, hRES⟩ : ∃ r, sortS l = r := ⟨_, rfl⟩
  rw [hRES]
  have hs : sortA (n - 1) 1 l = RES := by rw [← hRES]; unfold sortS; rw [hl]
  have HS := Lib.hid hs
  have HR := Lib.hid hr
  have HQ := Lib.hid hq
  have HG := Lib.hid (own_base hr g rfl)
  clear hs hr hq hRES hc
  go_enter Try.func47, Try.ntmps47
  go_wp2
  go_loopw [3] (fun si wr => ∃ (i : Nat) (l' : List S68), si = .int .i64 i ∧ 1 ≤ i ∧ i ≤ n ∧ l'.length = n ∧ Hid (sortA (n - i) i l' = RES) ∧ Hid (inQ l') ∧ Hid (ARow wr (p + 1) g n cap l') ∧ Hid (Below (p + 1) w wr)) (fun si _ => n - (intOf si).toNat)
  case atStart => exact ⟨1, l, rfl, by omega, by omega, hl, HS, HQ, HR, Lib.hid (Below.refl _ _)⟩
  case round =>
    obtain ⟨i, l', rfl, hi1, hin, hl', HS', HQ', HR', HB'⟩ := hrel
    obtain ⟨wo, hwo⟩ : ∃ wo : World, wo = wr := ⟨_, rfl⟩
    subst hwo
    by_cases hlt : i < n
    · obtain ⟨x, hx⟩ : ∃ x, l'.getD i z68 = x := ⟨_, rfl⟩
      obtain ⟨R, hRR⟩ : ∃ R, bsA l' x (i + 1) 0 ((i : Int) - 1) = R := ⟨_, rfl⟩
      have hrng := bsA_range l' x (i + 1) 0 ((i : Int) - 1) (by omega) (by omega) (by omega)
      rw [hRR] at hrng
      have HX := Lib.hid hx
      have HRR := Lib.hid hRR
      have hxq := HQ'.out.at i (by omega)
      rw [hx] at hxq
      clear hx hRR
      go_upto_region 6 with fail
      go_loopw [4, 5] (fun sl sh wi => ∃ (a b : Int) (f : Nat), sl = .int .i64 a ∧ sh = .int .i64 b ∧ 0 ≤ a ∧ b < i ∧ a ≤ b + 1 ∧ b - a < f ∧ Hid (bsA l' x f a b = R) ∧ Hid (ARow wi (p + 1) g n cap l') ∧ Hid (Below (p + 1) w wi)) (fun sl sh _ => (intOf sh - intOf sl + 1).toNat)
      case atStart => exact ⟨0, (i : Int) - 1, i + 1, rfl, by go_num, by omega, by omega, by omega, by omega, HRR, HR', HB'⟩
      case round =>
        obtain ⟨a, b, f, rfl, rfl, ha, hb, hab, hf, HBS, HRi, HBi⟩ := hrel
        by_cases hle : a ≤ b
        · obtain ⟨f, rfl⟩ : ∃ g, f = g + 1 := ⟨f - 1, by omega⟩
          obtain ⟨m, hm⟩ : ∃ m : Nat, (a + b) / 2 = (m : Int) := ⟨((a + b) / 2).toNat, by omega⟩
          have hmt : (a + b).tdiv 2 = (m : Int) := by rw [Int.tdiv_eq_ediv_of_nonneg (by omega)]; exact hm
          have hmi : m < i := by omega
          have hml : a ≤ m := by omega
          have hmh : (m : Int) ≤ b := by omega
          obtain ⟨y, hy⟩ : ∃ y, l'.getD m z68 = y := ⟨_, rfl⟩
          have hyq := HQ'.out.at m (by omega)
          rw [hy] at hyq
          have hstep : Hid ((if lessA x y = true then bsA l' x f (m + 1) b else bsA l' x f a (m - 1)) = R) := Lib.hid (by
            have h1 := HBS.out
            unfold bsA at h1
            rw [if_pos hle, hm, Int.toNat_natCast, hy] at h1
            exact h1)
          have HY := Lib.hid hy
          obtain ⟨T, hT⟩ : ∃ T, lessA x y = T := ⟨_, rfl⟩
          rw [hT] at hstep
          have HT := Lib.hid hT
          have hxq2 := Lib.hid hxq
          have hyq2 := Lib.hid hyq
          clear hy HBS hm hT hyq
          go_wp2_with fail
          refine region_ops (ops' := opsOf Try.f47 8) (by kernel_rfl) ?_
          apply cmp_all wr (p + 1) g n cap i m l' x y hl' hlt (by omega) hn2 HRi.out HX.out HY.out hxq2.out hyq2.out
          intro nq
          intros
          rw [HT.out]
          cases T with
          | true =>
            go_wp2
            go_roundw
            case rel => exact ⟨(m : Int) + 1, b, f, by go_num, rfl, by omega, hb, by omega, by omega, hstep, HRi, Lib.hid (pw_below_drewN HBi.out _)⟩
            case measure => simp [intOf]; omega
          | false =>
            go_wp2
            go_roundw
            case rel => exact ⟨a, (m : Int) - 1, f, rfl, by go_num, by omega, by omega, by omega, by omega, hstep, HRi, Lib.hid (pw_below_drewN HBi.out _)⟩
            case measure => simp [intOf]; omega
        · have haR : R = a := by have := HBS.out; rw [bsA_done _ _ _ _ _ hle] at this; exact this.symm
          subst haR
          obtain ⟨r, rfl⟩ : ∃ r : Nat, R = r := ⟨R.toNat, by omega⟩
          have hri : r ≤ i := by omega
          clear HBS hab hf ha hb hrng hxq
          go_wp2
          go_loopw [7] (fun sj wj => ∃ j : Nat, sj = .int .i64 j ∧ r ≤ j ∧ j ≤ i ∧ Hid (ARow wj (p + 1) g n cap (moveA l' i j)) ∧ Hid (Below (p + 1) w wj)) (fun sj _ => (intOf sj).toNat)
          case atStart => exact ⟨i, rfl, by omega, by omega, Lib.hid (by rw [moveA_self _ _ (by omega)]; exact HRi.out), HBi⟩
          case round =>
            obtain ⟨j, rfl, hrj, hji, HRj, HBj⟩ := hrel
            have hml : (moveA l' i j).length = n := by rw [moveA_length _ _ _ (by omega) hji]; exact hl'
            by_cases hlt2 : r < j
            · obtain ⟨k, hk⟩ : ∃ k, j = k + 1 := ⟨j - 1, by omega⟩
              have q1 : (moveA l' i j).getD j z68 = x := by rw [moveA_at _ _ _ (by omega) hji]; exact HX.out
              have q2 : (moveA l' i j).getD k z68 = l'.getD k z68 := moveA_ahead _ _ _ (by omega) hji k (by omega)
              obtain ⟨y, hy⟩ : ∃ y, l'.getD k z68 = y := ⟨_, rfl⟩
              rw [hy] at q2
              have hrow : ARow wr.drew (p + 1) g n cap (moveA l' i j) := HRj.out
              have cj := ARow.cells HRj.out hml j (by omega)
              have ck := ARow.cells HRj.out hml k (by omega)
              rw [q1] at cj
              rw [q2] at ck
              have hj5 : j * 5 = k * 5 + 5 := by omega
              rw [hj5] at cj
              obtain ⟨a0, a1, a2, a3, a4⟩ := cj
              obtain ⟨b0, b1, b2, b3, b4⟩ := ck
              have hf : ∀ o, wr.frozen? ⟨g, o, none⟩ = false := fun o => World.ownsRow.frozenAt (w := wr) HRj.out o
              have hrow1 := hrow.put hml k (by omega) x
              have hrow2 := hrow1.put (by rw [List.length_set]; exact hml) j (by omega) y
              have hfin : ((moveA l' i j).set k x).set j y = moveA l' i k := by
                have := moveA_swap l' i k (by omega) (by omega)
                rw [HX.out, hy, ← hk] at this
                exact this
              rw [hfin] at hrow2
              have hb2 : Below (p + 1) w ((wr.drew.setCells g (k * 5) (accC x)).setCells g (j * 5) (accC y)) := below_setCells HG.out _ _ _ (below_setCells HG.out _ _ _ (pw_below_drewN HBj.out 1))
              rw [hj5, swap_world] at hrow2 hb2
              have HR2 := Lib.hid hrow2
              have HB2 := Lib.hid hb2
              have e1 : IntKind.i64.wrap ((j : Int) - 1) = (k : Int) := by rw [IntWalk.i64_in _ (by omega)]; omega
              have e2 : (k : Int) < (n : Int) := by omega
              have e3 : (j : Int) < (n : Int) := by omega
              have hkr : r ≤ k := by omega
              have hki : k ≤ i := by omega
              have hkj : k < j := by omega
              clear hk q1 q2 hy hrow hrow1 hfin hrow2 hb2 hml
              go_wp2_with fail
              go_region
              go_wp2
              go_roundw
              case rel => exact ⟨k, by go_num, hkr, hki, HR2, HB2⟩
              case measure => simp [intOf]; omega
            · have : j = r := by omega
              subst this
              have hnext : Hid (sortA (n - (i + 1)) (i + 1) (moveA l' i j) = RES) := Lib.hid (by
                have h1 := HS'.out
                rw [show n - i = (n - (i + 1)) + 1 by omega] at h1
                unfold sortA insA at h1
                rw [HX.out, HRR.out, Int.toNat_natCast] at h1
                exact h1)
              have hq2 := HQ'.out.move i j (by omega)
              have HQ2 := Lib.hid hq2
              clear hq2
              go_wp2
              go_roundw
              case rel => exact ⟨i + 1, moveA l' i j, by go_num, by omega, by omega, hml, hnext, HQ2, HRj, HBj⟩
              case measure => simp [intOf]; omega
    · have : i = n := by omega
      subst this
      have hfin : Hid (l' = RES) := Lib.hid (by have := HS'.out; rw [Nat.sub_self] at this; exact this)
      go_wp2
      go_end0
      exact ⟨rfl, by rw [← hfin.out]; exact HR'.out, HB'.out⟩
def qC (x : S68) : List Value := [.string x.f0, .int .i64 x.f1, .int .i64 x.f2, .int .i64 x.f3, .string x.f4]
def flatQ (l : List S68) : List Value := l.flatMap qC
theorem flatQ_cons (x : S68) (l : List S68) : flatQ (x :: l) = qC x ++ flatQ l := by unfold flatQ; rw [List.flatMap_cons]
theorem flatQ_append (a b : List S68) : flatQ (a ++ b) = flatQ a ++ flatQ b := by unfold flatQ; rw [List.flatMap_append]
theorem flatQ_length (l : List S68) : (flatQ l).length = l.length * 5 := by
  induction l with
  | nil => rfl
  | cons x l ih => rw [flatQ_cons, List.length_append, ih, List.length_cons]; show 5 + _ = _; omega
theorem flatQ_at (l : List S68) : ∀ (i : Nat) (p : S68), l[i]? = some p → ((flatQ l).drop (i * 5)).take 5 = qC p := by
  induction l with
  | nil => intro i p h; simp at h
  | cons x l ih =>
    intro i p h
    rw [flatQ_cons]
    cases i with
    | zero =>
      simp only [List.getElem?_cons_zero, Option.some.injEq] at h
      subst h
      rw [Nat.zero_mul, List.drop_zero, List.take_append_of_le_length (by show 5 ≤ 5; omega)]
      rfl
    | succ i =>
      rw [show (i + 1) * 5 = 5 + i * 5 by omega, ← List.drop_drop, List.drop_append_of_le_length (by show 5 ≤ 5; omega)]
      rw [show (qC x).drop 5 = [] from rfl, List.nil_append]
      exact ih i p (by simpa using h)
theorem R_of_own {w : World} {base n : Nat} {v : Value} {xs : List S68} (h : w.ownsRow base 68 5 v n (flatQ xs)) (hn : n = xs.length) : Kd.R k68 68 w base (fun _ => True) v xs := by
  subst hn
  refine ⟨fun _ _ => trivial, flatQ xs, h, flatQ_length xs, fun j p hj => ?_⟩
  have e := flatQ_at xs j p hj
  show k68.M w base _ p (((flatQ xs).drop (j * 5)).take 5)
  rw [e]
  exact k68_mkM _ _ _ p
theorem take_snoc (l : List S68) (i : Nat) (hi : i < l.length) : l.take (i + 1) = l.take i ++ [l.getD i z68] := by
  rw [List.take_succ_eq_append_getElem hi, List.getD_eq_getElem?_getD, List.getElem?_eq_getElem hi]; rfl
@[local go_sem] theorem store_float {P : Program} (w : World) (a : Addr) (k : FloatKind) (b : Nat) (m : Mode) : (store a (.float k b) m).run P w = stored P w a (.float k b) m := run_store P w a _ m rfl
theorem below_weaken_b {B C : Nat} {a b : World} (h : B ≤ C) (k : Below C a b) : Below B a b := ⟨k.os, k.tape, k.output, k.size, fun i hi => k.block i (by omega)⟩
set_option maxRecDepth 100000 in
theorem sort_small (w : World) (p n c : Nat) (A : Option Addr) (hn : n < 2) (hc : w.heap[p]? = some (.cells #[.slice A n c] 75 (0, 0))) :
    Calls Try.prog 47 #[.pointer (some ⟨p, 0, none⟩)] w fun e w' => e = .returned (.tuple #[]) ∧ Below w.heap.size w w' := by
  have c0 : w.cell? ⟨p, 0, none⟩ = some (.slice A n c) := by rw [cell_of_row w p 0 _ _ (0, 0) hc]; rfl
  have hnb : ((n : Int) < 2) = True := eq_true (by omega)
  clear hc
  go_enter Try.func47, Try.ntmps47
  go_wp2
  (try simp only [Exit.inBlock, Exit.then])
  refine bodyPost_ret (results_none rfl _ _ _) rfl ?_
  exact ⟨rfl, Below.refl _ _⟩
theorem inQ.sortA : ∀ (d i : Nat) (l : List S68), inQ l → i + d ≤ l.length → inQ (sortA d i l)
  | 0, _, _, h, _ => h
  | d + 1, i, l, h, hd => by
    have hm : inQ (insA l i) := inQ.move h i _ (by omega)
    have hl := insA_length l i (by omega)
    show inQ (Srt.sortA d (i + 1) (insA l i))
    exact inQ.sortA d (i + 1) _ hm (by omega)
theorem inQ.sortS {l : List S68} (h : inQ l) : inQ (sortS l) := by
  rcases Nat.eq_zero_or_pos l.length with h0 | h0
  · have : Srt.sortS l = l := by unfold Srt.sortS; rw [h0]; rfl
    rw [this]; exact h
  · exact inQ.sortA _ _ _ h (by omega)
theorem sort_any (w : World) (p n : Nat) (v : Value) (l : List S68) (hl : l.length = n) (hn2 : n ≤ 1000000) (hq : inQ l) (hp : p < w.heap.size) (hc : w.heap[p]? = some (.cells #[v] 75 (0, 0))) (hr : w.ownsRow (p + 1) 78 5 v n (flatA l)) :
    Calls Try.prog 47 #[.pointer (some ⟨p, 0, none⟩)] w fun e w' => e = .returned (.tuple #[]) ∧ w'.ownsRow (p + 1) 78 5 v n (flatA (sortS l)) ∧ Below (p + 1) w w' := by
  by_cases h2 : 2 ≤ n
  · rcases hr.2 with ⟨_, h0⟩ | ⟨g, cap, cur, rfl, _⟩
    · omega
    · exact sort_calls w p g n cap l hl h2 hn2 hq hp hc hr
  · obtain ⟨A, c, rfl⟩ := own_slice hr
    refine (sort_small w p n c A (by omega) hc).mono ?_
    rintro e w' ⟨rfl, hb⟩
    have : sortS l = l := by unfold sortS; rw [show l.length - 1 = 0 by omega]; rfl
    rw [this]
    exact ⟨rfl, pw_own_below hr hb, below_weaken_b (by omega) hb⟩
def fiberhelpers_ZzSort.f (l : List S68) : Option (List S68) := if l.length ≤ 1000000 ∧ (l.all fun x => decide (0 ≤ x.f1) && decide (x.f1 ≤ 1000)) = true then some (sortS l) else none
set_option maxHeartbeats 4000000 in
set_option maxRecDepth 100000 in
theorem zzSort_calls (A : Option Addr) (c : Nat) (l : List S68) (w : World) (hr : Kd.C k68 w A l.length l) (hc : l.length ≤ c) (hn2 : l.length ≤ 1000000) (hq : inQ l) :
    Calls Try.prog 38 #[.slice A l.length c] w fun e w' => ∃ v, e = .returned v ∧ Kd.R k68 68 w' w.heap.size (fun _ => True) v (sortS l) ∧ Below w.heap.size w w' := by
  have hinfo : (Try.prog.info? 78).map (fun i => (i.zero, i.size, i.bytes)) = some (some (.agg #[.string ByteArray.empty, .float .f64 0, .int .i64 0, .int .i64 0, .string ByteArray.empty]), 5, 56) := by kernel_rfl
  obtain ⟨i0, hi, hz0, hz1, hz2⟩ := info_parts hinfo
  obtain ⟨S, hS⟩ : ∃ S, sortS l = S := ⟨_, rfl⟩
  rw [hS]
  have HSQ : Hid (inQ S) := Lib.hid (by rw [← hS]; exact hq.sortS)
  have hSl : S.length = l.length := by rw [← hS, sortS_length]
  have HS := Lib.hid hS
  obtain ⟨n, hn⟩ : ∃ n, l.length = n := ⟨_, rfl⟩
  rw [hn] at hSl
  have HSL := Lib.hid hSl
  obtain ⟨p, hp⟩ : ∃ p, w.heap.size = p := ⟨_, rfl⟩
  have HR := Lib.hid hr
  have HQ := Lib.hid hq
  have HN := Lib.hid hn
  have hnn : n ≤ 1000000 := by omega
  rw [hn]
  have hW : Hid ((w.alloc (.cells #[.slice none 0 0] 75)).heap[p]? = some (.cells #[.slice none 0 0] 75 (0, 0))) := Lib.hid (by rw [← hp]; exact heap_alloc_new w _)
  have hB0 : Hid (Below w.heap.size w (w.alloc (.cells #[.slice none 0 0] 75))) := Lib.hid (((Below.refl _ _).alloc (Nat.le_refl _) _))
  have hS0 : Hid ((w.alloc (.cells #[.slice none 0 0] 75)).heap.size = p + 1) := Lib.hid (by simp [hp])
  clear hr hq hn hc hn2 hS hSl
  go_enter Try.func38, Try.ntmps38
  go_wp2
  go_loopw [11] (fun si wr => ∃ (i : Nat) (v : Value), si = .int .i64 i ∧ i ≤ n ∧ Hid (wr.heap[p]? = some (.cells #[v] 75 (0, 0))) ∧ Hid (wr.ownsRow (p + 1) 78 5 v i (flatA (l.take i))) ∧ Hid (Below w.heap.size w wr)) (fun si _ => n - (intOf si).toNat)
  case atStart => exact ⟨0, .slice none 0 0, rfl, by omega, hW, Lib.hid (by rw [List.take_zero]; exact own_nil _ _ _ _), hB0⟩
  case round =>
    obtain ⟨i, v, rfl, hin, HP, HO, HB⟩ := hrel
    by_cases hlt : i < n
    · obtain ⟨x, hx⟩ : ∃ x, l.getD i z68 = x := ⟨_, rfl⟩
      have hat := at_T68 HR.out (i : Int) (by omega) (by rw [HN.out]; omega)
      rw [show rd_T68 l (i : Int) = x from hx, Int.toNat_natCast] at hat
      obtain ⟨ad, rfl, a0, a1, a2, a3, a4⟩ := hat
      replace a0 := (HB.out.cell (World.block_lt_of_cell? w _ a0)).trans a0
      replace a1 := (HB.out.cell (World.block_lt_of_cell? w _ a1)).trans a1
      replace a2 := (HB.out.cell (World.block_lt_of_cell? w _ a2)).trans a2
      replace a3 := (HB.out.cell (World.block_lt_of_cell? w _ a3)).trans a3
      replace a4 := (HB.out.cell (World.block_lt_of_cell? w _ a4)).trans a4
      have hsz : p < wr.heap.size := by
        rcases Nat.lt_or_ge p wr.heap.size with h | h
        · exact h
        · have := HP.out; rw [Array.getElem?_eq_none h] at this; cases this
      have cp : wr.cell? ⟨p, 0, none⟩ = some v := by rw [cell_of_row wr p 0 _ _ (0, 0) HP.out]; rfl
      have HX := Lib.hid hx
      clear hx
      have hg1 : 1 ≤ 1 := Nat.le_refl _
      go_wp2_with (at_builtin; refine wpList_append_own _ rfl _ _ 75 rfl (p + 1) 78 i0 (.agg #[.string ByteArray.empty, .float .f64 0, .int .i64 0, .int .i64 0, .string ByteArray.empty]) 5 56 Try.underlying75 hi hz0 hz1 hz2 rfl (by decide) _ _ _ rfl ((HO.out.alloc _).alloc _) ⟨wr.heap.size + 1, 0, none⟩ 1 1 (accC x) rfl rfl ?c1 ?c2 ?c3 ?c4 ?c5 ?_)
      case c1 =>
        intro j u hj
        match j, hj with
        | 0, hj => simp [accC] at hj; subst hj; simp [Addr.add, fl]
        | 1, hj => simp [accC] at hj; subst hj; simp [Addr.add, fl]
        | 2, hj => simp [accC] at hj; subst hj; simp [Addr.add, fl]
        | 3, hj => simp [accC] at hj; subst hj; simp [Addr.add, fl]
        | 4, hj => simp [accC] at hj; subst hj; simp [Addr.add, fl]
      case c2 =>
        intro u hu
        simp only [accC, List.mem_cons, List.not_mem_nil, or_false] at hu
        rcases hu with rfl | rfl | rfl | rfl | rfl <;> rfl
      case c3 => unfold maxLen; omega
      case c4 => omega
      case c5 => simp; omega
      intro v' w2 hown' hgrow _
      obtain ⟨g, cap, rfl⟩ : ∃ g cap, v' = .slice (some ⟨g, 0, none⟩) (i + 1) cap := by
        rcases hown'.2 with ⟨_, h0⟩ | ⟨g, cap, cur, hv, _⟩
        · omega
        · exact ⟨g, cap, hv⟩
      obtain ⟨v', hv'⟩ : ∃ v', Value.slice (some ⟨g, 0, none⟩) (i + 1) cap = v' := ⟨_, rfl⟩
      have hvb : ∀ k, k ≤ p → some k ≠ v.ownBlock := fun k hk e => by have := own_base HO.out k e.symm; omega
      have hold : ∀ k, k ≤ p → w2.heap[k]? = wr.heap[k]? := fun k hk => by
        rw [hgrow.block k (by simp; omega) (hvb k hk)]
        rw [Below.heap_alloc _ _ _ (by simp; omega)]
        exact Below.heap_alloc _ _ _ (by omega)
      have hb2 : w2.heap[p]? = some (.cells #[v] 75 (0, 0)) := by rw [hold p (Nat.le_refl _)]; exact HP.out
      have d0 : w2.cell? ⟨p, 0, none⟩ = some v := by rw [cell_of_row w2 p 0 _ _ (0, 0) hb2]; rfl
      have f0 : w2.frozen? ⟨p, 0, none⟩ = false := frozen_of_row _ _ 0 _ _ hb2
      have hbw2 : Below p wr w2 := by
        refine ⟨hgrow.os, hgrow.tape, hgrow.output, ?_, fun k hk => hold k (by omega)⟩
        have := hgrow.size
        simp at this
        omega
      rw [hv'] at hown'
      obtain ⟨W3, hW3⟩ : ∃ W, w2.setCell ⟨p, 0, none⟩ v' = W := ⟨_, rfl⟩
      have hP3 : Hid (W3.heap[p]? = some (.cells #[v'] 75 (0, 0))) := Lib.hid (by
        rw [← hW3]
        have := heap_setCell_same w2 p 0 _ 75 v' hb2
        simpa using this)
      have hO3 : Hid (W3.ownsRow (p + 1) 78 5 v' (i + 1) (flatA (l.take (i + 1)))) := Lib.hid (by
        rw [← hW3, take_snoc l i (by rw [HN.out]; exact hlt), flatA_append, HX.out]
        have hm := own_move (w1 := w2.setCell ⟨p, 0, none⟩ v') hown' (fun k hk => Below.heap_setCell _ _ _ _ (by have := own_base hown' k hk; show k ≠ p; omega))
        rw [show flatA [x] = accC x from by simp [flatA]]
        exact hm)
      have hB3 : Hid (Below w.heap.size w W3) := Lib.hid (by
        rw [← hW3, hp]
        have h1 : Below p w wr := by have := HB.out; rwa [hp] at this
        exact (h1.trans hbw2).setCell (p := ⟨p, 0, none⟩) (Nat.le_refl _) _)
      rw [← hv'] at hW3
      clear hv'
      clear hown' hgrow hvb hold hb2 hbw2 a0 a1 a2 a3 a4
      go_wp2_with fail
      try rw [hW3]
      go_roundw
      case rel => exact ⟨i + 1, v', by go_num, by omega, hP3, hO3, hB3⟩
      case measure => simp [intOf]; omega
    · obtain rfl : i = n := by omega
      have hO : wr.ownsRow (p + 1) 78 5 v i (flatA l) := by
        have := HO.out
        rwa [List.take_of_length_le (by rw [HN.out]; exact Nat.le_refl _)] at this
      have hsz : p < wr.heap.size := by
        rcases Nat.lt_or_ge p wr.heap.size with h | h
        · exact h
        · have := HP.out; rw [Array.getElem?_eq_none h] at this; cases this
      obtain ⟨A2, c2, rfl⟩ := own_slice hO
      have HSA := Lib.hid (sort_any wr p i (.slice A2 i c2) l HN.out hnn HQ.out hsz HP.out hO)
      rw [HS.out] at HSA
      have hsz2 := Lib.hid hsz
      clear hO hsz HO
      go_upto_region 9 with (
        go_at_call 47
        refine (HSA.out).mono ?_
        rintro e w3 ⟨rfl, g1, g2⟩
        have hP3 : w3.heap[p]? = some (.cells #[.slice A2 i c2] 75 (0, 0)) := (g2.block p (by omega)).trans HP.out
        have d3 : w3.cell? ⟨p, 0, none⟩ = some (.slice A2 i c2) := by rw [cell_of_row w3 p 0 _ _ (0, 0) hP3]; rfl
        have G1 := Lib.hid g1
        have G2 := Lib.hid (HB.out.trans (below_weaken_b (by omega : w.heap.size ≤ p + 1) g2))
        clear g1 g2 hP3)
      go_wp2
      have hinf2 : (Try.prog.info? 68).map (fun i => (i.zero, i.size, i.bytes)) = some (some (.agg #[.string ByteArray.empty, .int .i64 0, .int .i64 0, .int .i64 0, .string ByteArray.empty]), 5, 56) := by kernel_rfl
      obtain ⟨i1, hj, hy0, hy1, hy2⟩ := info_parts hinf2
      go_loopw [6, 34] (fun s6 sk wr => ∃ (k : Nat), sk = .int .i64 k ∧ k ≤ i ∧ Hid (wr.ownsRow w.heap.size 68 5 s6 k (flatQ (S.take k))) ∧ Hid (wr.ownsRow (p + 1) 78 5 (.slice A2 i c2) i (flatA S)) ∧ Hid (Below w.heap.size w wr)) (fun _ sk _ => i - (intOf sk).toNat)
      case atStart => exact ⟨0, rfl, by omega, Lib.hid (by rw [List.take_zero]; exact own_nil _ _ _ _), G1, G2⟩
      case round =>
        obtain ⟨k, rfl, hki, HO6, HOA, HBk⟩ := hrel
        by_cases hlk : k < i
        · obtain ⟨y, hy⟩ : ∃ y, S.getD k z68 = y := ⟨_, rfl⟩
          obtain ⟨g, hg⟩ : ∃ g, A2 = some ⟨g, 0, none⟩ := by
            rcases HOA.out.2 with ⟨_, h0⟩ | ⟨g, cap, cur, hv, _⟩
            · omega
            · injection hv with h1 h2 h3; exact ⟨g, h1⟩
          subst hg
          have hcy := ARow.cells HOA.out HSL.out k hlk
          rw [hy] at hcy
          obtain ⟨b0, b1, b2, b3, b4⟩ := hcy
          have hyq := HSQ.out.at k (by rw [HSL.out]; exact hlk)
          rw [hy] at hyq
          have hcv := fun (W : World) => run_convert_float_int (P := Try.prog) W 76 3 .f64 .i64 (fl y.f1) y.f1 (by rw [Try.underlying76]; rfl) Try.underlying3 (fl_int _ hyq.1 hyq.2)
          have hki2 : (k : Int) < (i : Int) := by omega
          have HY := Lib.hid hy
          clear hy hyq
          go_wp2_with (at_builtin; refine wpList_append_own _ rfl _ _ 67 rfl w.heap.size 68 i1 (.agg #[.string ByteArray.empty, .int .i64 0, .int .i64 0, .int .i64 0, .string ByteArray.empty]) 5 56 Try.underlying67 hj hy0 hy1 hy2 rfl (by decide) _ _ _ rfl ((HO6.out.alloc _).alloc _) ⟨wr.heap.size + 1, 0, none⟩ 1 1 (qC y) rfl rfl ?c1 ?c2 ?c3 ?c4 ?c5 ?_)
          case c1 =>
            intro j u hju
            match j, hju with
            | 0, hju => simp [qC] at hju; subst hju; simp [Addr.add]
            | 1, hju => simp [qC] at hju; subst hju; simp [Addr.add]
            | 2, hju => simp [qC] at hju; subst hju; simp [Addr.add]
            | 3, hju => simp [qC] at hju; subst hju; simp [Addr.add]
            | 4, hju => simp [qC] at hju; subst hju; simp [Addr.add]
          case c2 =>
            intro u hu
            simp only [qC, List.mem_cons, List.not_mem_nil, or_false] at hu
            rcases hu with rfl | rfl | rfl | rfl | rfl <;> rfl
          case c3 => unfold maxLen; omega
          case c4 => omega
          case c5 => have := HBk.out.size; simp; omega
          intro v' w2 hown' hgrow _
          have hne := own_type_ne HOA.out HO6.out (by decide)
          have hOA2 := Lib.hid (own_other ((HOA.out.alloc _).alloc _) hgrow hne)
          have hO62 : Hid (w2.ownsRow w.heap.size 68 5 v' (k + 1) (flatQ (S.take (k + 1)))) := Lib.hid (by
            rw [take_snoc S k (by rw [HSL.out]; exact hlk), flatQ_append, HY.out]
            rw [show flatQ [y] = qC y from by simp [flatQ]]
            first | exact hown' | (rw [hp]; exact hown'))
          have hB2 : Hid (Below w.heap.size w w2) := Lib.hid (by
            refine HBk.out.trans ⟨hgrow.os, hgrow.tape, hgrow.output, ?_, fun q hq => ?_⟩
            · have := hgrow.size
              simp at this
              omega
            · have hsz := HBk.out.size
              rw [hgrow.block q (by simp; omega) (fun e => by have := own_base HO6.out q e.symm; omega)]
              rw [Below.heap_alloc _ _ _ (by simp; omega)]
              exact Below.heap_alloc _ _ _ (by omega))
          clear hown' hgrow hne b0 b1 b2 b3 b4 hcv
          go_wp2_with fail
          go_roundw
          case rel => exact ⟨k + 1, by go_num, by omega, hO62, hOA2, hB2⟩
          case measure => simp [intOf]; omega
        · obtain rfl : k = i := by omega
          have hfin : Hid (Kd.R k68 68 wr w.heap.size (fun _ => True) u6 S) := Lib.hid (by
            have := HO6.out
            rw [List.take_of_length_le (by rw [HSL.out]; exact Nat.le_refl _)] at this
            exact R_of_own this HSL.out.symm)
          go_wp2
          go_ret
          exact ⟨_, rfl, hfin.out, HBk.out⟩
theorem fiberhelpers_ZzSort.calls (A : Option Addr) (c : Nat) (l : List S68) (r : List S68) (w : World) (hr : Kd.C k68 w A l.length l) (hc : l.length ≤ c) (h : fiberhelpers_ZzSort.f l = some r) :
    Calls Try.prog 38 #[.slice A l.length c] w fun e w' => ∃ v, e = .returned v ∧ Kd.R k68 68 w' w.heap.size (fun _ => True) v r ∧ Below w.heap.size w w' := by
  unfold fiberhelpers_ZzSort.f at h
  by_cases hbd : l.length ≤ 1000000 ∧ (l.all fun x => decide (0 ≤ x.f1) && decide (x.f1 ≤ 1000)) = true
  · rw [if_pos hbd] at h
    obtain rfl := Option.some.inj h
    refine zzSort_calls A c l w hr hc hbd.1 (fun x hx => ?_)
    have := List.all_eq_true.1 hbd.2 x hx
    simp only [Bool.and_eq_true, decide_eq_true_eq] at this
    exact this
  · rw [if_neg hbd] at h
    cases h
end Go.Proofs.Ytgmjaggkiifdjaa.Given
namespace Go.Proofs.Ytgmjaggkiifdjaa.QA
open Go.Proofs.Ytgmjaggkiifdjaa.Given
open Go.Proofs.Ytgmjaggkiifdjaa.PrX
open Go.RowKit Go.Proofs.YtgmjaggkiifdjaaW.PrintWords Go.Proofs.YtgmjaggkiifdjaaW.PrintLast Go.Proofs.YtgmjaggkiifdjaaW.PrintMore
mutual
def impl_SortAccepted.l0 : Nat → List (S68) → List (S49) → Int → Int → Option ((List (S49)))
  | 0, _, _, _, _ => none
  | k + 1, x3, x9, x10, x11 => if x11 < x10 then (if 0 ≤ x11 then (if x11 < (x9.length : Int) then (if x3.length < 2513169434916 then (impl_SortAccepted.l0 k (x3 ++ [(⟨(rd_T49 x9 x11).f0, (rd_T49 x9 x11).f1, (rd_T49 x9 x11).f2, (rd_T49 x9 x11).f3, (rd_T49 x9 x11).f4⟩ : S68)]) x9 x10 (wrap64 (x11 + 1))) else (none)) else (none)) else (none)) else ((fiberhelpers_ZzSort.f x3).bind fun t237 => (impl_SortAccepted.l1 k ([] : List (S49)) t237 (t237.length : Int) 0))
def impl_SortAccepted.l1 : Nat → List (S49) → List (S68) → Int → Int → Option ((List (S49)))
  | 0, _, _, _, _ => none
  | k + 1, x6, x21, x22, x23 => if x23 < x22 then (if 0 ≤ x23 then (if x23 < (x21.length : Int) then (if x6.length < 2513169434916 then (impl_SortAccepted.l1 k (x6 ++ [(⟨(rd_T68 x21 x23).f0, (rd_T68 x21 x23).f1, (rd_T68 x21 x23).f2, (rd_T68 x21 x23).f3, (rd_T68 x21 x23).f4⟩ : S49)]) x21 x22 (wrap64 (x23 + 1))) else (none)) else (none)) else (none)) else (some x6)
end
def impl_SortAccepted.f (k : Nat) (l0 : List (S49)) : Option ((List (S49))) := impl_SortAccepted.l0 k ([] : List (S68)) l0 (l0.length : Int) 0
set_option maxHeartbeats 8000000 in
set_option maxRecDepth 100000 in
theorem impl_SortAccepted.calls (k : Nat) (A0 : Option Addr) (c0 : Nat) (l0 : List (S49)) (r : List (S49)) (w : World) (hr0 : Kd.C k49 w A0 l0.length l0) (hc0 : l0.length ≤ c0) (h : impl_SortAccepted.f k l0 = some r) :
  Calls Try.prog 21 #[.slice A0 l0.length c0] w fun e w' => ∃ v0_ : Value, e = .returned (v0_) ∧ Kd.R k49 49 w' w.heap.size (fun _ => True) v0_ r ∧ Below w.heap.size w w' := by
 have hu49 := Try.underlying49
 have hu68 := Try.underlying68
 have HR0 := Aside0.mk hr0
 have HC0 := Aside0.mk hc0
 clear hr0 hc0
 have HB := Aside0.mk (Below.refl w.heap.size w)
 have H : (impl_SortAccepted.l0 k ([] : List (S68)) l0 (l0.length : Int) 0) = some r := h
 clear h
 have H' := Aside0.mk H
 clear H
 go_enter Try.func21, Try.ntmps21
 go_wp2
 go_loopg [3, 11] k (fun kq v3 v11 w' => ∃ (x3_1 : List (S68)) (x11_1 : Int), v11 = .int .i64 x11_1 ∧ Aside0 (impl_SortAccepted.l0 kq x3_1 l0 (l0.length : Int) x11_1 = some r) ∧ Aside0 (kq ≤ k) ∧ Aside0 (Kd.R k68 68 w' w.heap.size (fun _ => True) v3 x3_1) ∧ Aside0 (Below w.heap.size w w'))
 case atStart => exact ⟨(([] : List (S68))), (0), (by first | rfl | (simp; done) | (rw [prx_ne]; first | done | rfl) | (simp [*]; done)), H', ⟨Nat.le_refl _⟩, ⟨by first | exact Kd.R_nil _ _ _ _ _ | exact Kd.N_nil _ _ _ _ _ | exact Kd.V_nil _ _ _ _ _ | exact Kd.Q_nil _ _ _ _ _ | exact Kd.S_nil _ _ _ _ _⟩, ⟨by repeat (first | (with_reducible first | exact HB.out | apply below_alloc | apply pw_below_drewN | apply below_drew1) | exact HB.out)⟩⟩
 case round =>
  clear H'
  obtain ⟨x3_1, x11_1, rfl, HA, HK1, HO_3, HB⟩ := hrel
  cases gk with
  | zero => exact absurd HA.out (by simp [impl_SortAccepted.l0])
  | succ k1 =>
   have H := HA.out
   clear HA
   simp only [impl_SortAccepted.l0] at H
   by_cases c2 : x11_1 < (l0.length : Int)
   ·rw [if_pos c2] at H
    have c2b0 : decide (x11_1 < (l0.length : Int)) = true := decide_eq_true c2
    clear c2
    by_cases c3 : 0 ≤ x11_1
    ·rw [if_pos c3] at H
     have c3b0 : decide (0 ≤ x11_1) = true := decide_eq_true c3
     clear c3
     by_cases c4 : x11_1 < (l0.length : Int)
     ·rw [if_pos c4] at H
      have c4b0 : decide (x11_1 < (l0.length : Int)) = true := decide_eq_true c4
      clear c4
      by_cases c5 : x3_1.length < 2513169434916
      ·rw [if_pos c5] at H
       have LMc5 := Aside0.mk c5
       clear c5
       obtain ⟨y234, hy234⟩ : ∃ y_ : List (S68), y_ = (x3_1 ++ [(⟨(rd_T49 l0 x11_1).f0, (rd_T49 l0 x11_1).f1, (rd_T49 l0 x11_1).f2, (rd_T49 l0 x11_1).f3, (rd_T49 l0 x11_1).f4⟩ : S68)]) := ⟨_, rfl⟩
       replace H : (impl_SortAccepted.l0 k1 y234 l0 (l0.length : Int) (wrap64 (x11_1 + 1))) = some r := by first | (rw [hy234]; with_reducible exact H) | (have H2_ := (Option.bind_some _ _).symm.trans H; rw [hy234]; with_reducible exact H2_) | (have H2_ := (Option.bind_some _ _).symm.trans H; with_reducible exact H2_) | with_reducible exact H | (rw [hy234]; exact H) | exact H
       have Ny234 := Aside0.mk hy234
       clear hy234
       have H' := Aside0.mk H
       clear H
       have p232 : 0 ≤ (x11_1 : Int) := of_decide_eq_true (by first | (with_reducible assumption) | assumption)
       have q232 : x11_1 < (l0.length : Int) := of_decide_eq_true (by first | (with_reducible assumption) | assumption)
       obtain ⟨ad232, e232, hx232_0, hx232_1, hx232_2, hx232_3, hx232_4⟩ := at_T49 HR0.out x11_1 p232 q232
       cases e232
       replace hx232_0 := (HB.out.cell (World.block_lt_of_cell? w _ hx232_0)).trans hx232_0
       replace hx232_1 := (HB.out.cell (World.block_lt_of_cell? w _ hx232_1)).trans hx232_1
       replace hx232_2 := (HB.out.cell (World.block_lt_of_cell? w _ hx232_2)).trans hx232_2
       replace hx232_3 := (HB.out.cell (World.block_lt_of_cell? w _ hx232_3)).trans hx232_3
       replace hx232_4 := (HB.out.cell (World.block_lt_of_cell? w _ hx232_4)).trans hx232_4
       replace p232 := eq_true p232
       replace q232 := eq_true q232
       go_wp2_with (first | ((with_reducible refine gate_dst (N := 5) rfl ?_); refine box_event ?hg (N := 5) ?hd (cs := #[.string (⟨#[]⟩ : ByteArray), .int .i64 0, .int .i64 0, .int .i64 0, .string (⟨#[]⟩ : ByteArray)]) (t := 49) ?hr ?_; (case hd => rfl); (case hg => rfl); (case hr => first | (go_simp; done) | (go_simp; rfl)); intro gb233 hg w6 hbox hb; have n0_ := Aside0.mk (Kd.R_below (by (with_reducible repeat (first | apply Kd.R_alloc | apply Kd.R_drewN | apply Kd.R_drew)); exact HO_3.out) hb); have n1_ := Aside0.mk (below_step (by repeat (first | (with_reducible first | exact HB.out | apply below_alloc | apply pw_below_drewN | apply below_drew1) | exact HB.out)) hb); have n2_ := Aside0.mk (hbox); have n3_ := Aside0.mk ((by rw [hg]; exact (below_size (by repeat (first | (with_reducible first | exact HB.out | apply below_alloc | apply pw_below_drewN | apply below_drew1) | exact HB.out))) : w.heap.size ≤ gb233)); have n4_ := Aside0.mk ((by rw [hg]; exact (below_size (by repeat (first | (with_reducible first | exact HB.out | apply below_alloc | apply pw_below_drewN | apply below_drew1) | exact HB.out))) : w.heap.size ≤ gb233)); clear HO_3; clear HB; have HO_3 := n0_; have HB := n1_; have BK233 := n2_; have GW233 := n3_; have GE233 := n4_; clear n0_ n1_ n2_ n3_ n4_; clear hb hbox hg; have hcz7_0 : w6.cell? ⟨gb233, 0, none⟩ = some (.string (⟨#[]⟩ : ByteArray)) := (blk_cell BK233.out 0).trans rfl; have hcz7_1 : w6.cell? ⟨gb233, 1, none⟩ = some (.int .i64 0) := (blk_cell BK233.out 1).trans rfl; have hcz7_2 : w6.cell? ⟨gb233, 2, none⟩ = some (.int .i64 0) := (blk_cell BK233.out 2).trans rfl; have hcz7_3 : w6.cell? ⟨gb233, 3, none⟩ = some (.int .i64 0) := (blk_cell BK233.out 3).trans rfl; have hcz7_4 : w6.cell? ⟨gb233, 4, none⟩ = some (.string (⟨#[]⟩ : ByteArray)) := (blk_cell BK233.out 4).trans rfl; have hfz7_0 := blk_frozen BK233.out 0; have hfz7_1 := blk_frozen BK233.out 1; have hfz7_2 := blk_frozen BK233.out 2; have hfz7_3 := blk_frozen BK233.out 3; have hfz7_4 := blk_frozen BK233.out 4) | ((with_reducible refine gate_builtin (b := .append) (xs := #[.tmp 15, .tmp 17]) rfl ?_); at_builtin; refine Kd.R_append k68 (w0 := w) w.heap.size rfl (.tmp 15) (.tmp 17) 67 68 (.agg #[(.string ⟨#[]⟩), (.int .i64 0), (.int .i64 0), (.int .i64 0), (.string ⟨#[]⟩)]) 56 rfl Try.underlying67 info68 rfl (by decide) (by omega) u3 x3_1 (⟨(rd_T49 l0 x11_1).f0, (rd_T49 l0 x11_1).f1, (rd_T49 l0 x11_1).f2, (rd_T49 l0 x11_1).f3, (rd_T49 l0 x11_1).f4⟩ : S68) [.string ((rd_T49 l0 x11_1).f0), .int .i64 ((rd_T49 l0 x11_1).f1), .int .i64 ((rd_T49 l0 x11_1).f2), .int .i64 ((rd_T49 l0 x11_1).f3), .string ((rd_T49 l0 x11_1).f4)] (fun _ => True) (fun _ => False) rfl (by first | (go_simp; done) | (go_simp; rfl)) ?aP (fun _ hk => hk.elim) ?aF ?aO ?aB ?aS ?aL ?_; (case aP => exact k68_mkM _ _ _ (⟨(rd_T49 l0 x11_1).f0, (rd_T49 l0 x11_1).f1, (rd_T49 l0 x11_1).f2, (rd_T49 l0 x11_1).f3, (rd_T49 l0 x11_1).f4⟩ : S68)); (case aB => exact (by repeat (first | (with_reducible first | exact HB.out | apply below_alloc | apply pw_below_drewN | apply below_drew1 | refine below_set ?_ GE233.out) | exact HB.out))); (case aF => exact (fun _ _ => trivial)); (case aO => exact (by (with_reducible repeat (first | apply Kd.R_alloc | apply Kd.R_drewN | apply Kd.R_drew)); exact Kd.R_mono (Kd.R_far (p := ⟨gb233, 4, none⟩) (Kd.R_far (p := ⟨gb233, 3, none⟩) (Kd.R_far (p := ⟨gb233, 2, none⟩) (Kd.R_far (p := ⟨gb233, 1, none⟩) (Kd.R_far (p := ⟨gb233, 0, none⟩) (Kd.R_types HO_3.out BK233.out (by decide)) (fun _ hk => hk.2) (.string ((rd_T49 l0 x11_1).f0))) (fun _ hk => hk.2) (.int .i64 ((rd_T49 l0 x11_1).f1))) (fun _ hk => hk.2) (.int .i64 ((rd_T49 l0 x11_1).f2))) (fun _ hk => hk.2) (.int .i64 ((rd_T49 l0 x11_1).f3))) (fun _ hk => hk.2) (.string ((rd_T49 l0 x11_1).f4))) (fun _ hk => trivial))); (case aS => exact (below_size (by repeat (first | (with_reducible first | exact HB.out | apply below_alloc | apply pw_below_drewN | apply below_drew1 | refine below_set ?_ GE233.out) | exact HB.out)))); (case aL => have := LMc5.out; omega); intro v235 w8 ho hb hg hat; rw [← Ny234.out] at ho; have n0_ := Aside0.mk (blk_grown (g := gb233) (o := .cells #[.string ((rd_T49 l0 x11_1).f0), .int .i64 ((rd_T49 l0 x11_1).f1), .int .i64 ((rd_T49 l0 x11_1).f2), .int .i64 ((rd_T49 l0 x11_1).f3), .string ((rd_T49 l0 x11_1).f4)] 49 (0, 0)) (by (with_reducible repeat (first | refine blk_drewN ?_ _ | refine blk_drew ?_ | refine blk_alloc ?_ _)); refine blk_put (cs := #[.string ((rd_T49 l0 x11_1).f0), .int .i64 ((rd_T49 l0 x11_1).f1), .int .i64 ((rd_T49 l0 x11_1).f2), .int .i64 ((rd_T49 l0 x11_1).f3), .string (⟨#[]⟩ : ByteArray)]) ?_ 4 _ rfl; (with_reducible repeat (first | refine blk_drewN ?_ _ | refine blk_drew ?_ | refine blk_alloc ?_ _)); refine blk_put (cs := #[.string ((rd_T49 l0 x11_1).f0), .int .i64 ((rd_T49 l0 x11_1).f1), .int .i64 ((rd_T49 l0 x11_1).f2), .int .i64 0, .string (⟨#[]⟩ : ByteArray)]) ?_ 3 _ rfl; (with_reducible repeat (first | refine blk_drewN ?_ _ | refine blk_drew ?_ | refine blk_alloc ?_ _)); refine blk_put (cs := #[.string ((rd_T49 l0 x11_1).f0), .int .i64 ((rd_T49 l0 x11_1).f1), .int .i64 0, .int .i64 0, .string (⟨#[]⟩ : ByteArray)]) ?_ 2 _ rfl; (with_reducible repeat (first | refine blk_drewN ?_ _ | refine blk_drew ?_ | refine blk_alloc ?_ _)); refine blk_put (cs := #[.string ((rd_T49 l0 x11_1).f0), .int .i64 0, .int .i64 0, .int .i64 0, .string (⟨#[]⟩ : ByteArray)]) ?_ 1 _ rfl; (with_reducible repeat (first | refine blk_drewN ?_ _ | refine blk_drew ?_ | refine blk_alloc ?_ _)); refine blk_put (cs := #[.string (⟨#[]⟩ : ByteArray), .int .i64 0, .int .i64 0, .int .i64 0, .string (⟨#[]⟩ : ByteArray)]) ?_ 0 _ rfl; (with_reducible repeat (first | refine blk_drewN ?_ _ | refine blk_drew ?_ | refine blk_alloc ?_ _)); exact BK233.out) hg (Kd.R_ne HO_3.out BK233.out (by decide))); have n1_ := Aside0.mk (hb); have n2_ := Aside0.mk (ho); clear BK233; clear HB; clear HO_3; have BK233 := n0_; have HB := n1_; have HO236 := n2_; clear n0_ n1_ n2_; clear ho hb hg hat))
       go_roundg k1
       case measure => have := HK1.out; omega
       case rel => exact ⟨(y234), (wrap64 (x11_1 + 1)), (by first | rfl | (simp; done) | (rw [prx_ne]; first | done | rfl) | (simp [*]; done)), H', ⟨by have := HK1.out; omega⟩, ⟨by (with_reducible repeat (first | apply Kd.R_alloc | apply Kd.R_drewN | apply Kd.R_drew)); exact HO236.out⟩, ⟨by repeat (first | (with_reducible first | exact HB.out | apply below_alloc | apply pw_below_drewN | apply below_drew1 | refine below_set ?_ GE233.out) | exact HB.out)⟩⟩
      ·rw [if_neg c5] at H
       exact absurd H (by simp)
     ·rw [if_neg c4] at H
      exact absurd H (by simp)
    ·rw [if_neg c3] at H
     exact absurd H (by simp)
   ·rw [if_neg c2] at H
    have c2b0 : decide (x11_1 < (l0.length : Int)) = false := decide_eq_false c2
    clear c2
    replace H := Option.bind_eq_some_iff.mp H
    obtain ⟨t237, A90, H⟩ := H
    replace H : (impl_SortAccepted.l1 k1 ([] : List (S49)) t237 (t237.length : Int) 0) = some r := H
    have A9 := Aside0.mk A90
    clear A90
    have H' := Aside0.mk H
    clear H
    obtain ⟨Ao10, co10, eo10⟩ := Kd.R_slice HO_3.out
    subst eo10
    go_wp2_with (first | ((with_reducible refine gate_callee (f := 38) rfl ?_); refine goesL_ (some 21) rfl rfl Try.func38 (by kernel_rfl) rfl #[.slice Ao10 x3_1.length co10] rfl (by (try simp only [List.map_toArray, List.map_cons, List.map_nil]); first | done | rfl | (simp only [List.length_drop, List.length_take]; rfl)) ?_; (with_reducible refine (fiberhelpers_ZzSort.calls _ _ x3_1 t237 _ ?side1 ?side2 A9.out).mono ?_); (case side1 => repeat (first | exact (Kd.R_reads' HO_3.out).2.2 | (with_reducible refine Kd.C_alloc ?_ _) | (with_reducible refine Kd.C_drewN ?_ _) | (with_reducible refine Kd.C_drew ?_))); (case side2 => exact (Kd.R_reads' HO_3.out).2.1); rintro e w11 ⟨v238, rfl, ho0, hb⟩; refine ⟨_, rfl, ?_⟩; have n0_ := Aside0.mk (Kd.R_elder' (by (with_reducible repeat (first | apply Kd.R_alloc | apply Kd.R_drewN | apply Kd.R_drew)); exact HO_3.out) (Kd.R_base ho0) hb); have n1_ := Aside0.mk (Kd.R_lower (Kd.R_new' ho0 (Kd.R_lt (by (with_reducible repeat (first | apply Kd.R_alloc | apply Kd.R_drewN | apply Kd.R_drew)); exact HO_3.out))) (below_size (by repeat (first | (with_reducible first | exact HB.out | apply below_alloc | apply pw_below_drewN | apply below_drew1) | exact HB.out)))); have n2_ := Aside0.mk (below_step (by repeat (first | (with_reducible first | exact HB.out | apply below_alloc | apply pw_below_drewN | apply below_drew1) | exact HB.out)) hb); clear HO_3; clear HB; have HO_3 := n0_; have HO239 := n1_; have HB := n2_; clear n0_ n1_ n2_; (try clear hb); (try clear hb2); (try clear hk); (try clear hi); (try clear ho0); obtain ⟨Ao12, co12, eo12⟩ := Kd.R_slice HO239.out; subst eo12))
    go_loopg [6, 23] k1 (fun kq v6 v23 w' => ∃ (x6_2 : List (S49)) (x23_2 : Int), v23 = .int .i64 x23_2 ∧ Aside0 (impl_SortAccepted.l1 kq x6_2 t237 (t237.length : Int) x23_2 = some r) ∧ Aside0 (kq ≤ k1) ∧ Aside0 (Kd.R k49 49 w' w.heap.size (fun _ => True) v6 x6_2) ∧ Aside0 (Kd.R k68 68 w' w.heap.size (fun _ => True) (.slice Ao12 t237.length co12) t237) ∧ Aside0 (Below w.heap.size w w'))
    case atStart => exact ⟨(([] : List (S49))), (0), (by first | rfl | (simp; done) | (rw [prx_ne]; first | done | rfl) | (simp [*]; done)), H', ⟨Nat.le_refl _⟩, ⟨by first | exact Kd.R_nil _ _ _ _ _ | exact Kd.N_nil _ _ _ _ _ | exact Kd.V_nil _ _ _ _ _ | exact Kd.Q_nil _ _ _ _ _ | exact Kd.S_nil _ _ _ _ _⟩, ⟨by (with_reducible repeat (first | apply Kd.R_alloc | apply Kd.R_drewN | apply Kd.R_drew)); exact Kd.R_mono HO239.out (fun _ hk => trivial)⟩, ⟨by repeat (first | (with_reducible first | exact HB.out | apply below_alloc | apply pw_below_drewN | apply below_drew1) | exact HB.out)⟩⟩
    case round =>
     clear H'
     try clear c2
     try clear c2b0
     try clear p2
     try clear q2
     try clear hx2
     try clear c3
     try clear c3b0
     try clear c4
     try clear c4b0
     try clear c5
     try clear p6
     try clear hcz7_0
     try clear hcz7_1
     try clear hcz7_2
     try clear hcz7_3
     try clear hcz7_4
     try clear hfz7_0
     try clear hfz7_1
     try clear hfz7_2
     try clear hfz7_3
     try clear hfz7_4
     try clear hx232_0
     try clear hx232_1
     try clear hx232_2
     try clear hx232_3
     try clear hx232_4
     try clear p232
     try clear q232
     obtain ⟨x6_2, x23_2, rfl, HA, HK2, HO_6, HO_21, HB⟩ := hrel
     cases gk with
     | zero => exact absurd HA.out (by simp [impl_SortAccepted.l1])
     | succ k2 =>
      have H := HA.out
      clear HA
      simp only [impl_SortAccepted.l1] at H
      by_cases c13 : x23_2 < (t237.length : Int)
      ·rw [if_pos c13] at H
       have c13b0 : decide (x23_2 < (t237.length : Int)) = true := decide_eq_true c13
       clear c13
       by_cases c14 : 0 ≤ x23_2
       ·rw [if_pos c14] at H
        have c14b0 : decide (0 ≤ x23_2) = true := decide_eq_true c14
        clear c14
        by_cases c15 : x23_2 < (t237.length : Int)
        ·rw [if_pos c15] at H
         have c15b0 : decide (x23_2 < (t237.length : Int)) = true := decide_eq_true c15
         clear c15
         by_cases c16 : x6_2.length < 2513169434916
         ·rw [if_pos c16] at H
          have LMc16 := Aside0.mk c16
          clear c16
          obtain ⟨y242, hy242⟩ : ∃ y_ : List (S49), y_ = (x6_2 ++ [(⟨(rd_T68 t237 x23_2).f0, (rd_T68 t237 x23_2).f1, (rd_T68 t237 x23_2).f2, (rd_T68 t237 x23_2).f3, (rd_T68 t237 x23_2).f4⟩ : S49)]) := ⟨_, rfl⟩
          replace H : (impl_SortAccepted.l1 k2 y242 t237 (t237.length : Int) (wrap64 (x23_2 + 1))) = some r := by first | (rw [hy242]; with_reducible exact H) | (have H2_ := (Option.bind_some _ _).symm.trans H; rw [hy242]; with_reducible exact H2_) | (have H2_ := (Option.bind_some _ _).symm.trans H; with_reducible exact H2_) | with_reducible exact H | (rw [hy242]; exact H) | exact H
          have Ny242 := Aside0.mk hy242
          clear hy242
          have H' := Aside0.mk H
          clear H
          have p240 : 0 ≤ (x23_2 : Int) := of_decide_eq_true (by first | (with_reducible assumption) | assumption)
          have q240 : x23_2 < (t237.length : Int) := of_decide_eq_true (by first | (with_reducible assumption) | assumption)
          obtain ⟨ad240, e240, hx240_0, hx240_1, hx240_2, hx240_3, hx240_4⟩ := at_T68 (Kd.R_reads' HO_21.out).2.2 x23_2 p240 q240
          cases e240
          replace p240 := eq_true p240
          replace q240 := eq_true q240
          go_wp2_with (first | ((with_reducible refine gate_dst (N := 8) rfl ?_); refine box_event ?hg (N := 8) ?hd (cs := #[.string (⟨#[]⟩ : ByteArray), .int .i64 0, .int .i64 0, .int .i64 0, .string (⟨#[]⟩ : ByteArray)]) (t := 68) ?hr ?_; (case hd => rfl); (case hg => rfl); (case hr => first | (go_simp; done) | (go_simp; rfl)); intro gb241 hg w17 hbox hb; have n0_ := Aside0.mk (Kd.R_below (by (with_reducible repeat (first | apply Kd.R_alloc | apply Kd.R_drewN | apply Kd.R_drew)); exact HO_6.out) hb); have n1_ := Aside0.mk (Kd.R_below (Kd.R_elderB (by (with_reducible repeat (first | apply Kd.R_alloc | apply Kd.R_drewN | apply Kd.R_drew)); exact HO_21.out) gb241 (Nat.le_of_eq hg.symm)) hb); have n2_ := Aside0.mk (below_step (by repeat (first | (with_reducible first | exact HB.out | apply below_alloc | apply pw_below_drewN | apply below_drew1) | exact HB.out)) hb); have n3_ := Aside0.mk (hbox); have n4_ := Aside0.mk ((by rw [hg]; exact (below_size (by repeat (first | (with_reducible first | exact HB.out | apply below_alloc | apply pw_below_drewN | apply below_drew1) | exact HB.out))) : w.heap.size ≤ gb241)); have n5_ := Aside0.mk ((by rw [hg]; exact (below_size (by repeat (first | (with_reducible first | exact HB.out | apply below_alloc | apply pw_below_drewN | apply below_drew1) | exact HB.out))) : w.heap.size ≤ gb241)); clear HO_6; clear HO_21; clear HB; have HO_6 := n0_; have HO_21 := n1_; have HB := n2_; have BK241 := n3_; have GW241 := n4_; have GE241 := n5_; clear n0_ n1_ n2_ n3_ n4_ n5_; clear hb hbox hg; have hcz18_0 : w17.cell? ⟨gb241, 0, none⟩ = some (.string (⟨#[]⟩ : ByteArray)) := (blk_cell BK241.out 0).trans rfl; have hcz18_1 : w17.cell? ⟨gb241, 1, none⟩ = some (.int .i64 0) := (blk_cell BK241.out 1).trans rfl; have hcz18_2 : w17.cell? ⟨gb241, 2, none⟩ = some (.int .i64 0) := (blk_cell BK241.out 2).trans rfl; have hcz18_3 : w17.cell? ⟨gb241, 3, none⟩ = some (.int .i64 0) := (blk_cell BK241.out 3).trans rfl; have hcz18_4 : w17.cell? ⟨gb241, 4, none⟩ = some (.string (⟨#[]⟩ : ByteArray)) := (blk_cell BK241.out 4).trans rfl; have hfz18_0 := blk_frozen BK241.out 0; have hfz18_1 := blk_frozen BK241.out 1; have hfz18_2 := blk_frozen BK241.out 2; have hfz18_3 := blk_frozen BK241.out 3; have hfz18_4 := blk_frozen BK241.out 4) | ((with_reducible refine gate_builtin (b := .append) (xs := #[.tmp 27, .tmp 29]) rfl ?_); at_builtin; refine Kd.R_append k49 (w0 := w) w.heap.size rfl (.tmp 27) (.tmp 29) 42 49 (.agg #[(.string ⟨#[]⟩), (.int .i64 0), (.int .i64 0), (.int .i64 0), (.string ⟨#[]⟩)]) 56 rfl Try.underlying42 info49 rfl (by decide) (by omega) u6 x6_2 (⟨(rd_T68 t237 x23_2).f0, (rd_T68 t237 x23_2).f1, (rd_T68 t237 x23_2).f2, (rd_T68 t237 x23_2).f3, (rd_T68 t237 x23_2).f4⟩ : S49) [.string ((rd_T68 t237 x23_2).f0), .int .i64 ((rd_T68 t237 x23_2).f1), .int .i64 ((rd_T68 t237 x23_2).f2), .int .i64 ((rd_T68 t237 x23_2).f3), .string ((rd_T68 t237 x23_2).f4)] (fun _ => True) (fun _ => False) rfl (by first | (go_simp; done) | (go_simp; rfl)) ?aP (fun _ hk => hk.elim) ?aF ?aO ?aB ?aS ?aL ?_; (case aP => exact k49_mkM _ _ _ (⟨(rd_T68 t237 x23_2).f0, (rd_T68 t237 x23_2).f1, (rd_T68 t237 x23_2).f2, (rd_T68 t237 x23_2).f3, (rd_T68 t237 x23_2).f4⟩ : S49)); (case aB => exact (by repeat (first | (with_reducible first | exact HB.out | apply below_alloc | apply pw_below_drewN | apply below_drew1 | refine below_set ?_ GE241.out) | exact HB.out))); (case aF => exact (fun _ _ => trivial)); (case aO => exact (by (with_reducible repeat (first | apply Kd.R_alloc | apply Kd.R_drewN | apply Kd.R_drew)); exact Kd.R_mono (Kd.R_far (p := ⟨gb241, 4, none⟩) (Kd.R_far (p := ⟨gb241, 3, none⟩) (Kd.R_far (p := ⟨gb241, 2, none⟩) (Kd.R_far (p := ⟨gb241, 1, none⟩) (Kd.R_far (p := ⟨gb241, 0, none⟩) (Kd.R_types HO_6.out BK241.out (by decide)) (fun _ hk => hk.2) (.string ((rd_T68 t237 x23_2).f0))) (fun _ hk => hk.2) (.int .i64 ((rd_T68 t237 x23_2).f1))) (fun _ hk => hk.2) (.int .i64 ((rd_T68 t237 x23_2).f2))) (fun _ hk => hk.2) (.int .i64 ((rd_T68 t237 x23_2).f3))) (fun _ hk => hk.2) (.string ((rd_T68 t237 x23_2).f4))) (fun _ hk => trivial))); (case aS => exact (below_size (by repeat (first | (with_reducible first | exact HB.out | apply below_alloc | apply pw_below_drewN | apply below_drew1 | refine below_set ?_ GE241.out) | exact HB.out)))); (case aL => have := LMc16.out; omega); intro v243 w19 ho hb hg hat; rw [← Ny242.out] at ho; have n0_ := Aside0.mk (Kd.R_over' (by (with_reducible repeat (first | apply Kd.R_alloc | apply Kd.R_drewN | apply Kd.R_drew)); exact (Kd.R_mono (Kd.R_far (p := ⟨gb241, 4, none⟩) (Kd.R_far (p := ⟨gb241, 3, none⟩) (Kd.R_far (p := ⟨gb241, 2, none⟩) (Kd.R_far (p := ⟨gb241, 1, none⟩) (Kd.R_far (p := ⟨gb241, 0, none⟩) (Kd.R_mono HO_21.out (fun k_ hk => (⟨hk, hk.2⟩ : _ ∧ k_ ≠ gb241))) (fun _ hk => hk.2) (.string ((rd_T68 t237 x23_2).f0))) (fun _ hk => hk.2) (.int .i64 ((rd_T68 t237 x23_2).f1))) (fun _ hk => hk.2) (.int .i64 ((rd_T68 t237 x23_2).f2))) (fun _ hk => hk.2) (.int .i64 ((rd_T68 t237 x23_2).f3))) (fun _ hk => hk.2) (.string ((rd_T68 t237 x23_2).f4))) (fun _ h_ => h_.1))) (Kd.R_typed (by (with_reducible repeat (first | apply Kd.R_alloc | apply Kd.R_drewN | apply Kd.R_drew)); exact (Kd.R_mono (Kd.R_far (p := ⟨gb241, 4, none⟩) (Kd.R_far (p := ⟨gb241, 3, none⟩) (Kd.R_far (p := ⟨gb241, 2, none⟩) (Kd.R_far (p := ⟨gb241, 1, none⟩) (Kd.R_far (p := ⟨gb241, 0, none⟩) (Kd.R_types HO_6.out BK241.out (by decide)) (fun _ hk => hk.2) (.string ((rd_T68 t237 x23_2).f0))) (fun _ hk => hk.2) (.int .i64 ((rd_T68 t237 x23_2).f1))) (fun _ hk => hk.2) (.int .i64 ((rd_T68 t237 x23_2).f2))) (fun _ hk => hk.2) (.int .i64 ((rd_T68 t237 x23_2).f3))) (fun _ hk => hk.2) (.string ((rd_T68 t237 x23_2).f4))) (fun _ h_ => h_.1)))) (by decide) hg); have n1_ := Aside0.mk (blk_grown (g := gb241) (o := .cells #[.string ((rd_T68 t237 x23_2).f0), .int .i64 ((rd_T68 t237 x23_2).f1), .int .i64 ((rd_T68 t237 x23_2).f2), .int .i64 ((rd_T68 t237 x23_2).f3), .string ((rd_T68 t237 x23_2).f4)] 68 (0, 0)) (by (with_reducible repeat (first | refine blk_drewN ?_ _ | refine blk_drew ?_ | refine blk_alloc ?_ _)); refine blk_put (cs := #[.string ((rd_T68 t237 x23_2).f0), .int .i64 ((rd_T68 t237 x23_2).f1), .int .i64 ((rd_T68 t237 x23_2).f2), .int .i64 ((rd_T68 t237 x23_2).f3), .string (⟨#[]⟩ : ByteArray)]) ?_ 4 _ rfl; (with_reducible repeat (first | refine blk_drewN ?_ _ | refine blk_drew ?_ | refine blk_alloc ?_ _)); refine blk_put (cs := #[.string ((rd_T68 t237 x23_2).f0), .int .i64 ((rd_T68 t237 x23_2).f1), .int .i64 ((rd_T68 t237 x23_2).f2), .int .i64 0, .string (⟨#[]⟩ : ByteArray)]) ?_ 3 _ rfl; (with_reducible repeat (first | refine blk_drewN ?_ _ | refine blk_drew ?_ | refine blk_alloc ?_ _)); refine blk_put (cs := #[.string ((rd_T68 t237 x23_2).f0), .int .i64 ((rd_T68 t237 x23_2).f1), .int .i64 0, .int .i64 0, .string (⟨#[]⟩ : ByteArray)]) ?_ 2 _ rfl; (with_reducible repeat (first | refine blk_drewN ?_ _ | refine blk_drew ?_ | refine blk_alloc ?_ _)); refine blk_put (cs := #[.string ((rd_T68 t237 x23_2).f0), .int .i64 0, .int .i64 0, .int .i64 0, .string (⟨#[]⟩ : ByteArray)]) ?_ 1 _ rfl; (with_reducible repeat (first | refine blk_drewN ?_ _ | refine blk_drew ?_ | refine blk_alloc ?_ _)); refine blk_put (cs := #[.string (⟨#[]⟩ : ByteArray), .int .i64 0, .int .i64 0, .int .i64 0, .string (⟨#[]⟩ : ByteArray)]) ?_ 0 _ rfl; (with_reducible repeat (first | refine blk_drewN ?_ _ | refine blk_drew ?_ | refine blk_alloc ?_ _)); exact BK241.out) hg (Kd.R_ne HO_6.out BK241.out (by decide))); have n2_ := Aside0.mk (hb); have n3_ := Aside0.mk (ho); clear HO_21; clear BK241; clear HB; clear HO_6; have HO_21 := n0_; have BK241 := n1_; have HB := n2_; have HO244 := n3_; clear n0_ n1_ n2_ n3_; clear ho hb hg hat))
          go_roundg k2
          case measure => have := HK1.out; have := HK2.out; omega
          case rel => exact ⟨(y242), (wrap64 (x23_2 + 1)), (by first | rfl | (simp; done) | (rw [prx_ne]; first | done | rfl) | (simp [*]; done)), H', ⟨by have := HK1.out; have := HK2.out; omega⟩, ⟨by (with_reducible repeat (first | apply Kd.R_alloc | apply Kd.R_drewN | apply Kd.R_drew)); exact HO244.out⟩, ⟨by (with_reducible repeat (first | apply Kd.R_alloc | apply Kd.R_drewN | apply Kd.R_drew)); exact Kd.R_mono HO_21.out (fun _ hk => trivial)⟩, ⟨by repeat (first | (with_reducible first | exact HB.out | apply below_alloc | apply pw_below_drewN | apply below_drew1 | refine below_set ?_ GE241.out) | exact HB.out)⟩⟩
         ·rw [if_neg c16] at H
          exact absurd H (by simp)
        ·rw [if_neg c15] at H
         exact absurd H (by simp)
       ·rw [if_neg c14] at H
        exact absurd H (by simp)
      ·rw [if_neg c13] at H
       have c13b0 : decide (x23_2 < (t237.length : Int)) = false := decide_eq_false c13
       clear c13
       obtain rfl := Option.some.inj H
       go_wp2
       go_ret
       exact ⟨_, by first | rfl | (simp [errW_none, errW_some] <;> rfl) | (simp [*, errW_none, errW_some] <;> rfl), by (with_reducible repeat (first | apply Kd.R_alloc | apply Kd.R_drewN | apply Kd.R_drew)); exact HO_6.out, by repeat (first | (with_reducible first | exact HB.out | apply below_alloc | apply pw_below_drewN | apply below_drew1) | exact HB.out)⟩
end Go.Proofs.Ytgmjaggkiifdjaa.QA
namespace Go.Proofs.Ytgmjaggkiifdjaa.QA
open Go.Proofs.Ytgmjaggkiifdjaa.Given
open Go.Proofs.Ytgmjaggkiifdjaa.PrX
open Go.RowKit Go.Proofs.YtgmjaggkiifdjaaW.PrintWords Go.Proofs.YtgmjaggkiifdjaaW.PrintLast Go.Proofs.YtgmjaggkiifdjaaW.PrintMore
def impl_Params.l0 : Nat → List ByteArray → List (S36) → Int → Option ((List (S36)))
  | 0, _, _, _ => none
  | k + 1, x5, x6, x7 => if (wrap64 (x7 + 1)) < (x5.length : Int) then (if 0 ≤ x7 then (if x7 < (x5.length : Int) then (if 0 ≤ (wrap64 (x7 + 1)) then (if x6.length < 4398046511104 then (impl_Params.l0 k x5 (x6 ++ [(⟨rdOf ByteArray.empty x5 x7, rdOf ByteArray.empty x5 (wrap64 (x7 + 1))⟩ : S36)]) (wrap64 (x7 + 2))) else (none)) else (none)) else (none)) else (none)) else (some x6)
def impl_Params.f (k : Nat) (a0 : ByteArray) (a1 : Int) : Option ((List (S36))) := (fiberhelpers_ZzParams.f a0 a1).bind fun t168 => (impl_Params.l0 k t168 ([] : List (S36)) 0)
end Go.Proofs.Ytgmjaggkiifdjaa.QA
namespace Go.Proofs.Ytgmjaggkiifdjaa.Given
open Go.RowKit Go.Proofs.YtgmjaggkiifdjaaW.PrintWords Go.Proofs.YtgmjaggkiifdjaaW.PrintLast Go.Proofs.YtgmjaggkiifdjaaW.PrintMore Go.Proofs.Ytgmjaggkiifdjaa.Base Go.Proofs.Ytgmjaggkiifdjaa.Gv Go.Proofs.Ytgmjaggkiifdjaa.QA Go.Proofs.Ytgmjaggkiifdjaa.Srt
theorem cmp5T {a b i j : List UInt8} {c d e f g h : Int} {β : Type} {u v : β} (hc : (!(a == b) || (!(c == d) || (!(e == f) || (!(g == h) || (!(i == j)))))) = true) :
    (if a = b then if c = d then if e = f then if g = h then if i = j then u else v else v else v else v else v) = v := by
  by_cases h1 : a = b
  · rw [if_pos h1]
    by_cases h2 : c = d
    · rw [if_pos h2]
      by_cases h3 : e = f
      · rw [if_pos h3]
        by_cases h4 : g = h
        · rw [if_pos h4]
          by_cases h5 : i = j
          · simp [h1, h2, h3, h4, h5] at hc
          · rw [if_neg h5]
        · rw [if_neg h4]
      · rw [if_neg h3]
    · rw [if_neg h2]
  · rw [if_neg h1]
theorem cmp5F {a b i j : List UInt8} {c d e f g h : Int} {β : Type} {u v : β} (hc : (!(a == b) || (!(c == d) || (!(e == f) || (!(g == h) || (!(i == j)))))) = false) :
    (if a = b then if c = d then if e = f then if g = h then if i = j then u else v else v else v else v else v) = u := by
  simp only [Bool.or_eq_false_iff, Bool.not_eq_false', beq_iff_eq] at hc
  obtain ⟨h1, h2, h3, h4, h5⟩ := hc
  rw [if_pos h1, if_pos h2, if_pos h3, if_pos h4, if_pos h5]
def spec_SortAccepted.f (l : List Sa) : Option (List Sa × Int) := if l.length ≤ 1000000 then some ((sortSp [] l).getD [], if (sortSp [] l).isSome = true then 1 else 2) else none
theorem spec_SortAccepted.calls (A0 : Option Addr) (c0 : Nat) (l : List Sa) (r1 : List Sa) (r2 : Int) (w : World) (hr : Kd.C k50 w A0 l.length l) (hc : l.length ≤ c0) (h : spec_SortAccepted.f l = some (r1, r2)) :
    Calls Try.prog 20 #[.slice A0 l.length c0] w fun e w' => ∃ v0_ : Value, e = .returned (.tuple #[v0_, .int .i64 r2]) ∧ Kd.R k50 50 w' w.heap.size (fun _ => True) v0_ r1 ∧ Below w.heap.size w w' := by
  unfold spec_SortAccepted.f at h
  by_cases hl : l.length ≤ 1000000
  · rw [if_pos hl] at h
    have e := Option.some.inj h
    have e1 : (sortSp [] l).getD [] = r1 := congrArg Prod.fst e
    have e2 : (if (sortSp [] l).isSome = true then (1 : Int) else 2) = r2 := congrArg Prod.snd e
    rw [← e1, ← e2]
    exact specSort_calls A0 c0 l w hr hl
  · rw [if_neg hl] at h; cases h
def toZ (x : Sa) : S68 := ⟨x.f0, x.f1, x.f2, x.f3, x.f4⟩
theorem soon_L (x y : Sa) : soonB x y = true ↔ L (toZ y) (toZ x) := by
  unfold soonB L toZ
  by_cases h1 : x.f1 = y.f1
  · rw [if_pos h1]
    by_cases h2 : x.f2 = y.f2
    · rw [if_pos h2, decide_eq_true_eq]; simp only; omega
    · rw [if_neg h2, decide_eq_true_eq]; simp only; omega
  · rw [if_neg h1, decide_eq_true_eq]; simp only; omega
theorem conf_R {x y : Sa} (h : confB x y = false) : Rr (toZ x) (toZ y) := by
  intro a b
  have a' : x.f1 = y.f1 := a
  have b' : x.f2 = y.f2 := b
  simp only [confB, a', b', decide_true, Bool.true_and, Bool.or_eq_false_iff, decide_eq_false_iff_not, Bool.not_eq_false', decide_eq_true_eq] at h
  exact h
theorem sortSp_is : ∀ (l out r : List Sa), (out.map toZ).Pairwise (fun x y => L y x) → (out.map toZ).Pairwise Rr → sortSp out l = some r →
    (r.map toZ).Pairwise (fun x y => L y x) ∧ (r.map toZ).Pairwise Rr ∧ r.Perm (out ++ l)
  | [], out, r, h1, h2, h => by
    obtain rfl : out = r := Option.some.inj h
    exact ⟨h1, h2, by rw [List.append_nil]⟩
  | x :: t, out, r, h1, h2, h => by
    rw [sortSp] at h
    split at h
    · cases h
    · split at h
      · cases h
      · rename_i hc
        have hcf : ∀ y ∈ out, confB x y = false := fun y hy => Bool.eq_false_iff.2 (fun g => hc (List.any_eq_true.2 ⟨y, hy, g⟩))
        have hp : (insS x out).Perm (x :: out) := by
          unfold insS
          exact List.perm_middle.trans (by rw [List.take_append_drop])
        have hR : ((insS x out).map toZ).Pairwise Rr := by
          refine ((hp.map toZ).pairwise_iff (fun h => Rr_symm h)).2 ?_
          rw [List.map_cons, List.pairwise_cons]
          refine ⟨fun z hz => ?_, h2⟩
          obtain ⟨y, hy, rfl⟩ := List.mem_map.1 hz
          exact conf_R (hcf y hy)
        have hL : ((insS x out).map toZ).Pairwise (fun a b => L b a) := by
          obtain ⟨n, hn⟩ : ∃ n, out.findIdx (soonB x) = n := ⟨_, rfl⟩
          have hni : n ≤ out.length := by rw [← hn]; exact List.findIdx_le_length
          have hat : ∀ (i j : Nat) (hi : i < out.length) (hj : j < out.length), i < j → L (toZ out[j]) (toZ out[i]) := by
            intro i j hi hj hij
            have := List.pairwise_iff_getElem.1 h1 i j (by rw [List.length_map]; exact hi) (by rw [List.length_map]; exact hj) hij
            rw [List.getElem_map, List.getElem_map] at this
            exact this
          have hbefore : ∀ y ∈ out.take n, L (toZ x) (toZ y) := by
            intro y hy
            obtain ⟨i, hi, rfl⟩ := List.getElem_of_mem hy
            rw [List.length_take] at hi
            rw [List.getElem_take]
            have h3 : soonB x out[i] = false := List.not_of_lt_findIdx (by rw [hn]; omega)
            have hR2 := Rr_symm (conf_R (hcf out[i] (List.getElem_mem (by omega))))
            exact L_totalR hR2 (fun g => by rw [(soon_L x out[i]).2 g] at h3; cases h3)
          have hafter : ∀ y ∈ out.drop n, L (toZ y) (toZ x) := by
            intro y hy
            obtain ⟨i, hi, rfl⟩ := List.getElem_of_mem hy
            rw [List.length_drop] at hi
            rw [List.getElem_drop]
            have hlt : n < out.length := by omega
            have h3 : soonB x out[n] = true := by
              have hlt2 : out.findIdx (soonB x) < out.length := by rw [hn]; exact hlt
              have := List.findIdx_getElem (w := hlt2)
              simp only [hn] at this
              exact this
            have h4 := (soon_L x out[n]).1 h3
            rcases Nat.eq_zero_or_pos i with h0 | h0
            · subst h0; exact h4
            · exact L_trans (hat n (n + i) hlt (by omega) (by omega)) h4
          have htake : ((out.take n).map toZ).Pairwise (fun a b => L b a) := by rw [List.map_take]; exact h1.sublist (List.take_sublist _ _)
          have hdrop : ((out.drop n).map toZ).Pairwise (fun a b => L b a) := by rw [List.map_drop]; exact h1.sublist (List.drop_sublist _ _)
          unfold insS
          rw [hn, List.map_append, List.map_cons, List.pairwise_append, List.pairwise_cons]
          refine ⟨htake, ⟨fun z hz => ?_, hdrop⟩, fun a ha b hb => ?_⟩
          · obtain ⟨y, hy, rfl⟩ := List.mem_map.1 hz
            exact hafter y hy
          · obtain ⟨y, hy, rfl⟩ := List.mem_map.1 ha
            rcases List.mem_cons.1 hb with rfl | hb
            · exact hbefore y hy
            · obtain ⟨z, hz, rfl⟩ := List.mem_map.1 hb
              exact L_trans (hafter z hz) (hbefore y hy)
        obtain ⟨k1, k2, k3⟩ := sortSp_is t (insS x out) r hL hR h
        refine ⟨k1, k2, k3.trans ?_⟩
        refine (hp.append_right t).trans ?_
        rw [List.cons_append]
        exact List.perm_middle.symm
theorem sort_says (l r : List Sa) (h : sortSp [] l = some r) : sortS (l.map toZ) = r.map toZ := by
  obtain ⟨k1, k2, k3⟩ := sortSp_is l [] r (by simp) (by simp) h
  rw [List.nil_append] at k3
  have hR : (l.map toZ).Pairwise Rr := ((k3.map toZ).pairwise_iff (fun h => Rr_symm h)).1 k2
  refine sorted_one _ _ (sortS_pw _ hR) k1 ?_
  exact (sortS_sortedR _ hR).2.trans (k3.map toZ).symm
end Go.Proofs.Ytgmjaggkiifdjaa.Given
namespace Go.Proofs.Ytgmjaggkiifdjaa.Base
open Go.RowKit Go.Proofs.Ytgmjaggkiifdjaa.QA Go.Proofs.YtgmjaggkiifdjaaW.PrintWords Go.Proofs.YtgmjaggkiifdjaaW.PrintLast Go.Proofs.Ytgmjaggkiifdjaa.Given Go.Proofs.Ytgmjaggkiifdjaa.Srt
theorem fits7_from (l : List S49) (hl : l.length ≤ 2147483647) (d : Nat) : ∀ i : Nat, i + d = l.length → ∃ b, Ev (fun k => laws_zzFits7.l0 k l (l.length : Int) (i : Int)) b := by
  induction d with
  | zero =>
    intro i hi
    exact ⟨true, Ev.step (f := fun _ => some true) (fun k => by simp only [laws_zzFits7.l0]; rw [if_neg (by omega)]) (Ev.now _)⟩
  | succ d ih =>
    intro i hi
    obtain ⟨b, hb⟩ := ih (i + 1) (by omega)
    obtain ⟨c, hc⟩ : ∃ c, laws_zzFits8.f ((rd_T49 l i).f0) ((rd_T49 l i).f1) ((rd_T49 l i).f2) ((rd_T49 l i).f3) ((rd_T49 l i).f4) = some c := by
      unfold laws_zzFits8.f
      split
      · exact ⟨_, rfl⟩
      · split
        · exact ⟨_, rfl⟩
        · exact ⟨_, rfl⟩
    refine ⟨if c = true then b else false, Ev.step (f := fun k => (some c).bind fun t => if t = true then laws_zzFits7.l0 k l (l.length : Int) ((i + 1 : Nat) : Int) else some false) (fun k => ?_) ?_⟩
    · simp only [laws_zzFits7.l0]
      rw [if_pos (by omega), if_pos (by omega), if_pos (by omega), hc, wrap_add (by omega) (by omega)]
      rfl
    · refine Ev.call (a := c) rfl ?_
      cases c
      · exact Ev.if_false (by simp) (Ev.now _)
      · exact Ev.if_true rfl hb
theorem fits7_ends (l : List S49) : ∃ b, Ev (fun k => laws_zzFits7.f k l) b := by
  by_cases h : (l.length : Int) > 2147483647
  · exact ⟨false, by simp only [laws_zzFits7.f]; exact Ev.if_true h (Ev.now _)⟩
  · obtain ⟨b, hb⟩ := fits7_from l (by omega) l.length 0 (by omega)
    exact ⟨b, by simp only [laws_zzFits7.f]; exact Ev.if_false h hb⟩
def to75 (x : S49) : S68 := ⟨x.f0, x.f1, x.f2, x.f3, x.f4⟩
def to26 (x : S68) : S49 := ⟨x.f0, x.f1, x.f2, x.f3, x.f4⟩
theorem in_from (l : List S49) (hl : l.length ≤ 1000000) (r : List S49) (hr : Ev (fun k => (fiberhelpers_ZzSort.f (l.map to75)).bind fun t => impl_SortAccepted.l1 k ([] : List S49) t (t.length : Int) 0) r) (d : Nat) : ∀ i : Nat, i + d = l.length → Ev (fun k => impl_SortAccepted.l0 k ((l.take i).map to75) l (l.length : Int) (i : Int)) r := by
  induction d with
  | zero =>
    intro i hi
    refine Ev.step (f := fun k => (fiberhelpers_ZzSort.f (l.map to75)).bind fun t => impl_SortAccepted.l1 k ([] : List S49) t (t.length : Int) 0) (fun k => ?_) hr
    simp only [impl_SortAccepted.l0]
    rw [if_neg (by omega), List.take_of_length_le (by omega)]
  | succ d ih =>
    intro i hi
    have hlt : i < l.length := by omega
    refine Ev.step (f := fun k => impl_SortAccepted.l0 k ((l.take (i + 1)).map to75) l (l.length : Int) ((i + 1 : Nat) : Int)) (fun k => ?_) (ih (i + 1) (by omega))
    simp only [impl_SortAccepted.l0]
    rw [if_pos (by omega), if_pos (by omega), if_pos (by omega), if_pos (by rw [List.length_map, List.length_take]; omega), wrap_add (by omega) (by omega), List.take_succ_eq_append_getElem hlt, List.map_append]
    have e : rd_T49 l (i : Int) = l[i] := by unfold rd_T49; rw [Int.toNat_natCast, List.getD_eq_getElem?_getD, List.getElem?_eq_getElem hlt]; rfl
    rw [e]
    rfl
theorem out_from (t : List S68) (hl : t.length ≤ 1000000) (d : Nat) : ∀ i : Nat, i + d = t.length → Ev (fun k => impl_SortAccepted.l1 k ((t.take i).map to26) t (t.length : Int) (i : Int)) (t.map to26) := by
  induction d with
  | zero =>
    intro i hi
    refine Ev.step (f := fun _ => some (t.map to26)) (fun k => ?_) (Ev.now _)
    simp only [impl_SortAccepted.l1]
    rw [if_neg (by omega), List.take_of_length_le (by omega)]
  | succ d ih =>
    intro i hi
    have hlt : i < t.length := by omega
    refine Ev.step (f := fun k => impl_SortAccepted.l1 k ((t.take (i + 1)).map to26) t (t.length : Int) ((i + 1 : Nat) : Int)) (fun k => ?_) (ih (i + 1) (by omega))
    simp only [impl_SortAccepted.l1]
    rw [if_pos (by omega), if_pos (by omega), if_pos (by omega), if_pos (by rw [List.length_map, List.length_take]; omega), wrap_add (by omega) (by omega), List.take_succ_eq_append_getElem hlt, List.map_append]
    have e : rd_T68 t (i : Int) = t[i] := by unfold rd_T68; rw [Int.toNat_natCast, List.getD_eq_getElem?_getD, List.getElem?_eq_getElem hlt]; rfl
    rw [e]
    rfl
def sorted26 (l : List S49) : List S49 := (sortS (l.map to75)).map to26
theorem sort_ends (l : List S49) (hl : l.length ≤ 1000000) (hq : ∀ x ∈ l, 0 ≤ x.f1 ∧ x.f1 ≤ 1000) : Ev (fun k => impl_SortAccepted.f k l) (sorted26 l) := by
  simp only [impl_SortAccepted.f]
  refine in_from l hl _ ?_ l.length 0 (by omega)
  have hz : fiberhelpers_ZzSort.f (l.map to75) = some (sortS (l.map to75)) := if_pos ⟨by rw [List.length_map]; exact hl, by
    rw [List.all_eq_true]
    intro y hy
    obtain ⟨x, hx, rfl⟩ := List.mem_map.1 hy
    have := hq x hx
    simp only [Bool.and_eq_true, decide_eq_true_eq]
    exact this⟩
  refine Ev.call hz ?_
  exact out_from _ (by rw [sortS_length, List.length_map]; exact hl) (sortS (l.map to75)).length 0 (by omega)
end Go.Proofs.Ytgmjaggkiifdjaa.Base
