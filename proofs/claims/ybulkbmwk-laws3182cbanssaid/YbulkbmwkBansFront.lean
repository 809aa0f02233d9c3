import Derived.Test.YbulkbmwkBansT6
import Derived.Test.YbulkbmwkBansS5
namespace Go.Proofs.Ybulkbmwk
open Go.RowKit Go.Maps

set_option maxHeartbeats 1000000 in
set_option maxRecDepth 100000 in
/-- A MAP IS MADE. -/
theorem bans_yes (aK aV aO : Option Addr) (cK cV cO : Nat) (KS VS OS : List ByteArray) (src : ByteArray) (nilB : Bool) (w : World) (hK : StrRow w aK KS) (hV : StrRow w aV VS) (hO : StrRow w aO OS) (hsrc : src.size ≤ maxLen)
    (h1 : KS.length ≤ 512) (h2 : VS.length ≤ 512) (h3 : OS.length ≤ 512) (hB : (nilB && decide (OS.length = 0)) = false) :
    Calls Yba.prog 5 #[.slice aK KS.length cK, .slice aV VS.length cV, .slice aO OS.length cO, .string src, .bool nilB] w fun e w' => e = .returned (.bool true) ∧ Below w.heap.size w w' := by
  have HB : Hid ((nilB && decide (OS.length = 0)) = false) := hB
  clear hB
  by_cases hlt : VS.length < KS.length
  all_goals
    go_enter Yba.func5, Yba.ntmps5
    refine wp_seq_k (x := stmtN 0 (Yba.f5.body.getD .skip)) (y := tailN 1 (Yba.f5.body.getD .skip)) ?_
    intro K hk
    have HK : Hid _ := hk
    clear hk
    conv => arg 2; whnf
    go_wp2_with fail
    refine HK.out _ _ ?_
    clear HK K
    refine wp_seq_k (x := stmtN 1 (Yba.f5.body.getD .skip)) (y := tailN 2 (Yba.f5.body.getD .skip)) ?_
    intro K hk
    have HK : Hid _ := hk
    clear hk
    conv => arg 2; whnf
    go_wp2_with fail
    refine HK.out _ _ ?_
    clear HK K
    refine wp_seq_k (x := stmtN 2 (Yba.f5.body.getD .skip)) (y := tailN 3 (Yba.f5.body.getD .skip)) ?_
    intro K hk
    have HK : Hid _ := hk
    clear hk
    conv => arg 2; whnf
    go_wp2_with fail
    refine HK.out _ _ ?_
    clear HK K
    refine wp_seq_k (x := stmtN 3 (Yba.f5.body.getD .skip)) (y := tailN 4 (Yba.f5.body.getD .skip)) ?_
    intro K hk
    have HK : Hid _ := hk
    clear hk
    conv => arg 2; whnf
    go_wp2_with fail
    refine HK.out _ _ ?_
    clear HK K
    refine wp_seq_k (x := stmtN 4 (Yba.f5.body.getD .skip)) (y := tailN 5 (Yba.f5.body.getD .skip)) ?_
    intro K hk
    have HK : Hid _ := hk
    clear hk
    conv => arg 2; whnf
    go_wp2_with fail
    refine HK.out _ _ ?_
    clear HK K
    refine wp_seq (x := stmtN 5 (Yba.f5.body.getD .skip)) (y := tailN 6 (Yba.f5.body.getD .skip)) ?_
    refine bans_s5 aK aV aO cK cV cO KS VS OS src nilB _ w hK hV (by omega) (by omega) (by omega) HB.out _ _ ?_ _ _ _ _ _ _ _ _ _ _ _ _ _ _ _ _ _ _ _ _ _ _ _ _ _ _ _ _ _ _ _ _ _ _ _ _ _ _ _ _ _ _ _ _ _ _ _ _ _ _ _ _ _ _ _ _ _ _ _ _ _ _ _ _ _ _ _ _ _ _ _ _ _ _ _ _ _ _ _ _ _ _ _ _ _ _ _ _ _ _ _ _ _ _ _ _ _ _ _ _ _ _ _ _ _ _ _ _ _ _ _ _ _ _ _ _ _ _ _ _ _ _ _ _ _ _ _ _ _ _ _ _ _ _ _ _ _ _ _ _ _ _ _ _ _ _ _ _ _ _ _ _ _ _ _ _ _ _ _ _ _ _ _ _ _ _ _ _ _ _ _ _ _ _ _ _ _ _ _ _ _ _ _ _ _ _ _ _ _ _ _ _ _ _ _ _ _ _ _ _ _ _ _
    intro wx v5 v6 v7 v8 v9 v10 v13 v14 v15 v16 v17 v18 v19 v20 v21 v22 v23 v24 v25 v26 v27 v28 v29 v30 v31 v32 v33 v34 v35 v36 v37 v38 v39 v40 v41 v42 v43 v44 v45 v46 v47 v48 v49 v50 v51 v52 v53 v54 v55 v56 v57 v58 v59 v60 v61 v62 v63 v64 v65 v66 v67 v68 v69 v70 v71 v72 v73 v74 v75 v76 v77 v78 v79 v80 v81 v82 v83 v84 v85 v86 v87 v88 v89 v90 v91 v92 v93 v94 v95 v96 v97 v98 v99 v100 v101 v102 v103 v104 v105 v106 v107 v108 v109 v110 v111 v112 v113 v114 v115 v116 v117 v118 v119 v120 v121 v122 v123 v124 v125 v126 v127 v128 v129 v130 v131 v132 v133 v134 v135 v136 v137 v138 v139 v140 v141 v142 v143 v144 v145 v146 v147 v148 v149 v150 v151 v152 v153 v154 v155 v156 v157 v158 v159 v160 v161 v162 v163 v164 v165 v166 v167 v168 v169 v170 v171 v172 v173 v174 v175 v176 v177 v178 v179 v180 v181 v182 v183 v184 v185 v186 v187 v188 v189 v190 v191 v192 v193 v194 v195 v196 v197 v198 v199 v200 v201 v202 v203 v204 v205 v206 v207 v208 v209 hM hbl
    exact bans_t6 aK aV aO cK cV cO KS VS OS src _ w wx hK hV hO hsrc (by omega) (by omega) (by omega) h3 hM hbl _ _ _ _ _ _ _ _ _ _ _ _ _ _ _ _ _ _ _ _ _ _ _ _ _ _ _ _ _ _ _ _ _ _ _ _ _ _ _ _ _ _ _ _ _ _ _ _ _ _ _ _ _ _ _ _ _ _ _ _ _ _ _ _ _ _ _ _ _ _ _ _ _ _ _ _ _ _ _ _ _ _ _ _ _ _ _ _ _ _ _ _ _ _ _ _ _ _ _ _ _ _ _ _ _ _ _ _ _ _ _ _ _ _ _ _ _ _ _ _ _ _ _ _ _ _ _ _ _ _ _ _ _ _ _ _ _ _ _ _ _ _ _ _ _ _ _ _ _ _ _ _ _ _ _ _ _ _ _ _ _ _ _ _ _ _ _ _ _ _ _ _ _ _ _ _ _ _ _ _ _ _ _ _ _ _ _ _ _ _ _ _ _ _ _ _ _ _ _ _ _ _ _ _

set_option maxHeartbeats 1000000 in
set_option maxRecDepth 100000 in
/-- NO MAP, NO ONLINE NODE. -/
theorem bans_nil (aK aV aO : Option Addr) (cK cV cO : Nat) (KS VS : List ByteArray) (src : ByteArray) (w : World) (h1 : KS.length ≤ 512) (h2 : VS.length ≤ 512) :
    Calls Yba.prog 5 #[.slice aK KS.length cK, .slice aV VS.length cV, .slice aO 0 cO, .string src, .bool true] w fun e w' => e = .returned (.bool true) ∧ Below w.heap.size w w' := by
  have hnil : ∀ (w : World) (r : Option Nat), (binOp .eql 51 (.map r) (.map none)).run Yba.prog w = .ok (.bool r.isNone) w := fun w r => run_eql_map_nil w _ _ _ r Yba.underlying51
  have hb61 := bd61
  have hb74 := bd74
  have hmk : ∀ w, (Instr.makeSlice 52 (.int .i64 0) (.int .i64 0)).run Yba.prog w = .ok (.slice (some ⟨w.heap.size, 0, none⟩) 0 0) (w.alloc (.cells #[] 55)) := fun w => (mk52 0 (by omega) w).trans (by simp [madeCells, Array.range_zero'])
  by_cases hlt : VS.length < KS.length
  all_goals
    go_enter Yba.func5, Yba.ntmps5
    refine wp_seq_k (x := stmtN 0 (Yba.f5.body.getD .skip)) (y := tailN 1 (Yba.f5.body.getD .skip)) ?_
    intro K hk
    have HK : Hid _ := hk
    clear hk
    conv => arg 2; whnf
    go_wp2_with fail
    refine HK.out _ _ ?_
    clear HK K
    refine wp_seq_k (x := stmtN 1 (Yba.f5.body.getD .skip)) (y := tailN 2 (Yba.f5.body.getD .skip)) ?_
    intro K hk
    have HK : Hid _ := hk
    clear hk
    conv => arg 2; whnf
    go_wp2_with fail
    refine HK.out _ _ ?_
    clear HK K
    refine wp_seq_k (x := stmtN 2 (Yba.f5.body.getD .skip)) (y := tailN 3 (Yba.f5.body.getD .skip)) ?_
    intro K hk
    have HK : Hid _ := hk
    clear hk
    conv => arg 2; whnf
    go_wp2_with fail
    refine HK.out _ _ ?_
    clear HK K
    refine wp_seq_k (x := stmtN 3 (Yba.f5.body.getD .skip)) (y := tailN 4 (Yba.f5.body.getD .skip)) ?_
    intro K hk
    have HK : Hid _ := hk
    clear hk
    conv => arg 2; whnf
    go_wp2_with fail
    refine HK.out _ _ ?_
    clear HK K
    refine wp_seq_k (x := stmtN 4 (Yba.f5.body.getD .skip)) (y := tailN 5 (Yba.f5.body.getD .skip)) ?_
    intro K hk
    have HK : Hid _ := hk
    clear hk
    conv => arg 2; whnf
    go_wp2_with fail
    refine HK.out _ _ ?_
    clear HK K
    refine wp_seq_k (x := stmtN 5 (Yba.f5.body.getD .skip)) (y := tailN 6 (Yba.f5.body.getD .skip)) ?_
    intro K hk
    have HK : Hid _ := hk
    clear hk
    conv => arg 2; whnf
    go_wp2_with fail
    refine HK.out _ _ ?_
    clear HK K
    refine wp_seq_k (x := stmtN 6 (Yba.f5.body.getD .skip)) (y := tailN 7 (Yba.f5.body.getD .skip)) ?_
    intro K hk
    have HK : Hid _ := hk
    clear hk
    conv => arg 2; whnf
    go_wp2_with fail
    refine HK.out _ _ ?_
    clear HK K
    refine wp_seq (x := stmtN 7 (Yba.f5.body.getD .skip)) (y := tailN 8 (Yba.f5.body.getD .skip)) ?_
    refine bans_s7 aK aV aO cK cV cO KS VS [] src _ w.heap.size none _ (fun wx hg => ⟨by simp, by simp, fun h => by simp at h⟩) (by simp) (fun j hj => by simp at hj) _ _ ?_ _ _ _ _ _ _ _ _ _ _ _ _ _ _ _ _ _ _ _ _ _ _ _ _ _ _ _ _ _ _ _ _ _ _ _ _ _ _ _ _ _ _ _ _ _ _ _ _ _ _ _ _ _ _ _ _ _ _ _ _ _ _ _ _ _ _ _ _ _ _ _ _ _ _ _ _ _ _ _ _ _ _ _ _ _ _ _ _ _ _ _ _ _ _ _ _ _ _ _ _ _ _ _ _ _ _ _ _ _ _ _ _ _ _ _ _ _ _ _ _ _ _ _ _ _ _ _ _ _ _ _ _ _ _ _ _ _ _ _ _ _ _ _ _ _ _ _ _ _ _ _ _ _ _ _ _ _ _ _ _ _ _ _ _ _ _ _ _ _ _ _ _ _ _ _ _ _ _ _ _ _ _ _ _ _ _ _ _ _ _ _ _ _ _ _ _ _ _ _ _ _ _ _
    intro wx v4 v5 v6 v7 v8 v9 v10 v13 v15 v16 v17 v18 v19 v20 v21 v22 v23 v24 v25 v26 v27 v28 v29 v30 v31 v32 v33 v34 v35 v36 v37 v38 v39 v40 v41 v42 v43 v44 v45 v46 v47 v48 v49 v50 v51 v52 v53 v54 v55 v56 v57 v58 v59 v60 v61 v62 v63 v64 v65 v66 v67 v68 v69 v70 v71 v72 v73 v74 v75 v76 v77 v78 v79 v80 v81 v82 v83 v84 v85 v86 v87 v88 v89 v90 v91 v92 v93 v94 v95 v96 v97 v98 v99 v100 v101 v102 v103 v104 v105 v106 v107 v108 v109 v110 v111 v112 v113 v114 v115 v116 v117 v118 v119 v120 v121 v122 v123 v124 v125 v126 v127 v128 v129 v130 v131 v132 v133 v134 v135 v136 v137 v138 v139 v140 v141 v142 v143 v144 v145 v146 v147 v148 v149 v150 v151 v152 v153 v154 v155 v156 v157 v158 v159 v160 v161 v162 v163 v164 v165 v166 v167 v168 v169 v170 v171 v172 v173 v174 v175 v176 v177 v178 v179 v180 v181 v182 v183 v184 v185 v186 v187 v188 v189 v190 v191 v192 v193 v194 v195 v196 v197 v198 v199 v200 v201 v202 v203 v204 v205 v206 v207 v208 v209 hN hg
    have hbl : Below w.heap.size w wx := ((Below.refl _ w).alloc (Nat.le_refl _) _).grown hg (by simp) (fun k hk => by cases hk; exact Nat.le_refl _)
    have hls := hbl.size
    clear hN hg
    refine wp_seq_k (x := stmtN 8 (Yba.f5.body.getD .skip)) (y := tailN 9 (Yba.f5.body.getD .skip)) ?_
    intro K hk
    have HK : Hid _ := hk
    clear hk
    conv => arg 2; whnf
    go_wp2_with fail
    refine HK.out _ _ ?_
    clear HK K
    refine wp_seq_k (x := stmtN 9 (Yba.f5.body.getD .skip)) (y := tailN 10 (Yba.f5.body.getD .skip)) ?_
    intro K hk
    have HK : Hid _ := hk
    clear hk
    conv => arg 2; whnf
    go_wp2_with fail
    refine HK.out _ _ ?_
    clear HK K
    refine wp_seq_k (x := stmtN 10 (Yba.f5.body.getD .skip)) (y := tailN 11 (Yba.f5.body.getD .skip)) ?_
    intro K hk
    have HK : Hid _ := hk
    clear hk
    conv => arg 2; whnf
    go_wp2_with (go_at_call 12; refine (ban_none _ _ w.heap.size 0 src _ (by simp)).mono ?_; rintro e w3 ⟨rfl, rfl⟩)
    refine HK.out _ _ ?_
    clear HK K
    refine wp_seq_k (x := stmtN 11 (Yba.f5.body.getD .skip)) (y := tailN 12 (Yba.f5.body.getD .skip)) ?_
    intro K hk
    clear hk
    conv => arg 2; whnf
    go_wp2_with fail
    go_ret
    exact ⟨rfl, (hbl.alloc (by omega) _).alloc (by simp; omega) _⟩

set_option maxHeartbeats 1000000 in
set_option maxRecDepth 100000 in
/-- EVERY INPUT. -/
theorem bans_walk (aK aV aO : Option Addr) (cK cV cO : Nat) (KS VS OS : List ByteArray) (src : ByteArray) (nilB : Bool) (w : World) (hK : StrRow w aK KS) (hV : StrRow w aV VS) (hO : StrRow w aO OS) (hsrc : src.size ≤ maxLen) :
    Calls Yba.prog 5 #[.slice aK KS.length cK, .slice aV VS.length cV, .slice aO OS.length cO, .string src, .bool nilB] w fun e w' => e = .returned (.bool true) ∧ Below w.heap.size w w' := by
  by_cases h1 : KS.length ≤ 512
  · by_cases h2 : VS.length ≤ 512
    · by_cases h3 : OS.length ≤ 512
      · by_cases hB : (nilB && decide (OS.length = 0)) = true
        · simp only [Bool.and_eq_true, decide_eq_true_eq] at hB
          obtain ⟨rfl, h0⟩ := hB
          rw [h0]
          exact bans_nil aK aV aO cK cV cO KS VS src w h1 h2
        · exact bans_yes aK aV aO cK cV cO KS VS OS src nilB w hK hV hO hsrc h1 h2 h3 (Bool.eq_false_iff.2 hB)
      · go_enter Yba.func5, Yba.ntmps5
        go_wp2_with fail
        go_ret
        exact ⟨rfl, Below.refl _ _⟩
    · go_enter Yba.func5, Yba.ntmps5
      go_wp2_with fail
      go_ret
      exact ⟨rfl, Below.refl _ _⟩
  · go_enter Yba.func5, Yba.ntmps5
    go_wp2_with fail
    go_ret
    exact ⟨rfl, Below.refl _ _⟩
end Go.Proofs.Ybulkbmwk
