import Derived.Test.YbulkbmwkBansT11
import Derived.Test.YbulkbmwkBansS7
namespace Go.Proofs.Ybulkbmwk
open Go.RowKit Go.Maps

theorem info_parts55 : ∃ i, Yba.prog.info? 55 = some i ∧ i.zero = some (.agg #[.string ByteArray.empty, .string ByteArray.empty, .bool false, .bool false, .map none, .map none, .map none]) ∧ i.size = 7 ∧ i.bytes = 64 := by
  obtain ⟨i, hi, h⟩ := Option.map_eq_some_iff.1 info55
  simp only [Prod.mk.injEq] at h
  exact ⟨i, hi, h.1, h.2.1, h.2.2⟩
/-- 'make([]cib.Node, m)' -/
theorem mk52 (m : Nat) (hm : m ≤ 512) (w : World) : (Instr.makeSlice 52 (.int .i64 m) (.int .i64 m)).run Yba.prog w = .ok (.slice (some ⟨w.heap.size, 0, none⟩) m m) (w.alloc (.cells (madeCells #[.string ByteArray.empty, .string ByteArray.empty, .bool false, .bool false, .map none, .map none, .map none] (m * 7)) 55)) := by
  obtain ⟨i, hi, hz, hs, hb⟩ := info_parts55
  have h := run_make (P := Yba.prog) w 52 55 i _ Yba.underlying52 hi hz .i64 .i64 m m (by omega) (Int.le_refl _) (by rw [hb]; omega) (by omega)
  rw [hs, Int.toNat_natCast] at h
  exact h
theorem there_made (w : World) (z : Array Value) (k : Nat) (t : TypeId) : (w.alloc (.cells (madeCells z k) t)).there w.heap.size 0 k := fun j hj => by
  constructor
  · rw [World.cell?_alloc_new]; simp [size_madeCells, hj]
  · exact World.frozen?_alloc_new _ _ _ _
/-- The cells of the law's cluster. -/
theorem bd61 (w : World) (N m : Nat) : (Instr.build 61 #[(0, .slice (some ⟨N, 0, none⟩) m m)]).run Yba.prog w = .ok (.agg #[.slice (some ⟨N, 0, none⟩) m m, .map none, .slice none 0 0, .slice none 0 0, .slice none 0 0, .bool false, .slice none 0 0, .string ByteArray.empty, .bool false, .bool false, .string ByteArray.empty]) w :=
  run_build w 61 _ _ (by kernel_rfl)
theorem bd74 (w : World) (b : Option Nat) : (Instr.build 74 #[(8, .map b)]).run Yba.prog w = .ok (.agg #[.slice none 0 0, .map none, .slice none 0 0, .bool false, .string ByteArray.empty, .int .i64 0, .slice none 0 0, .map none, .map b, .map none, .map none, .bool false, .map none, .slice none 0 0, .int .i64 0, .int .i64 0, .int .i64 0, .int .i64 0, .int .i64 0, .bool false, .slice none 0 0]) w :=
  run_build w 74 _ _ (by kernel_rfl)

set_option maxHeartbeats 1000000 in
set_option maxRecDepth 100000 in
/-- FROM THE CALL OF banEverywhere ON. -/
theorem bans_t10 (aK aV aO : Option Addr) (cK cV cO : Nat) (KS VS OS : List ByteArray) (src : ByteArray) (n C R N : Nat) (w w2 : World) (hK : StrRow w aK KS) (hV : StrRow w aV VS) (hO : StrRow w aO OS) (hsrc : src.size ≤ maxLen)
    (hn1 : n ≤ KS.length) (hn2 : n ≤ VS.length) (hn3 : n ≤ 512) (hO3 : OS.length ≤ 512) (hM : MapAt w2 w.heap.size n ((KS.zip VS).take n)) (hbl : Below w.heap.size w w2) (hN : NodesAt w2 N OS)
    (hC : w2.cell? ⟨C, 0, none⟩ = some (.slice (some ⟨N, 0, none⟩) OS.length OS.length)) (hR : w2.cell? ⟨R, 8, none⟩ = some (.map (some w.heap.size))) (hNB : N ≠ w.heap.size) (hRB : R ≠ w.heap.size) (hCB : C ≠ w.heap.size) (u4 u5 u6 u7 u8 u9 u10 u13 u14 u15 u18 u19 u20 u21 u22 u23 u24 u25 u26 u27 u28 u29 u30 u31 u32 u33 u34 u35 u36 u37 u38 u39 u40 u41 u42 u43 u44 u45 u46 u47 u48 u49 u50 u51 u52 u53 u54 u55 u56 u57 u58 u59 u60 u61 u62 u63 u64 u65 u66 u67 u68 u69 u70 u71 u72 u73 u74 u75 u76 u77 u78 u79 u80 u81 u82 u83 u84 u85 u86 u87 u88 u89 u90 u91 u92 u93 u94 u95 u96 u97 u98 u99 u100 u101 u102 u103 u104 u105 u106 u107 u108 u109 u110 u111 u112 u113 u114 u115 u116 u117 u118 u119 u120 u121 u122 u123 u124 u125 u126 u127 u128 u129 u130 u131 u132 u133 u134 u135 u136 u137 u138 u139 u140 u141 u142 u143 u144 u145 u146 u147 u148 u149 u150 u151 u152 u153 u154 u155 u156 u157 u158 u159 u160 u161 u162 u163 u164 u165 u166 u167 u168 u169 u170 u171 u172 u173 u174 u175 u176 u177 u178 u179 u180 u181 u182 u183 u184 u185 u186 u187 u188 u189 u190 u191 u192 u193 u194 u195 u196 u197 u198 u199 u200 u201 u202 u203 u204 u205 u206 u207 u208 u209 : Value) :
    Code.wp Yba.prog (tailN 10 (Yba.f5.body.getD .skip)) (bodyPost Yba.prog Yba.f5 fun e w' => e = .returned (.bool true) ∧ Below w.heap.size w w')
      ⟨#[.slice aK KS.length cK, .slice aV VS.length cV, .slice aO OS.length cO, .string src, u4, u5, u6, u7, u8, u9, u10, .int .i64 n, .map (some w.heap.size), u13, u14, u15, .pointer (some ⟨C, 0, none⟩), .pointer (some ⟨R, 0, none⟩), u18, u19, u20, u21, u22, u23, u24, u25, u26, u27, u28, u29, u30, u31, u32, u33, u34, u35, u36, u37, u38, u39, u40, u41, u42, u43, u44, u45, u46, u47, u48, u49, u50, u51, u52, u53, u54, u55, u56, u57, u58, u59, u60, u61, u62, u63, u64, u65, u66, u67, u68, u69, u70, u71, u72, u73, u74, u75, u76, u77, u78, u79, u80, u81, u82, u83, u84, u85, u86, u87, u88, u89, u90, u91, u92, u93, u94, u95, u96, u97, u98, u99, u100, u101, u102, u103, u104, u105, u106, u107, u108, u109, u110, u111, u112, u113, u114, u115, u116, u117, u118, u119, u120, u121, u122, u123, u124, u125, u126, u127, u128, u129, u130, u131, u132, u133, u134, u135, u136, u137, u138, u139, u140, u141, u142, u143, u144, u145, u146, u147, u148, u149, u150, u151, u152, u153, u154, u155, u156, u157, u158, u159, u160, u161, u162, u163, u164, u165, u166, u167, u168, u169, u170, u171, u172, u173, u174, u175, u176, u177, u178, u179, u180, u181, u182, u183, u184, u185, u186, u187, u188, u189, u190, u191, u192, u193, u194, u195, u196, u197, u198, u199, u200, u201, u202, u203, u204, u205, u206, u207, u208, u209], []⟩ w2 := by
  refine wp_seq_k (x := stmtN 10 (Yba.f5.body.getD .skip)) (y := tailN 11 (Yba.f5.body.getD .skip)) ?_
  intro K hk
  have HK : Hid _ := hk
  clear hk
  conv => arg 2; whnf
  go_wp2_with (go_at_call 12; refine (ban_any R C N w.heap.size n OS.length OS src ((KS.zip VS).take n) _ hO3 hO.2.1 hsrc hC hR hN hM hn3 hNB hRB).mono ?_; rintro e w3 ⟨rfl, hM3, hg3⟩)
  refine HK.out _ _ ?_
  clear HK K
  have hB3 := hbl.grown hg3 hbl.size (fun k hk => by cases hk; exact Nat.le_refl _)
  have hR3 := (World.cell?_of_block (a := ⟨R, 8, none⟩) (hg3.block R (World.block_lt_of_cell? _ _ hR) (by simpa using hRB))).trans hR
  have hC3 := (World.cell?_of_block (a := ⟨C, 0, none⟩) (hg3.block C (World.block_lt_of_cell? _ _ hC) (by simpa using hCB))).trans hC
  exact bans_t11 aK aV aO cK cV cO KS VS OS src n w.heap.size R C N OS.length w w3 (hK.below hB3) (hV.below hB3) (hO.below hB3) hn1 hn2 hn3 hO3 hM3 hR3 hC3 hB3 _ _ _ _ _ _ _ _ _ _ _ _ _ _ _ _ _ _ _ _ _ _ _ _ _ _ _ _ _ _ _ _ _ _ _ _ _ _ _ _ _ _ _ _ _ _ _ _ _ _ _ _ _ _ _ _ _ _ _ _ _ _ _ _ _ _ _ _ _ _ _ _ _ _ _ _ _ _ _ _ _ _ _ _ _ _ _ _ _ _ _ _ _ _ _ _ _ _ _ _ _ _ _ _ _ _ _ _ _ _ _ _ _ _ _ _ _ _ _ _ _ _ _ _ _ _ _ _ _ _ _ _ _ _ _ _ _ _ _ _ _ _ _ _ _ _ _ _ _ _ _ _ _ _ _ _ _ _ _ _ _ _ _ _ _ _ _ _ _ _ _ _ _ _ _ _ _ _ _ _ _ _ _ _ _ _ _ _ _ _ _ _ _ _ _ _ _ _ _ _ _ _

set_option maxHeartbeats 1000000 in
set_option maxRecDepth 100000 in
/-- FROM THE MAKING OF THE NODES ON. -/
theorem bans_t6 (aK aV aO : Option Addr) (cK cV cO : Nat) (KS VS OS : List ByteArray) (src : ByteArray) (n : Nat) (w w1 : World) (hK : StrRow w aK KS) (hV : StrRow w aV VS) (hO : StrRow w aO OS) (hsrc : src.size ≤ maxLen)
    (hn1 : n ≤ KS.length) (hn2 : n ≤ VS.length) (hn3 : n ≤ 512) (hO3 : OS.length ≤ 512) (hM : MapAt w1 w.heap.size n ((KS.zip VS).take n)) (hbl : Below w.heap.size w w1) (u4 u5 u6 u7 u8 u9 u10 u13 u14 u15 u16 u17 u18 u19 u20 u21 u22 u23 u24 u25 u26 u27 u28 u29 u30 u31 u32 u33 u34 u35 u36 u37 u38 u39 u40 u41 u42 u43 u44 u45 u46 u47 u48 u49 u50 u51 u52 u53 u54 u55 u56 u57 u58 u59 u60 u61 u62 u63 u64 u65 u66 u67 u68 u69 u70 u71 u72 u73 u74 u75 u76 u77 u78 u79 u80 u81 u82 u83 u84 u85 u86 u87 u88 u89 u90 u91 u92 u93 u94 u95 u96 u97 u98 u99 u100 u101 u102 u103 u104 u105 u106 u107 u108 u109 u110 u111 u112 u113 u114 u115 u116 u117 u118 u119 u120 u121 u122 u123 u124 u125 u126 u127 u128 u129 u130 u131 u132 u133 u134 u135 u136 u137 u138 u139 u140 u141 u142 u143 u144 u145 u146 u147 u148 u149 u150 u151 u152 u153 u154 u155 u156 u157 u158 u159 u160 u161 u162 u163 u164 u165 u166 u167 u168 u169 u170 u171 u172 u173 u174 u175 u176 u177 u178 u179 u180 u181 u182 u183 u184 u185 u186 u187 u188 u189 u190 u191 u192 u193 u194 u195 u196 u197 u198 u199 u200 u201 u202 u203 u204 u205 u206 u207 u208 u209 : Value) :
    Code.wp Yba.prog (tailN 6 (Yba.f5.body.getD .skip)) (bodyPost Yba.prog Yba.f5 fun e w' => e = .returned (.bool true) ∧ Below w.heap.size w w')
      ⟨#[.slice aK KS.length cK, .slice aV VS.length cV, .slice aO OS.length cO, .string src, u4, u5, u6, u7, u8, u9, u10, .int .i64 n, .map (some w.heap.size), u13, u14, u15, u16, u17, u18, u19, u20, u21, u22, u23, u24, u25, u26, u27, u28, u29, u30, u31, u32, u33, u34, u35, u36, u37, u38, u39, u40, u41, u42, u43, u44, u45, u46, u47, u48, u49, u50, u51, u52, u53, u54, u55, u56, u57, u58, u59, u60, u61, u62, u63, u64, u65, u66, u67, u68, u69, u70, u71, u72, u73, u74, u75, u76, u77, u78, u79, u80, u81, u82, u83, u84, u85, u86, u87, u88, u89, u90, u91, u92, u93, u94, u95, u96, u97, u98, u99, u100, u101, u102, u103, u104, u105, u106, u107, u108, u109, u110, u111, u112, u113, u114, u115, u116, u117, u118, u119, u120, u121, u122, u123, u124, u125, u126, u127, u128, u129, u130, u131, u132, u133, u134, u135, u136, u137, u138, u139, u140, u141, u142, u143, u144, u145, u146, u147, u148, u149, u150, u151, u152, u153, u154, u155, u156, u157, u158, u159, u160, u161, u162, u163, u164, u165, u166, u167, u168, u169, u170, u171, u172, u173, u174, u175, u176, u177, u178, u179, u180, u181, u182, u183, u184, u185, u186, u187, u188, u189, u190, u191, u192, u193, u194, u195, u196, u197, u198, u199, u200, u201, u202, u203, u204, u205, u206, u207, u208, u209], []⟩ w1 := by
  refine wp_seq_k (x := stmtN 6 (Yba.f5.body.getD .skip)) (y := tailN 7 (Yba.f5.body.getD .skip)) ?_
  intro K hk
  have HK : Hid _ := hk
  clear hk
  conv => arg 2; whnf
  have hmk := mk52 OS.length hO3
  go_wp2_with fail
  refine HK.out _ _ ?_
  clear HK K hmk
  have hlt1 := hM.lt
  have hBa : Below w.heap.size w (w1.alloc (.cells (madeCells #[.string ByteArray.empty, .string ByteArray.empty, .bool false, .bool false, .map none, .map none, .map none] (OS.length * 7)) 55)) := hbl.alloc (by omega) _
  have hOx : ∀ wx, (w1.alloc (.cells (madeCells #[.string ByteArray.empty, .string ByteArray.empty, .bool false, .bool false, .map none, .map none, .map none] (OS.length * 7)) 55)).grownBy wx (some w1.heap.size) → Below w.heap.size w wx := fun wx hg =>
    hBa.grown hg (by simp; omega) (fun k hk => by cases hk; omega)
  refine wp_seq (x := stmtN 7 (Yba.f5.body.getD .skip)) (y := tailN 8 (Yba.f5.body.getD .skip)) ?_
  refine bans_s7 aK aV aO cK cV cO KS VS OS src n w1.heap.size (some w.heap.size) _ (fun wx hg => hO.below (hOx wx hg)) hO3 (there_made _ _ _ _) _ _ ?_ _ _ _ _ _ _ _ _ _ _ _ _ _ _ _ _ _ _ _ _ _ _ _ _ _ _ _ _ _ _ _ _ _ _ _ _ _ _ _ _ _ _ _ _ _ _ _ _ _ _ _ _ _ _ _ _ _ _ _ _ _ _ _ _ _ _ _ _ _ _ _ _ _ _ _ _ _ _ _ _ _ _ _ _ _ _ _ _ _ _ _ _ _ _ _ _ _ _ _ _ _ _ _ _ _ _ _ _ _ _ _ _ _ _ _ _ _ _ _ _ _ _ _ _ _ _ _ _ _ _ _ _ _ _ _ _ _ _ _ _ _ _ _ _ _ _ _ _ _ _ _ _ _ _ _ _ _ _ _ _ _ _ _ _ _ _ _ _ _ _ _ _ _ _ _ _ _ _ _ _ _ _ _ _ _ _ _ _ _ _ _ _ _ _ _ _ _ _ _ _ _ _ _
  intro wx v4 v5 v6 v7 v8 v9 v10 v13 v15 v16 v17 v18 v19 v20 v21 v22 v23 v24 v25 v26 v27 v28 v29 v30 v31 v32 v33 v34 v35 v36 v37 v38 v39 v40 v41 v42 v43 v44 v45 v46 v47 v48 v49 v50 v51 v52 v53 v54 v55 v56 v57 v58 v59 v60 v61 v62 v63 v64 v65 v66 v67 v68 v69 v70 v71 v72 v73 v74 v75 v76 v77 v78 v79 v80 v81 v82 v83 v84 v85 v86 v87 v88 v89 v90 v91 v92 v93 v94 v95 v96 v97 v98 v99 v100 v101 v102 v103 v104 v105 v106 v107 v108 v109 v110 v111 v112 v113 v114 v115 v116 v117 v118 v119 v120 v121 v122 v123 v124 v125 v126 v127 v128 v129 v130 v131 v132 v133 v134 v135 v136 v137 v138 v139 v140 v141 v142 v143 v144 v145 v146 v147 v148 v149 v150 v151 v152 v153 v154 v155 v156 v157 v158 v159 v160 v161 v162 v163 v164 v165 v166 v167 v168 v169 v170 v171 v172 v173 v174 v175 v176 v177 v178 v179 v180 v181 v182 v183 v184 v185 v186 v187 v188 v189 v190 v191 v192 v193 v194 v195 v196 v197 v198 v199 v200 v201 v202 v203 v204 v205 v206 v207 v208 v209 hN hg
  have hB2 := hOx wx hg
  have hM2 : MapAt wx w.heap.size n ((KS.zip VS).take n) := (hM.block (Below.heap_alloc _ _ _ hlt1)).kept hg (by simp; omega)
  have hgs := hg.size
  rw [World.size_alloc] at hgs
  have hlt2 := hM2.lt
  obtain ⟨N, hNe⟩ : ∃ N, N = w1.heap.size := ⟨_, rfl⟩
  rw [← hNe] at hN hgs
  have hNB : N ≠ w.heap.size := by omega
  have hNwx : N < wx.heap.size := by omega
  rw [← hNe]
  clear hg hOx hBa hM hbl hlt1 hNe
  refine wp_seq_k (x := stmtN 8 (Yba.f5.body.getD .skip)) (y := tailN 9 (Yba.f5.body.getD .skip)) ?_
  intro K hk
  have HK : Hid _ := hk
  clear hk
  conv => arg 2; whnf
  have hb61 := bd61
  go_wp2_with fail
  refine HK.out _ _ ?_
  clear HK K hb61
  refine wp_seq_k (x := stmtN 9 (Yba.f5.body.getD .skip)) (y := tailN 10 (Yba.f5.body.getD .skip)) ?_
  intro K hk
  have HK : Hid _ := hk
  clear hk
  conv => arg 2; whnf
  have hb74 := bd74
  go_wp2_with fail
  refine HK.out _ _ ?_
  clear HK K hb74
  have hP := fun o1 o2 (b : Nat) (hb : b < wx.heap.size) => show ((wx.alloc o1).alloc o2).heap[b]? = wx.heap[b]? from (Below.heap_alloc _ _ _ (by simp; omega)).trans (Below.heap_alloc _ _ _ hb)
  exact bans_t10 aK aV aO cK cV cO KS VS OS src n wx.heap.size (wx.heap.size + 1) N w _ hK hV hO hsrc hn1 hn2 hn3 hO3 (hM2.block (hP _ _ _ hlt2)) ((hB2.alloc (by omega) _).alloc (by simp; omega) _) (hN.block (hP _ _ _ hNwx)) (by simp) (by simp) hNB (by omega) (by omega) _ _ _ _ _ _ _ _ _ _ _ _ _ _ _ _ _ _ _ _ _ _ _ _ _ _ _ _ _ _ _ _ _ _ _ _ _ _ _ _ _ _ _ _ _ _ _ _ _ _ _ _ _ _ _ _ _ _ _ _ _ _ _ _ _ _ _ _ _ _ _ _ _ _ _ _ _ _ _ _ _ _ _ _ _ _ _ _ _ _ _ _ _ _ _ _ _ _ _ _ _ _ _ _ _ _ _ _ _ _ _ _ _ _ _ _ _ _ _ _ _ _ _ _ _ _ _ _ _ _ _ _ _ _ _ _ _ _ _ _ _ _ _ _ _ _ _ _ _ _ _ _ _ _ _ _ _ _ _ _ _ _ _ _ _ _ _ _ _ _ _ _ _ _ _ _ _ _ _ _ _ _ _ _ _ _ _ _ _ _ _ _ _ _ _ _ _ _ _ _ _ _
end Go.Proofs.Ybulkbmwk
