import Derived.Test.YbulkbmwkAgreeT8
import Derived.Deep.OwnRows
namespace Go.Proofs.Ybulkbmwk
open Go.RowKit

theorem mk22 (n : Nat) (hn : n ≤ 1024) (w : World) : (Instr.makeSlice 22 (.int .i64 n) (.int .i64 n)).run Yba.prog w = .ok (.slice (some ⟨w.heap.size, 0, none⟩) n n) (w.alloc (.cells (madeCells #[.int .i64 0] n) 3)) :=
  run_make_row' 22 3 (.int .i64 0) 8 Yba.underlying22 info3 rfl .i64 .i64 n (by omega) (by omega) w
theorem filled_made (w : World) (Z : List Int) (f g : Nat → Int) :
    Filled ((((w.alloc (.cells (madeCells #[.int .i64 0] Z.length) 3)).alloc (.cells (madeCells #[.int .i64 0] Z.length) 3)).alloc (.cells (madeCells #[.int .i64 0] Z.length) 3)).alloc (.cells (madeCells #[.int .i64 0] Z.length) 3)) w.heap.size (w.heap.size + 1) (w.heap.size + 1 + 1) (w.heap.size + 1 + 1 + 1) Z.length 0 f g := by
  have e1 : (w.alloc (.cells (madeCells #[.int .i64 0] Z.length) 3)).heap.size = w.heap.size + 1 := by simp
  have e2 : ((w.alloc (.cells (madeCells #[.int .i64 0] Z.length) 3)).alloc (.cells (madeCells #[.int .i64 0] Z.length) 3)).heap.size = w.heap.size + 1 + 1 := by simp
  have e3 : (((w.alloc (.cells (madeCells #[.int .i64 0] Z.length) 3)).alloc (.cells (madeCells #[.int .i64 0] Z.length) 3)).alloc (.cells (madeCells #[.int .i64 0] Z.length) 3)).heap.size = w.heap.size + 1 + 1 + 1 := by simp
  refine ⟨?_, ?_, ?_, ?_, ?_, ?_, ?_, ?_⟩
  · exact row_alloc (row_alloc (row_alloc (row_made w _ _ _) (by omega) _) (by omega) _) (by omega) _
  · have h := row_made (w.alloc (.cells (madeCells #[.int .i64 0] Z.length) 3)) Z.length 3 f
    rw [e1] at h
    exact row_alloc (row_alloc h (by omega) _) (by omega) _
  · have h := row_made ((w.alloc (.cells (madeCells #[.int .i64 0] Z.length) 3)).alloc (.cells (madeCells #[.int .i64 0] Z.length) 3)) Z.length 3 g
    rw [e2] at h
    exact row_alloc h (by omega) _
  · have h := row_made (((w.alloc (.cells (madeCells #[.int .i64 0] Z.length) 3)).alloc (.cells (madeCells #[.int .i64 0] Z.length) 3)).alloc (.cells (madeCells #[.int .i64 0] Z.length) 3)) Z.length 3 g
    rw [e3] at h
    exact h
  · exact nofz_alloc (nofz_alloc (nofz_alloc (nofz_made w _ _ _) (by omega) _) (by omega) _) (by omega) _
  · have h := nofz_made (w.alloc (.cells (madeCells #[.int .i64 0] Z.length) 3)) (madeCells #[.int .i64 0] Z.length) Z.length 3
    rw [e1] at h
    exact nofz_alloc (nofz_alloc h (by omega) _) (by omega) _
  · have h := nofz_made ((w.alloc (.cells (madeCells #[.int .i64 0] Z.length) 3)).alloc (.cells (madeCells #[.int .i64 0] Z.length) 3)) (madeCells #[.int .i64 0] Z.length) Z.length 3
    rw [e2] at h
    exact nofz_alloc h (by omega) _
  · have h := nofz_made (((w.alloc (.cells (madeCells #[.int .i64 0] Z.length) 3)).alloc (.cells (madeCells #[.int .i64 0] Z.length) 3)).alloc (.cells (madeCells #[.int .i64 0] Z.length) 3)) (madeCells #[.int .i64 0] Z.length) Z.length 3
    rw [e3] at h
    exact h

set_option maxHeartbeats 1000000 in
set_option maxRecDepth 100000 in
/-- EVERY INPUT. -/
theorem agrees_walk (prom : Bool) (a1 a2 : Option Addr) (c1 c2 : Nat) (Z Y : List Int) (sel : Int) (raw : ByteArray) (w : World) (hZ : IntRow w a1 Z) (hY : IntRow w a2 Y) (hY63 : Y.length ≤ maxLen) (hsel : 0 ≤ sel ∧ sel ≤ 255) :
    Calls Yba.prog 3 #[.bool prom, .slice a1 Z.length c1, .slice a2 Y.length c2, .int .u8 sel, .string raw] w fun e w' => e = .returned (.bool true) ∧ Below w.heap.size w w' := by
  by_cases hn : Z.length ≤ 1024
  · have hmk := mk22 Z.length hn
    go_enter Yba.func3, Yba.ntmps3
    refine wp_seq_k (x := partN 0 (Yba.f3.body.getD .skip)) (y := afterN 1 (Yba.f3.body.getD .skip)) ?_
    intro K hk
    have HK : Hid _ := hk
    clear hk
    conv => arg 2; whnf
    go_wp2_with (fail)
    refine HK.out _ _ ?_
    clear HK K
    refine wp_seq_k (x := partN 1 (Yba.f3.body.getD .skip)) (y := afterN 2 (Yba.f3.body.getD .skip)) ?_
    intro K hk
    have HK : Hid _ := hk
    clear hk
    conv => arg 2; whnf
    go_wp2_with (fail)
    refine HK.out _ _ ?_
    clear HK K
    refine wp_seq_k (x := partN 2 (Yba.f3.body.getD .skip)) (y := afterN 3 (Yba.f3.body.getD .skip)) ?_
    intro K hk
    have HK : Hid _ := hk
    clear hk
    conv => arg 2; whnf
    go_wp2_with (fail)
    refine HK.out _ _ ?_
    clear HK K
    refine wp_seq_k (x := partN 3 (Yba.f3.body.getD .skip)) (y := afterN 4 (Yba.f3.body.getD .skip)) ?_
    intro K hk
    have HK : Hid _ := hk
    clear hk
    conv => arg 2; whnf
    go_wp2_with (fail)
    refine HK.out _ _ ?_
    clear HK K
    refine wp_seq_k (x := partN 4 (Yba.f3.body.getD .skip)) (y := afterN 5 (Yba.f3.body.getD .skip)) ?_
    intro K hk
    have HK : Hid _ := hk
    clear hk
    conv => arg 2; whnf
    go_wp2_with (fail)
    refine HK.out _ _ ?_
    clear HK K
    refine wp_seq_k (x := partN 5 (Yba.f3.body.getD .skip)) (y := afterN 6 (Yba.f3.body.getD .skip)) ?_
    intro K hk
    have HK : Hid _ := hk
    clear hk
    conv => arg 2; whnf
    go_wp2_with (fail)
    refine HK.out _ _ ?_
    clear HK K
    refine wp_seq_k (x := partN 6 (Yba.f3.body.getD .skip)) (y := afterN 7 (Yba.f3.body.getD .skip)) ?_
    intro K hk
    have HK : Hid _ := hk
    clear hk
    conv => arg 2; whnf
    go_wp2_with (fail)
    refine HK.out _ _ ?_
    clear HK K
    clear hmk
    refine wp_seq (x := partN 7 (Yba.f3.body.getD .skip)) (y := afterN 8 (Yba.f3.body.getD .skip)) ?_
    refine ag_s7 prom a1 a2 c1 c2 Z Y sel raw w.heap.size (w.heap.size + 1) (w.heap.size + 1 + 1) (w.heap.size + 1 + 1 + 1) w _ hZ hY hn hY63 (filled_made w Z _ _)
      (((((Below.refl _ w).alloc (Nat.le_refl _) _).alloc (by simp) _).alloc (by simp; omega) _).alloc (by simp; omega) _) (by omega) (by omega) (by omega) (by omega) (by omega) (by omega) (by omega) (by omega) (by omega) (by omega) _ _ ?_ _ _ _ _ _ _ _ _ _ _ _ _ _ _ _ _ _ _ _ _ _ _ _ _ _ _ _ _ _ _ _ _ _ _ _ _ _ _ _ _ _ _ _ _ _ _ _ _ _ _ _ _ _ _ _ _ _ _ _ _ _ _ _ _ _ _ _ _ _ _ _ _ _ _ _ _ _ _ _ _ _ _ _ _ _ _ _ _ _ _ _ _ _ _ _ _ _ _ _ _ _ _ _ _ _ _ _ _ _ _ _ _ _ _ _ _ _ _ _ _ _ _ _ _ _ _ _ _ _ _ _ _ _ _ _ _
    intro wx v5 v6 v7 v8 v9 v10 v16 v17 v18 v19 v20 v21 v22 v23 v24 v25 v26 v27 v28 v29 v30 v31 v32 v33 v34 v35 v36 v37 v38 v39 v40 v41 v42 v43 v44 v45 v46 v47 v48 v49 v50 v51 v52 v53 v54 v55 v56 v57 v58 v59 v60 v61 v62 v63 v64 v65 v66 v67 v68 v69 v70 v71 v72 v73 v74 v75 v76 v77 v78 v79 v80 v81 v82 v83 v84 v85 v86 v87 v88 v89 v90 v91 v92 v93 v94 v95 v96 v97 v98 v99 v100 v101 v102 v103 v104 v105 v106 v107 v108 v109 v110 v111 v112 v113 v114 v115 v116 v117 v118 v119 v120 v121 v122 v123 v124 v125 v126 v127 v128 v129 v130 v131 v132 v133 v134 v135 v136 v137 v138 v139 v140 v141 v142 v143 v144 v145 hF hbl hsz
    simp only [World.size_alloc] at hsz
    exact ag_t8 prom sel hsel raw _ _ _ _ Z.length (fZ Z) (gY Y) w wx hn (row_full hF.a) (row_full hF.a0) (row_full hF.b) (row_full hF.b0) (by omega) (by omega) (by omega) (by omega) hbl _ _ _ _ _ _ _ _ _ _ _ _ _ _ _ _ _ _ _ _ _ _ _ _ _ _ _ _ _ _ _ _ _ _ _ _ _ _ _ _ _ _ _ _ _ _ _ _ _ _ _ _ _ _ _ _ _ _ _ _ _ _ _ _ _ _ _ _ _ _ _ _ _ _ _ _ _ _ _ _ _ _ _ _ _ _ _ _ _ _ _ _ _ _ _ _ _ _ _ _ _ _ _ _ _ _ _ _ _ _ _ _ _ _ _ _ _ _ _ _ _ _ _ _ _ _ _ _ _ _ _ _ _ _ _ _ _ _
  · go_enter Yba.func3, Yba.ntmps3
    go_wp2_with fail
    go_ret
    exact ⟨rfl, Below.refl _ _⟩
end Go.Proofs.Ybulkbmwk
