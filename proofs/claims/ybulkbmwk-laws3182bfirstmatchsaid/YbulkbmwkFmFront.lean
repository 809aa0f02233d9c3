import Derived.Test.YbulkbmwkFmT8
namespace Go.Proofs.Ybulkbmwk
open Go.RowKit

theorem info43 : (Yba.prog.info? 43).map (fun i => (i.zero, i.size, i.bytes)) = some (some (.agg #[.string ByteArray.empty, .int .i64 0, .string ByteArray.empty, .string ByteArray.empty]), 4, 56) := by kernel_rfl
/-- 'make([]opDef, m)' -/
theorem mk36 (m : Nat) (hm : m ≤ 1024) (w : World) : (Instr.makeSlice 36 (.int .i64 m) (.int .i64 m)).run Yba.prog w = .ok (.slice (some ⟨w.heap.size, 0, none⟩) m m) (w.alloc (.cells (madeCells #[.string ByteArray.empty, .int .i64 0, .string ByteArray.empty, .string ByteArray.empty] (m * 4)) 43)) := by
  obtain ⟨i, hi, h⟩ := Option.map_eq_some_iff.1 info43
  simp only [Prod.mk.injEq] at h
  obtain ⟨hz, hs, hb⟩ := h
  have h := run_make (P := Yba.prog) w 36 43 i _ Yba.underlying36 hi hz .i64 .i64 m m (by omega) (Int.le_refl _) (by rw [hb]; omega) (by omega)
  rw [hs, Int.toNat_natCast] at h
  exact h
theorem made_there (w : World) (z : Array Value) (k : Nat) (t : TypeId) : (w.alloc (.cells (madeCells z k) t)).there w.heap.size 0 k := fun j hj => by
  constructor
  · rw [World.cell?_alloc_new]; simp [size_madeCells, hj]
  · exact World.frozen?_alloc_new _ _ _ _
theorem bd45 (w : World) (N m : Nat) : (Instr.build 45 #[(0, .slice (some ⟨N, 0, none⟩) m m), (1, .string ⟨#[98, 108, 111, 99, 107]⟩)]).run Yba.prog w = .ok (.agg #[.slice (some ⟨N, 0, none⟩) m m, .string ⟨#[98, 108, 111, 99, 107]⟩]) w :=
  run_build w 45 _ _ (by kernel_rfl)
theorem bd47 (w : World) (onm : ByteArray) (oiv : Int) : (Instr.build 47 #[(0, .int .i64 7), (1, .string onm), (2, .int .i64 0), (3, .int .i64 0), (4, .int .i64 oiv)]).run Yba.prog w = .ok (.agg #[.int .i64 7, .string onm, .int .i64 0, .int .i64 0, .int .i64 oiv]) w :=
  run_build w 47 _ _ (by kernel_rfl)

set_option maxHeartbeats 1000000 in
set_option maxRecDepth 100000 in
/-- FROM THE LIST ON. -/
theorem fm_t4 (a : Option Addr) (cap : Nat) (D : List (Int × Int)) (opN opIv : Int) (extra : ByteArray) (N : Nat) (w w0 : World) (hD : DefRow w0 a D) (hL : ListAt w0 N D.length (fD D extra) (gD D)) (hm : D.length ≤ 1024)
    (h1 : 0 ≤ opN ∧ opN ≤ 255) (h2 : -128 ≤ opIv ∧ opIv ≤ 127) (hbl : Below w.heap.size w w0) (u4 u5 u6 u7 u8 u10 u11 u12 u13 u14 u15 u16 u17 u18 u19 u20 u21 u22 u23 u24 u25 u26 u27 u28 u29 u30 u31 u32 u33 u34 u35 u36 u37 u38 u39 u40 u41 u42 u43 u44 u45 u46 u47 u48 u49 u50 u51 u52 u53 u54 u55 u56 u57 u58 u59 u60 u61 u62 u63 u64 u65 u66 u67 u68 u69 u70 u71 u72 u73 u74 u75 u76 u77 u78 u79 u80 u81 u82 u83 u84 u85 u86 u87 u88 u89 u90 u91 u92 u93 u94 u95 u96 u97 u98 u99 u100 u101 u102 u103 u104 u105 u106 u107 u108 u109 u110 u111 u112 u113 u114 u115 u116 u117 u118 u119 u120 u121 u122 u123 u124 u125 u126 u127 u128 u129 u130 u131 u132 u133 u134 u135 u136 u137 u138 u139 u140 u141 u142 u143 u144 u145 : Value) :
    Code.wp Yba.prog (fromN 4 (Yba.f4.body.getD .skip)) (bodyPost Yba.prog Yba.f4 fun e w' => e = .returned (.bool true) ∧ Below w.heap.size w w') ⟨#[.slice a D.length cap, .int .u8 opN, .int .i8 opIv, .string extra, u4, u5, u6, u7, u8, .slice (some ⟨N, 0, none⟩) D.length D.length, u10, u11, u12, u13, u14, u15, u16, u17, u18, u19, u20, u21, u22, u23, u24, u25, u26, u27, u28, u29, u30, u31, u32, u33, u34, u35, u36, u37, u38, u39, u40, u41, u42, u43, u44, u45, u46, u47, u48, u49, u50, u51, u52, u53, u54, u55, u56, u57, u58, u59, u60, u61, u62, u63, u64, u65, u66, u67, u68, u69, u70, u71, u72, u73, u74, u75, u76, u77, u78, u79, u80, u81, u82, u83, u84, u85, u86, u87, u88, u89, u90, u91, u92, u93, u94, u95, u96, u97, u98, u99, u100, u101, u102, u103, u104, u105, u106, u107, u108, u109, u110, u111, u112, u113, u114, u115, u116, u117, u118, u119, u120, u121, u122, u123, u124, u125, u126, u127, u128, u129, u130, u131, u132, u133, u134, u135, u136, u137, u138, u139, u140, u141, u142, u143, u144, u145], []⟩ w0 := by
  have hb45 := bd45
  have hb47 := bd47
  refine wp_seq_k (x := nthN 4 (Yba.f4.body.getD .skip)) (y := fromN 5 (Yba.f4.body.getD .skip)) ?_
  intro K hk
  have HK : Hid _ := hk
  clear hk
  conv => arg 2; whnf
  go_wp2_with (fail)
  refine HK.out _ _ ?_
  clear HK K
  refine wp_seq_k (x := nthN 5 (Yba.f4.body.getD .skip)) (y := fromN 6 (Yba.f4.body.getD .skip)) ?_
  intro K hk
  have HK : Hid _ := hk
  clear hk
  conv => arg 2; whnf
  go_wp2_with (first | (go_at_call 9; refine (name_any opN h1 extra _).mono ?_; rintro e w' ⟨rfl, rfl⟩) | (go_at_call 10; refine (iv_any opIv h2 _).mono ?_; rintro e w' ⟨rfl, rfl⟩))
  refine HK.out _ _ ?_
  clear HK K
  refine wp_seq_k (x := nthN 6 (Yba.f4.body.getD .skip)) (y := fromN 7 (Yba.f4.body.getD .skip)) ?_
  intro K hk
  have HK : Hid _ := hk
  clear hk
  conv => arg 2; whnf
  go_wp2_with (fail)
  refine HK.out _ _ ?_
  clear HK K
  clear hb45 hb47
  obtain ⟨r, hr⟩ := first_exists (fun j => same (fD D extra j) (gD D j) (bname opN extra) (biv opIv)) D.length
  obtain ⟨W, hW⟩ : ∃ W, W = (w0.alloc (.cells #[.slice (some ⟨N, 0, none⟩) D.length D.length, .string ⟨#[98, 108, 111, 99, 107]⟩] 45)).alloc (.cells #[.int .i64 7, .string (bname opN extra), .int .i64 0, .int .i64 0, .int .i64 (biv opIv)] 47) := ⟨_, rfl⟩
  rw [show (w0.alloc (.cells #[.slice (some ⟨N, 0, none⟩) D.length D.length, .string ⟨#[98, 108, 111, 99, 107]⟩] 45)).alloc (.cells #[.int .i64 7, .string (bname opN extra), .int .i64 0, .int .i64 0, .int .i64 (biv opIv)] 47) = W from hW.symm]
  have hb : Below w0.heap.size w0 W := by subst hW; exact ((Below.refl _ _).alloc (Nat.le_refl _) _).alloc (by simp) _
  have hbW : Below w.heap.size w W := hbl.trans (hb.mono hbl.size)
  have d0 : W.cell? ⟨w0.heap.size, 0, none⟩ = some (.slice (some ⟨N, 0, none⟩) D.length D.length) := by subst hW; simp
  have d1 : W.cell? ⟨w0.heap.size, 1, none⟩ = some (.string ⟨#[98, 108, 111, 99, 107]⟩) := by subst hW; simp
  have o0 : W.cell? ⟨w0.heap.size + 1, 0, none⟩ = some (.int .i64 7) := by subst hW; simp
  have o1 : W.cell? ⟨w0.heap.size + 1, 1, none⟩ = some (.string (bname opN extra)) := by subst hW; simp
  have o2 : W.cell? ⟨w0.heap.size + 1, 2, none⟩ = some (.int .i64 0) := by subst hW; simp
  have o3 : W.cell? ⟨w0.heap.size + 1, 3, none⟩ = some (.int .i64 0) := by subst hW; simp
  have o4 : W.cell? ⟨w0.heap.size + 1, 4, none⟩ = some (.int .i64 (biv opIv)) := by subst hW; simp
  have hDW := hD.below hb
  have hLW := hL.below hb
  clear hW hb hbl hD hL
  refine wp_seq (x := nthN 7 (Yba.f4.body.getD .skip)) (y := fromN 8 (Yba.f4.body.getD .skip)) ?_
  refine fm_s7 a cap D extra (bname opN extra) (biv opIv) N w0.heap.size (w0.heap.size + 1) r W hDW ⟨o1, o4⟩ hm hr _ _ ?_ _ _ _ _ _ _ _ _ _ _ _ _ _ _ _ _ _ _ _ _ _ _ _ _ _ _ _ _ _ _ _ _ _ _ _ _ _ _ _ _ _ _ _ _ _ _ _ _ _ _ _ _ _ _ _ _ _ _ _ _ _ _ _ _ _ _ _ _ _ _ _ _ _ _ _ _ _ _ _ _ _ _ _ _ _ _ _ _ _ _ _ _ _ _ _ _ _ _ _ _ _ _ _ _ _ _ _ _ _ _ _ _ _ _ _ _ _ _ _ _ _ _ _ _ _ _ _ _ _ _ _ _ _ _ _ _ _ _ _ _
  intro wx v1 v2 v4 v5 v6 v7 v8 v10 v14 v15 v16 v17 v18 v19 v20 v21 v22 v23 v24 v25 v26 v27 v28 v29 v30 v31 v32 v33 v34 v35 v36 v37 v38 v39 v40 v41 v42 v43 v44 v45 v46 v47 v48 v49 v50 v51 v52 v53 v54 v55 v56 v57 v58 v59 v60 v61 v62 v63 v64 v65 v66 v67 v68 v69 v70 v71 v72 v73 v74 v75 v76 v77 v78 v79 v80 v81 v82 v83 v84 v85 v86 v87 v88 v89 v90 v91 v92 v93 v94 v95 v96 v97 v98 v99 v100 v101 v102 v103 v104 v105 v106 v107 v108 v109 v110 v111 v112 v113 v114 v115 v116 v117 v118 v119 v120 v121 v122 v123 v124 v125 v126 v127 v128 v129 v130 v131 v132 v133 v134 v135 v136 v137 v138 v139 v140 v141 v142 v143 v144 v145 hS
  exact fm_t8 a cap D extra (bname opN extra) (biv opIv) N w0.heap.size (w0.heap.size + 1) r w wx (hS.rows hDW) (hS.list hLW) hm hr ((hS.cell _).trans d0) ((hS.cell _).trans d1) ((hS.cell _).trans o0) ((hS.cell _).trans o1) ((hS.cell _).trans o2) ((hS.cell _).trans o3) ((hS.cell _).trans o4) (hS.below hbW) _ _ _ _ _ _ _ _ _ _ _ _ _ _ _ _ _ _ _ _ _ _ _ _ _ _ _ _ _ _ _ _ _ _ _ _ _ _ _ _ _ _ _ _ _ _ _ _ _ _ _ _ _ _ _ _ _ _ _ _ _ _ _ _ _ _ _ _ _ _ _ _ _ _ _ _ _ _ _ _ _ _ _ _ _ _ _ _ _ _ _ _ _ _ _ _ _ _ _ _ _ _ _ _ _ _ _ _ _ _ _ _ _ _ _ _ _ _ _ _ _ _ _ _ _ _ _ _ _ _ _ _ _ _ _ _ _ _ _ _

set_option maxHeartbeats 1000000 in
set_option maxRecDepth 100000 in
/-- EVERY INPUT. -/
theorem first_walk (a : Option Addr) (cap : Nat) (D : List (Int × Int)) (opN opIv : Int) (extra : ByteArray) (w : World) (hD : DefRow w a D) (h1 : 0 ≤ opN ∧ opN ≤ 255) (h2 : -128 ≤ opIv ∧ opIv ≤ 127) :
    Calls Yba.prog 4 #[.slice a D.length cap, .int .u8 opN, .int .i8 opIv, .string extra] w fun e w' => e = .returned (.bool true) ∧ Below w.heap.size w w' := by
  by_cases hm : D.length ≤ 1024
  · have hmk := mk36 D.length hm
    go_enter Yba.func4, Yba.ntmps4
    refine wp_seq_k (x := nthN 0 (Yba.f4.body.getD .skip)) (y := fromN 1 (Yba.f4.body.getD .skip)) ?_
    intro K hk
    have HK : Hid _ := hk
    clear hk
    conv => arg 2; whnf
    go_wp2_with (fail)
    refine HK.out _ _ ?_
    clear HK K
    refine wp_seq_k (x := nthN 1 (Yba.f4.body.getD .skip)) (y := fromN 2 (Yba.f4.body.getD .skip)) ?_
    intro K hk
    have HK : Hid _ := hk
    clear hk
    conv => arg 2; whnf
    go_wp2_with (fail)
    refine HK.out _ _ ?_
    clear HK K
    refine wp_seq_k (x := nthN 2 (Yba.f4.body.getD .skip)) (y := fromN 3 (Yba.f4.body.getD .skip)) ?_
    intro K hk
    have HK : Hid _ := hk
    clear hk
    conv => arg 2; whnf
    go_wp2_with (fail)
    refine HK.out _ _ ?_
    clear HK K
    clear hmk
    have hg : ∀ wx, (w.alloc (.cells (madeCells #[.string ByteArray.empty, .int .i64 0, .string ByteArray.empty, .string ByteArray.empty] (D.length * 4)) 43)).grownBy wx (some w.heap.size) → Below w.heap.size w wx := fun wx hg =>
      ((Below.refl _ w).alloc (Nat.le_refl _) _).grown hg (by simp) (fun k hk => by cases hk; exact Nat.le_refl _)
    refine wp_seq (x := nthN 3 (Yba.f4.body.getD .skip)) (y := fromN 4 (Yba.f4.body.getD .skip)) ?_
    refine fm_s3 a cap D opN opIv extra w.heap.size _ (fun wx hx => hD.below (hg wx hx)) hm (made_there _ _ _ _) _ _ ?_ _ _ _ _ _ _ _ _ _ _ _ _ _ _ _ _ _ _ _ _ _ _ _ _ _ _ _ _ _ _ _ _ _ _ _ _ _ _ _ _ _ _ _ _ _ _ _ _ _ _ _ _ _ _ _ _ _ _ _ _ _ _ _ _ _ _ _ _ _ _ _ _ _ _ _ _ _ _ _ _ _ _ _ _ _ _ _ _ _ _ _ _ _ _ _ _ _ _ _ _ _ _ _ _ _ _ _ _ _ _ _ _ _ _ _ _ _ _ _ _ _ _ _ _ _ _ _ _ _ _ _ _ _ _ _ _ _ _ _ _ _
    intro wx v4 v5 v6 v7 v8 v10 v11 v12 v13 v14 v15 v16 v17 v18 v19 v20 v21 v22 v23 v24 v25 v26 v27 v28 v29 v30 v31 v32 v33 v34 v35 v36 v37 v38 v39 v40 v41 v42 v43 v44 v45 v46 v47 v48 v49 v50 v51 v52 v53 v54 v55 v56 v57 v58 v59 v60 v61 v62 v63 v64 v65 v66 v67 v68 v69 v70 v71 v72 v73 v74 v75 v76 v77 v78 v79 v80 v81 v82 v83 v84 v85 v86 v87 v88 v89 v90 v91 v92 v93 v94 v95 v96 v97 v98 v99 v100 v101 v102 v103 v104 v105 v106 v107 v108 v109 v110 v111 v112 v113 v114 v115 v116 v117 v118 v119 v120 v121 v122 v123 v124 v125 v126 v127 v128 v129 v130 v131 v132 v133 v134 v135 v136 v137 v138 v139 v140 v141 v142 v143 v144 v145 hL hx
    exact fm_t4 a cap D opN opIv extra w.heap.size w wx (hD.below (hg wx hx)) hL hm h1 h2 (hg wx hx) _ _ _ _ _ _ _ _ _ _ _ _ _ _ _ _ _ _ _ _ _ _ _ _ _ _ _ _ _ _ _ _ _ _ _ _ _ _ _ _ _ _ _ _ _ _ _ _ _ _ _ _ _ _ _ _ _ _ _ _ _ _ _ _ _ _ _ _ _ _ _ _ _ _ _ _ _ _ _ _ _ _ _ _ _ _ _ _ _ _ _ _ _ _ _ _ _ _ _ _ _ _ _ _ _ _ _ _ _ _ _ _ _ _ _ _ _ _ _ _ _ _ _ _ _ _ _ _ _ _ _ _ _ _ _ _ _ _ _ _ _
  · go_enter Yba.func4, Yba.ntmps4
    go_wp2_with fail
    go_ret
    exact ⟨rfl, Below.refl _ _⟩
end Go.Proofs.Ybulkbmwk
