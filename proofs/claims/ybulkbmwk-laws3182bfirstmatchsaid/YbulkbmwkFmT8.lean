import Derived.Test.YbulkbmwkFmS9
import Derived.LaidEqlPtr
namespace Go.Proofs.Ybulkbmwk
open Go.RowKit

theorem ptr48 (a : Addr) (w : World) : (binOp .eql 48 (.pointer (some a)) (.pointer (some a))).run Yba.prog w = .ok (.bool true) w := by
  have h : (Yba.prog.info? 43).isSome = true := by kernel_rfl
  obtain ⟨i, hi⟩ := Option.isSome_iff_exists.1 h
  exact run_eql_ptr_same w a Yba.underlying48 hi
theorem nil48 (w : World) : (binOp .eql 48 (.pointer none) (.pointer none)).run Yba.prog w = .ok (.bool true) w :=
  run_eql_pointer_nil w 48 none (by kernel_rfl)

set_option maxHeartbeats 1000000 in
set_option maxRecDepth 100000 in
/-- THE LAST TESTS. -/
theorem fm_t10 (D : List (Int × Int)) (N Df : Nat) (p : Nat → Bool) (r : Int) (w w0 : World) (_hm : D.length ≤ 1024) (hr : First p D.length r) (hd1 : w0.cell? ⟨Df, 1, none⟩ = some (.string ⟨#[98, 108, 111, 99, 107]⟩)) (hbl : Below w.heap.size w w0) (u0 u1 u2 u3 u4 u5 u6 u7 u8 u10 u12 u14 u16 u17 u18 u19 u20 u21 u22 u23 u24 u25 u26 u27 u28 u29 u30 u31 u32 u33 u34 u35 u36 u37 u38 u39 u40 u41 u42 u43 u44 u45 u46 u47 u48 u49 u50 u51 u52 u53 u54 u55 u56 u57 u58 u59 u60 u61 u62 u63 u64 u65 u66 u67 u68 u69 u70 u71 u72 u73 u74 u75 u76 u77 u78 u79 u80 u81 u82 u83 u84 u85 u86 u87 u88 u89 u90 u91 u92 u93 u94 u95 u96 u97 u98 u99 u100 u101 u102 u103 u104 u105 u106 u107 u108 u109 u110 u111 u112 u113 u114 u115 u116 u117 u118 u119 u120 u121 u122 u123 u124 u125 u126 u127 u128 u129 u130 u131 u132 u133 u134 u135 u136 u137 u138 u139 u140 u141 u142 u143 u144 u145 : Value) :
    Code.wp Yba.prog (fromN 10 (Yba.f4.body.getD .skip)) (bodyPost Yba.prog Yba.f4 fun e w' => e = .returned (.bool true) ∧ Below w.heap.size w w') ⟨#[u0, u1, u2, u3, u4, u5, u6, u7, u8, .slice (some ⟨N, 0, none⟩) D.length D.length, u10, .pointer (some ⟨Df, 0, none⟩), u12, .int .i64 r, u14, found N r, u16, u17, u18, u19, u20, u21, u22, u23, u24, u25, u26, u27, u28, u29, u30, u31, u32, u33, u34, u35, u36, u37, u38, u39, u40, u41, u42, u43, u44, u45, u46, u47, u48, u49, u50, u51, u52, u53, u54, u55, u56, u57, u58, u59, u60, u61, u62, u63, u64, u65, u66, u67, u68, u69, u70, u71, u72, u73, u74, u75, u76, u77, u78, u79, u80, u81, u82, u83, u84, u85, u86, u87, u88, u89, u90, u91, u92, u93, u94, u95, u96, u97, u98, u99, u100, u101, u102, u103, u104, u105, u106, u107, u108, u109, u110, u111, u112, u113, u114, u115, u116, u117, u118, u119, u120, u121, u122, u123, u124, u125, u126, u127, u128, u129, u130, u131, u132, u133, u134, u135, u136, u137, u138, u139, u140, u141, u142, u143, u144, u145], []⟩ w0 := by
  have hpt := ptr48
  have hnl := nil48
  rcases hr with ⟨rfl, _⟩ | ⟨k, hk, rfl, _, _⟩
  · rw [show found N (-1) = .pointer none from rfl]
    conv => arg 2; whnf
    go_wp2_with fail
    go_ret
    exact ⟨rfl, hbl⟩
  · rw [show found N (k : Int) = .pointer (some ⟨N, k * 4, none⟩) from by unfold found; rw [if_neg (by omega), Int.toNat_natCast]]
    have hkk : (k : Int) < (D.length : Int) := by omega
    conv => arg 2; whnf
    go_wp2_with fail
    go_ret
    exact ⟨rfl, hbl⟩

set_option maxHeartbeats 1000000 in
set_option maxRecDepth 100000 in
/-- FROM THE CALL OF 'of' ON. -/
theorem fm_t8 (a : Option Addr) (cap : Nat) (D : List (Int × Int)) (extra onm : ByteArray) (oiv : Int) (N Df O : Nat) (r : Int) (w w0 : World) (hD : DefRow w0 a D) (hL : ListAt w0 N D.length (fD D extra) (gD D)) (hm : D.length ≤ 1024)
    (hr : First (fun j => same (fD D extra j) (gD D j) onm oiv) D.length r)
    (d0 : w0.cell? ⟨Df, 0, none⟩ = some (.slice (some ⟨N, 0, none⟩) D.length D.length)) (d1 : w0.cell? ⟨Df, 1, none⟩ = some (.string ⟨#[98, 108, 111, 99, 107]⟩))
    (o0 : w0.cell? ⟨O, 0, none⟩ = some (.int .i64 7)) (o1 : w0.cell? ⟨O, 1, none⟩ = some (.string onm)) (o2 : w0.cell? ⟨O, 2, none⟩ = some (.int .i64 0)) (o3 : w0.cell? ⟨O, 3, none⟩ = some (.int .i64 0)) (o4 : w0.cell? ⟨O, 4, none⟩ = some (.int .i64 oiv))
    (hbl : Below w.heap.size w w0) (u1 u2 u4 u5 u6 u7 u8 u10 u14 u15 u16 u17 u18 u19 u20 u21 u22 u23 u24 u25 u26 u27 u28 u29 u30 u31 u32 u33 u34 u35 u36 u37 u38 u39 u40 u41 u42 u43 u44 u45 u46 u47 u48 u49 u50 u51 u52 u53 u54 u55 u56 u57 u58 u59 u60 u61 u62 u63 u64 u65 u66 u67 u68 u69 u70 u71 u72 u73 u74 u75 u76 u77 u78 u79 u80 u81 u82 u83 u84 u85 u86 u87 u88 u89 u90 u91 u92 u93 u94 u95 u96 u97 u98 u99 u100 u101 u102 u103 u104 u105 u106 u107 u108 u109 u110 u111 u112 u113 u114 u115 u116 u117 u118 u119 u120 u121 u122 u123 u124 u125 u126 u127 u128 u129 u130 u131 u132 u133 u134 u135 u136 u137 u138 u139 u140 u141 u142 u143 u144 u145 : Value) :
    Code.wp Yba.prog (fromN 8 (Yba.f4.body.getD .skip)) (bodyPost Yba.prog Yba.f4 fun e w' => e = .returned (.bool true) ∧ Below w.heap.size w w') ⟨#[.slice a D.length cap, u1, u2, .string extra, u4, u5, u6, u7, u8, .slice (some ⟨N, 0, none⟩) D.length D.length, u10, .pointer (some ⟨Df, 0, none⟩), .pointer (some ⟨O, 0, none⟩), .int .i64 r, u14, u15, u16, u17, u18, u19, u20, u21, u22, u23, u24, u25, u26, u27, u28, u29, u30, u31, u32, u33, u34, u35, u36, u37, u38, u39, u40, u41, u42, u43, u44, u45, u46, u47, u48, u49, u50, u51, u52, u53, u54, u55, u56, u57, u58, u59, u60, u61, u62, u63, u64, u65, u66, u67, u68, u69, u70, u71, u72, u73, u74, u75, u76, u77, u78, u79, u80, u81, u82, u83, u84, u85, u86, u87, u88, u89, u90, u91, u92, u93, u94, u95, u96, u97, u98, u99, u100, u101, u102, u103, u104, u105, u106, u107, u108, u109, u110, u111, u112, u113, u114, u115, u116, u117, u118, u119, u120, u121, u122, u123, u124, u125, u126, u127, u128, u129, u130, u131, u132, u133, u134, u135, u136, u137, u138, u139, u140, u141, u142, u143, u144, u145], []⟩ w0 := by
  have HR : Hid (First (fun j => same (fD D extra j) (gD D j) onm oiv) D.length r) := hr
  clear hr
  refine wp_seq_k (x := nthN 8 (Yba.f4.body.getD .skip)) (y := fromN 9 (Yba.f4.body.getD .skip)) ?_
  intro K hk
  have HK : Hid _ := hk
  clear hk
  conv => arg 2; whnf
  go_wp2_with (go_at_call 11; refine (of_any N D.length (fD D extra) (gD D) _ onm _ _ _ oiv r _ hm hL HR.out).mono ?_; rintro e w1 ⟨rfl, hb1⟩)
  refine HK.out _ _ ?_
  clear HK K
  have hd1 := (hb1.cell (p := ⟨Df, 1, none⟩) (World.block_lt_of_cell? _ _ d1)).trans d1
  refine wp_seq (x := nthN 9 (Yba.f4.body.getD .skip)) (y := fromN 10 (Yba.f4.body.getD .skip)) ?_
  refine fm_s9 a cap D extra N Df r (found N r) w1 (hD.below hb1) (hL.below hb1) hm _ _ ?_ _ _ _ _ _ _ _ _ _ _ _ _ _ _ _ _ _ _ _ _ _ _ _ _ _ _ _ _ _ _ _ _ _ _ _ _ _ _ _ _ _ _ _ _ _ _ _ _ _ _ _ _ _ _ _ _ _ _ _ _ _ _ _ _ _ _ _ _ _ _ _ _ _ _ _ _ _ _ _ _ _ _ _ _ _ _ _ _ _ _ _ _ _ _ _ _ _ _ _ _ _ _ _ _ _ _ _ _ _ _ _ _ _ _ _ _ _ _ _ _ _ _ _ _ _ _ _ _ _ _ _ _ _ _ _ _ _ _ _ _
  intro wx v1 v2 v4 v5 v6 v7 v8 v10 v12 v14 v16 v17 v18 v19 v20 v21 v22 v23 v24 v25 v26 v27 v28 v29 v30 v31 v32 v33 v34 v35 v36 v37 v38 v39 v40 v41 v42 v43 v44 v45 v46 v47 v48 v49 v50 v51 v52 v53 v54 v55 v56 v57 v58 v59 v60 v61 v62 v63 v64 v65 v66 v67 v68 v69 v70 v71 v72 v73 v74 v75 v76 v77 v78 v79 v80 v81 v82 v83 v84 v85 v86 v87 v88 v89 v90 v91 v92 v93 v94 v95 v96 v97 v98 v99 v100 v101 v102 v103 v104 v105 v106 v107 v108 v109 v110 v111 v112 v113 v114 v115 v116 v117 v118 v119 v120 v121 v122 v123 v124 v125 v126 v127 v128 v129 v130 v131 v132 v133 v134 v135 v136 v137 v138 v139 v140 v141 v142 v143 v144 v145 hS
  exact fm_t10 D N Df _ r w wx hm HR.out ((hS.cell _).trans hd1) (hS.below (hbl.trans (hb1.mono hbl.size))) _ _ _ _ _ _ _ _ _ _ _ _ _ _ _ _ _ _ _ _ _ _ _ _ _ _ _ _ _ _ _ _ _ _ _ _ _ _ _ _ _ _ _ _ _ _ _ _ _ _ _ _ _ _ _ _ _ _ _ _ _ _ _ _ _ _ _ _ _ _ _ _ _ _ _ _ _ _ _ _ _ _ _ _ _ _ _ _ _ _ _ _ _ _ _ _ _ _ _ _ _ _ _ _ _ _ _ _ _ _ _ _ _ _ _ _ _ _ _ _ _ _ _ _ _ _ _ _ _ _ _ _ _ _ _ _ _ _ _ _ _ _
end Go.Proofs.Ybulkbmwk
