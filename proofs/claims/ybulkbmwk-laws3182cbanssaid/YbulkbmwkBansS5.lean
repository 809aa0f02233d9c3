import Derived.Test.YbulkbmwkBansS14
namespace Go.Proofs.Ybulkbmwk
open Go.RowKit Go.Maps

set_option maxHeartbeats 1000000 in
set_option maxRecDepth 100000 in
/-- THE MAP IS MADE, AND THE FIRST LOOP FILLS IT. -/
theorem bans_s5 (aK aV aO : Option Addr) (cK cV cO : Nat) (KS VS OS : List ByteArray) (src : ByteArray) (nilB : Bool) (n : Nat) (w0 : World) (hK : StrRow w0 aK KS) (hV : StrRow w0 aV VS)
    (hn1 : n ≤ KS.length) (hn2 : n ≤ VS.length) (hn3 : n ≤ 512) (hB : (nilB && decide (OS.length = 0)) = false)
    (Q : Exit → Act → World → Prop) (K : Act → World → Prop)
    (hN : Hid (∀ (wx : World) (u5 u6 u7 u8 u9 u10 u13 u14 u15 u16 u17 u18 u19 u20 u21 u22 u23 u24 u25 u26 u27 u28 u29 u30 u31 u32 u33 u34 u35 u36 u37 u38 u39 u40 u41 u42 u43 u44 u45 u46 u47 u48 u49 u50 u51 u52 u53 u54 u55 u56 u57 u58 u59 u60 u61 u62 u63 u64 u65 u66 u67 u68 u69 u70 u71 u72 u73 u74 u75 u76 u77 u78 u79 u80 u81 u82 u83 u84 u85 u86 u87 u88 u89 u90 u91 u92 u93 u94 u95 u96 u97 u98 u99 u100 u101 u102 u103 u104 u105 u106 u107 u108 u109 u110 u111 u112 u113 u114 u115 u116 u117 u118 u119 u120 u121 u122 u123 u124 u125 u126 u127 u128 u129 u130 u131 u132 u133 u134 u135 u136 u137 u138 u139 u140 u141 u142 u143 u144 u145 u146 u147 u148 u149 u150 u151 u152 u153 u154 u155 u156 u157 u158 u159 u160 u161 u162 u163 u164 u165 u166 u167 u168 u169 u170 u171 u172 u173 u174 u175 u176 u177 u178 u179 u180 u181 u182 u183 u184 u185 u186 u187 u188 u189 u190 u191 u192 u193 u194 u195 u196 u197 u198 u199 u200 u201 u202 u203 u204 u205 u206 u207 u208 u209 : Value), MapAt wx w0.heap.size n ((KS.zip VS).take n) → Below w0.heap.size w0 wx → K ⟨#[.slice aK KS.length cK, .slice aV VS.length cV, .slice aO OS.length cO, .string src, .bool nilB, u5, u6, u7, u8, u9, u10, .int .i64 n, .map (some w0.heap.size), u13, u14, u15, u16, u17, u18, u19, u20, u21, u22, u23, u24, u25, u26, u27, u28, u29, u30, u31, u32, u33, u34, u35, u36, u37, u38, u39, u40, u41, u42, u43, u44, u45, u46, u47, u48, u49, u50, u51, u52, u53, u54, u55, u56, u57, u58, u59, u60, u61, u62, u63, u64, u65, u66, u67, u68, u69, u70, u71, u72, u73, u74, u75, u76, u77, u78, u79, u80, u81, u82, u83, u84, u85, u86, u87, u88, u89, u90, u91, u92, u93, u94, u95, u96, u97, u98, u99, u100, u101, u102, u103, u104, u105, u106, u107, u108, u109, u110, u111, u112, u113, u114, u115, u116, u117, u118, u119, u120, u121, u122, u123, u124, u125, u126, u127, u128, u129, u130, u131, u132, u133, u134, u135, u136, u137, u138, u139, u140, u141, u142, u143, u144, u145, u146, u147, u148, u149, u150, u151, u152, u153, u154, u155, u156, u157, u158, u159, u160, u161, u162, u163, u164, u165, u166, u167, u168, u169, u170, u171, u172, u173, u174, u175, u176, u177, u178, u179, u180, u181, u182, u183, u184, u185, u186, u187, u188, u189, u190, u191, u192, u193, u194, u195, u196, u197, u198, u199, u200, u201, u202, u203, u204, u205, u206, u207, u208, u209], []⟩ wx)) (u5 u6 u7 u8 u9 u10 u13 u14 u15 u16 u17 u18 u19 u20 u21 u22 u23 u24 u25 u26 u27 u28 u29 u30 u31 u32 u33 u34 u35 u36 u37 u38 u39 u40 u41 u42 u43 u44 u45 u46 u47 u48 u49 u50 u51 u52 u53 u54 u55 u56 u57 u58 u59 u60 u61 u62 u63 u64 u65 u66 u67 u68 u69 u70 u71 u72 u73 u74 u75 u76 u77 u78 u79 u80 u81 u82 u83 u84 u85 u86 u87 u88 u89 u90 u91 u92 u93 u94 u95 u96 u97 u98 u99 u100 u101 u102 u103 u104 u105 u106 u107 u108 u109 u110 u111 u112 u113 u114 u115 u116 u117 u118 u119 u120 u121 u122 u123 u124 u125 u126 u127 u128 u129 u130 u131 u132 u133 u134 u135 u136 u137 u138 u139 u140 u141 u142 u143 u144 u145 u146 u147 u148 u149 u150 u151 u152 u153 u154 u155 u156 u157 u158 u159 u160 u161 u162 u163 u164 u165 u166 u167 u168 u169 u170 u171 u172 u173 u174 u175 u176 u177 u178 u179 u180 u181 u182 u183 u184 u185 u186 u187 u188 u189 u190 u191 u192 u193 u194 u195 u196 u197 u198 u199 u200 u201 u202 u203 u204 u205 u206 u207 u208 u209 : Value) :
    Code.wp Yba.prog (stmtN 5 (Yba.f5.body.getD .skip)) (Exit.then K Q) ⟨#[.slice aK KS.length cK, .slice aV VS.length cV, .slice aO OS.length cO, .string src, .bool nilB, u5, u6, u7, u8, u9, u10, .int .i64 n, .map none, u13, u14, u15, u16, u17, u18, u19, u20, u21, u22, u23, u24, u25, u26, u27, u28, u29, u30, u31, u32, u33, u34, u35, u36, u37, u38, u39, u40, u41, u42, u43, u44, u45, u46, u47, u48, u49, u50, u51, u52, u53, u54, u55, u56, u57, u58, u59, u60, u61, u62, u63, u64, u65, u66, u67, u68, u69, u70, u71, u72, u73, u74, u75, u76, u77, u78, u79, u80, u81, u82, u83, u84, u85, u86, u87, u88, u89, u90, u91, u92, u93, u94, u95, u96, u97, u98, u99, u100, u101, u102, u103, u104, u105, u106, u107, u108, u109, u110, u111, u112, u113, u114, u115, u116, u117, u118, u119, u120, u121, u122, u123, u124, u125, u126, u127, u128, u129, u130, u131, u132, u133, u134, u135, u136, u137, u138, u139, u140, u141, u142, u143, u144, u145, u146, u147, u148, u149, u150, u151, u152, u153, u154, u155, u156, u157, u158, u159, u160, u161, u162, u163, u164, u165, u166, u167, u168, u169, u170, u171, u172, u173, u174, u175, u176, u177, u178, u179, u180, u181, u182, u183, u184, u185, u186, u187, u188, u189, u190, u191, u192, u193, u194, u195, u196, u197, u198, u199, u200, u201, u202, u203, u204, u205, u206, u207, u208, u209], []⟩ w0 := by
  conv => arg 2; whnf
  have hmm := @run_makeMap Yba.prog
  have hO0 : nilB = true → ((OS.length : Int) == 0) = false := by
    intro h; subst h; simp at hB; simpa using hB
  clear hB
  cases nilB
  all_goals
    first
      | have hO1 := hO0 rfl
      | skip
    clear hO0
    go_wp2_with fail
    go_loopw [13] (fun i wr => ∃ j : Nat, j ≤ n ∧ i = .int .i64 j ∧ MapAt wr w0.heap.size j ((KS.zip VS).take j) ∧ Below w0.heap.size w0 wr) (fun i _ => n - (intOf i).toNat)
    case atStart => exact ⟨0, Nat.zero_le _, rfl, MapAt.made w0, (Below.refl _ _).alloc (Nat.le_refl _) _⟩
    case round =>
      obtain ⟨j, hj, rfl, hM, hbl⟩ := hrel
      by_cases hlt : j < n
      · obtain ⟨bk, ok, rfl, ck⟩ := (hK.below hbl).2.2 (by omega)
        obtain ⟨bv, ov, rfl, cv⟩ := (hV.below hbl).2.2 (by omega)
        have ck1 := ck j (by omega)
        have cv1 := cv j (by omega)
        have sk := hK.2.1 _ (getD_mem KS j (by omega))
        have sv := hV.2.1 _ (getD_mem VS j (by omega))
        have hz := zip_take_succ KS VS j (by omega) (by omega)
        obtain ⟨x, hx⟩ : ∃ x, x = KS.getD j ByteArray.empty := ⟨_, rfl⟩
        obtain ⟨y, hy⟩ : ∃ y, y = VS.getD j ByteArray.empty := ⟨_, rfl⟩
        rw [← hx] at ck1 sk hz
        rw [← hy] at cv1 sv hz
        have hMd : MapAt wr.drew w0.heap.size j ((KS.zip VS).take j) := hM
        obtain ⟨w2, hrun, hM2, hg2⟩ := hMd.store (by unfold maxLen; omega) sk sv
        rw [← hz] at hM2
        have HM : Hid (MapAt w2 w0.heap.size (j + 1) ((KS.zip VS).take (j + 1))) := hM2
        have HB : Hid (Below w0.heap.size w0 w2) := hbl.drew.grown hg2 hbl.size (fun k hk => by cases hk; exact Nat.le_refl _)
        clear hM2 hg2 hM hMd hbl ck cv hx hy hz hmm
        go_wp2_with fail
        go_region
        go_wp2_with fail
        go_roundw
        case rel => exact ⟨j + 1, by omega, by go_num, HM.out, HB.out⟩
        case measure => simp [intOf]; omega
      · have e : j = n := by omega
        subst e
        go_wp2_with fail
        exact hN.out _ _ _ _ _ _ _ _ _ _ _ _ _ _ _ _ _ _ _ _ _ _ _ _ _ _ _ _ _ _ _ _ _ _ _ _ _ _ _ _ _ _ _ _ _ _ _ _ _ _ _ _ _ _ _ _ _ _ _ _ _ _ _ _ _ _ _ _ _ _ _ _ _ _ _ _ _ _ _ _ _ _ _ _ _ _ _ _ _ _ _ _ _ _ _ _ _ _ _ _ _ _ _ _ _ _ _ _ _ _ _ _ _ _ _ _ _ _ _ _ _ _ _ _ _ _ _ _ _ _ _ _ _ _ _ _ _ _ _ _ _ _ _ _ _ _ _ _ _ _ _ _ _ _ _ _ _ _ _ _ _ _ _ _ _ _ _ _ _ _ _ _ _ _ _ _ _ _ _ _ _ _ _ _ _ _ _ _ _ _ _ _ _ _ _ _ _ _ _ _ _ _ _ _ hM hbl
end Go.Proofs.Ybulkbmwk
