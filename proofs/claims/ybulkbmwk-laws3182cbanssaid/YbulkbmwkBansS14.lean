import Derived.Test.YbulkbmwkBansPlain
namespace Go.Proofs.Ybulkbmwk
open Go.RowKit Go.Maps

/-- The n-th statement of a body. -/
def stmtN : Nat → Code → Code
  | 0, .seq a _ => a
  | n + 1, .seq _ b => stmtN n b
  | _, c => c
/-- Two worlds of one memory (draws may lie between). -/
structure SameMem (w w' : World) : Prop where
  heap : w'.heap = w.heap
  os : w'.os = w.os
  tape : w'.tape = w.tape
  output : w'.output = w.output
theorem SameMem.refl (w : World) : SameMem w w := ⟨rfl, rfl, rfl, rfl⟩
theorem SameMem.drew {w w' : World} (h : SameMem w w') : SameMem w w'.drew := ⟨h.heap, h.os, h.tape, h.output⟩
theorem SameMem.cell {w w' : World} (h : SameMem w w') (a : Addr) : w'.cell? a = w.cell? a := by simp [World.cell?, h.heap]
theorem SameMem.row {w w' : World} (h : SameMem w w') {a : Option Addr} {ss : List ByteArray} (hr : StrRow w a ss) : StrRow w' a ss :=
  ⟨hr.1, hr.2.1, fun hp => let ⟨b, off, e, hc⟩ := hr.2.2 hp; ⟨b, off, e, fun j hj => (h.cell _).trans (hc j hj)⟩⟩
theorem SameMem.map {w w' : World} (h : SameMem w w') {B n : Nat} {L : KV} (hm : MapAt w B n L) : MapAt w' B n L := hm.block (by rw [h.heap])
theorem SameMem.below {w0 w w' : World} (h : SameMem w w') {N : Nat} (hb : Below N w0 w) : Below N w0 w' :=
  hb.trans ⟨h.os, h.tape, h.output, by rw [h.heap]; exact Nat.le_refl _, fun _ _ => by rw [h.heap]⟩

set_option maxHeartbeats 4000000 in
set_option maxRecDepth 100000 in
/-- THE THIRD LOOP. -/
theorem bans_s14 (aK aV aO : Option Addr) (cK cV cO : Nat) (KS VS OS : List ByteArray) (src : ByteArray) (n B R : Nat) (w0 : World) (hO : StrRow w0 aO OS)
    (hO3 : OS.length ≤ 512) (hM : MapAt w0 B (n + OS.length) ((KS.zip VS).take n ++ OS.map (fun o => (o, src)))) (hR : w0.cell? ⟨R, 8, none⟩ = some (.map (some B)))
    (Q : Exit → Act → World → Prop) (K : Act → World → Prop)
    (hK : Hid (∀ (d : Nat) (wx : World) (u4 u5 u6 u7 u8 u9 u10 u13 u14 u15 u16 u19 u20 u21 u22 u23 u24 u25 u26 u27 u28 u29 u30 u31 u32 u33 u34 u35 u36 u37 u38 u39 u40 u41 u42 u43 u44 u45 u46 u47 u48 u49 u50 u51 u52 u53 u54 u55 u56 u57 u58 u59 u60 u61 u62 u63 u64 u65 u66 u67 u68 u69 u70 u71 u72 u73 u74 u75 u76 u77 u78 u79 u80 u81 u82 u83 u84 u85 u86 u87 u88 u89 u90 u91 u92 u93 u94 u95 u96 u97 u98 u99 u100 u101 u102 u103 u104 u105 u106 u107 u108 u109 u110 u111 u112 u113 u114 u115 u116 u117 u118 u119 u120 u121 u122 u123 u124 u125 u126 u127 u128 u129 u130 u131 u132 u133 u134 u135 u136 u137 u138 u139 u140 u141 u142 u143 u144 u145 u146 u147 u148 u149 u150 u151 u152 u153 u154 u155 u156 u157 u158 u159 u160 u161 u162 u163 u164 u165 u166 u167 u168 u169 u170 u171 u172 u173 u174 u175 u176 u177 u178 u179 u180 u181 u182 u183 u184 u185 u186 u187 u188 u189 u190 u191 u192 u193 u194 u195 u196 u197 u198 u199 u200 u201 u202 u203 u204 u205 u206 u207 u208 u209 : Value), Cnt OS d → d ≤ 512 → SameMem w0 wx → K ⟨#[.slice aK KS.length cK, .slice aV VS.length cV, .slice aO OS.length cO, .string src, u4, u5, u6, u7, u8, u9, u10, .int .i64 n, .map (some B), u13, u14, u15, u16, .pointer (some ⟨R, 0, none⟩), .int .i64 d, u19, u20, u21, u22, u23, u24, u25, u26, u27, u28, u29, u30, u31, u32, u33, u34, u35, u36, u37, u38, u39, u40, u41, u42, u43, u44, u45, u46, u47, u48, u49, u50, u51, u52, u53, u54, u55, u56, u57, u58, u59, u60, u61, u62, u63, u64, u65, u66, u67, u68, u69, u70, u71, u72, u73, u74, u75, u76, u77, u78, u79, u80, u81, u82, u83, u84, u85, u86, u87, u88, u89, u90, u91, u92, u93, u94, u95, u96, u97, u98, u99, u100, u101, u102, u103, u104, u105, u106, u107, u108, u109, u110, u111, u112, u113, u114, u115, u116, u117, u118, u119, u120, u121, u122, u123, u124, u125, u126, u127, u128, u129, u130, u131, u132, u133, u134, u135, u136, u137, u138, u139, u140, u141, u142, u143, u144, u145, u146, u147, u148, u149, u150, u151, u152, u153, u154, u155, u156, u157, u158, u159, u160, u161, u162, u163, u164, u165, u166, u167, u168, u169, u170, u171, u172, u173, u174, u175, u176, u177, u178, u179, u180, u181, u182, u183, u184, u185, u186, u187, u188, u189, u190, u191, u192, u193, u194, u195, u196, u197, u198, u199, u200, u201, u202, u203, u204, u205, u206, u207, u208, u209], []⟩ wx)) (u4 u5 u6 u7 u8 u9 u10 u13 u14 u15 u16 u19 u20 u21 u22 u23 u24 u25 u26 u27 u28 u29 u30 u31 u32 u33 u34 u35 u36 u37 u38 u39 u40 u41 u42 u43 u44 u45 u46 u47 u48 u49 u50 u51 u52 u53 u54 u55 u56 u57 u58 u59 u60 u61 u62 u63 u64 u65 u66 u67 u68 u69 u70 u71 u72 u73 u74 u75 u76 u77 u78 u79 u80 u81 u82 u83 u84 u85 u86 u87 u88 u89 u90 u91 u92 u93 u94 u95 u96 u97 u98 u99 u100 u101 u102 u103 u104 u105 u106 u107 u108 u109 u110 u111 u112 u113 u114 u115 u116 u117 u118 u119 u120 u121 u122 u123 u124 u125 u126 u127 u128 u129 u130 u131 u132 u133 u134 u135 u136 u137 u138 u139 u140 u141 u142 u143 u144 u145 u146 u147 u148 u149 u150 u151 u152 u153 u154 u155 u156 u157 u158 u159 u160 u161 u162 u163 u164 u165 u166 u167 u168 u169 u170 u171 u172 u173 u174 u175 u176 u177 u178 u179 u180 u181 u182 u183 u184 u185 u186 u187 u188 u189 u190 u191 u192 u193 u194 u195 u196 u197 u198 u199 u200 u201 u202 u203 u204 u205 u206 u207 u208 u209 : Value) :
    Code.wp Yba.prog (stmtN 14 (Yba.f5.body.getD .skip)) (Exit.then K Q) ⟨#[.slice aK KS.length cK, .slice aV VS.length cV, .slice aO OS.length cO, .string src, u4, u5, u6, u7, u8, u9, u10, .int .i64 n, .map (some B), u13, u14, u15, u16, .pointer (some ⟨R, 0, none⟩), .int .i64 0, u19, u20, u21, u22, u23, u24, u25, u26, u27, u28, u29, u30, u31, u32, u33, u34, u35, u36, u37, u38, u39, u40, u41, u42, u43, u44, u45, u46, u47, u48, u49, u50, u51, u52, u53, u54, u55, u56, u57, u58, u59, u60, u61, u62, u63, u64, u65, u66, u67, u68, u69, u70, u71, u72, u73, u74, u75, u76, u77, u78, u79, u80, u81, u82, u83, u84, u85, u86, u87, u88, u89, u90, u91, u92, u93, u94, u95, u96, u97, u98, u99, u100, u101, u102, u103, u104, u105, u106, u107, u108, u109, u110, u111, u112, u113, u114, u115, u116, u117, u118, u119, u120, u121, u122, u123, u124, u125, u126, u127, u128, u129, u130, u131, u132, u133, u134, u135, u136, u137, u138, u139, u140, u141, u142, u143, u144, u145, u146, u147, u148, u149, u150, u151, u152, u153, u154, u155, u156, u157, u158, u159, u160, u161, u162, u163, u164, u165, u166, u167, u168, u169, u170, u171, u172, u173, u174, u175, u176, u177, u178, u179, u180, u181, u182, u183, u184, u185, u186, u187, u188, u189, u190, u191, u192, u193, u194, u195, u196, u197, u198, u199, u200, u201, u202, u203, u204, u205, u206, u207, u208, u209], []⟩ w0 := by
  conv => arg 2; whnf
  go_wp2_with fail
  go_loopw [18, 19] (fun dd i wx => ∃ j : Nat, j ≤ OS.length ∧ i = .int .i64 j ∧ (∃ c : Nat, dd = .int .i64 c ∧ Cnt (OS.take j) c ∧ c ≤ j) ∧ SameMem w0 wx) (fun _ i _ => OS.length - (intOf i).toNat)
  case atStart => exact ⟨0, Nat.zero_le _, rfl, ⟨0, rfl, by simpa using Cnt.nil, by omega⟩, SameMem.refl _⟩
  case round =>
    obtain ⟨j, hj, rfl, ⟨c, rfl, hcn, hc⟩, hS⟩ := hrel
    by_cases hlt : j < OS.length
    · obtain ⟨bo, oo, rfl, co⟩ := (hS.row hO).2.2 (by omega)
      have hls := take_snoc OS j (by omega)
      have co1 := co j (by omega)
      have hmem := getD_mem OS j (by omega)
      have sx := hO.2.1 _ hmem
      have hRr := (hS.cell _).trans hR
      have hrow := hS.drew.row hO
      obtain ⟨x, hx⟩ : ∃ x, x = OS.getD j ByteArray.empty := ⟨_, rfl⟩
      rw [← hx] at co1 sx hls hmem
      have HL : Hid (OS.take (j + 1) = OS.take j ++ [x]) := hls
      have hlk := (hS.drew.map hM).look sx (last_online _ OS src x hmem)
      clear hx hls hmem co hM hR hO
      by_cases hpr : isIn x (OS.take j) = true
      · have HP : Hid (isIn x (OS.take j) = true) := hpr
        clear hpr
        go_wp2_with fail
        go_region
        go_wp2_with (go_at_call 13; refine (cin_any _ _ OS _ x _ hrow (by omega) true (by exact HP.out)).mono ?_; rintro e w' ⟨rfl, rfl⟩)
        go_roundw
        case rel =>
          refine ⟨j + 1, by omega, by go_num, ⟨c, rfl, ?_, by omega⟩, hS.drew⟩
          rw [HL.out]
          exact hcn.old ((isIn_iff x _).1 HP.out)
        case measure => simp [intOf]; omega
      · have HP : Hid (isIn x (OS.take j) = false) := Bool.eq_false_iff.2 hpr
        clear hpr
        go_wp2_with fail
        go_region
        go_wp2_with (go_at_call 13; refine (cin_any _ _ OS _ x _ hrow (by omega) false (by exact HP.out)).mono ?_; rintro e w' ⟨rfl, rfl⟩)
        go_roundw
        case rel =>
          refine ⟨j + 1, by omega, by go_num, ⟨c + 1, by go_num, ?_, by omega⟩, hS.drew⟩
          rw [HL.out]
          exact hcn.fresh ((isIn_false x _).1 HP.out)
        case measure => simp [intOf]; omega
    · have e : j = OS.length := by omega
      subst e
      rw [List.take_length] at hcn
      go_wp2_with fail
      exact hK.out c _ _ _ _ _ _ _ _ _ _ _ _ _ _ _ _ _ _ _ _ _ _ _ _ _ _ _ _ _ _ _ _ _ _ _ _ _ _ _ _ _ _ _ _ _ _ _ _ _ _ _ _ _ _ _ _ _ _ _ _ _ _ _ _ _ _ _ _ _ _ _ _ _ _ _ _ _ _ _ _ _ _ _ _ _ _ _ _ _ _ _ _ _ _ _ _ _ _ _ _ _ _ _ _ _ _ _ _ _ _ _ _ _ _ _ _ _ _ _ _ _ _ _ _ _ _ _ _ _ _ _ _ _ _ _ _ _ _ _ _ _ _ _ _ _ _ _ _ _ _ _ _ _ _ _ _ _ _ _ _ _ _ _ _ _ _ _ _ _ _ _ _ _ _ _ _ _ _ _ _ _ _ _ _ _ _ _ _ _ _ _ _ _ _ _ _ _ _ _ _ _ _ _ hcn (by omega) hS
end Go.Proofs.Ybulkbmwk
