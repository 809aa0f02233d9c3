import Derived.Test.YbulkbmwkBansS14
namespace Go.Proofs.Ybulkbmwk
open Go.RowKit Go.Maps

theorem bd55 (w : World) (x : ByteArray) : (Instr.build 55 #[(1, .string x)]).run Yba.prog w = .ok (.agg #[.string ByteArray.empty, .string x, .bool false, .bool false, .map none, .map none, .map none]) w :=
  run_build w 55 _ _ (by kernel_rfl)
theorem node_one (x : ByteArray) : (#[.string ByteArray.empty, .string x, .bool false, .bool false, .map none, .map none, .map none] : Array Value).all (·.oneCell') = true := by
  simp [Value.oneCell']
/-- The store of a node, AT THE OPERATION (spelt out, so that the walk offers it nowhere else). -/
theorem store55 {ops : Array Oper} {rest : List Oper} {a : Act} {w : World} {Q : Exit → Act → World → Prop} {x y : Operand} {pos : String} {aft : Array Edge} (N o : Nat) (s : ByteArray)
    (hx : a.eval x = .pointer (some ⟨N, o, none⟩)) (hy : a.eval y = .agg #[.string ByteArray.empty, .string s, .bool false, .bool false, .map none, .map none, .map none]) (ht : w.there N o 7)
    (h : wpList Yba.prog ops Q rest (a.put none undef) (w.setCells N o (nodeCells s))) :
    wpList Yba.prog ops Q ({ dst := none, op := Op.store 55 x y, type := 0, pos := pos, after := aft, guard := none } :: rest) a w :=
  wpList_store_mid rfl 55 x y rfl N o _ hx hy ht size55 (node_one s) h
theorem grown_setCells : ∀ (vs : List Value) (w : World) (N o : Nat), w.grownBy (w.setCells N o vs) (some N)
  | [], w, _, _ => grown_refl w _
  | v :: vs, w, N, o => by
    rw [World.setCells]
    refine World.grownBy.trans (b := w.setCell ⟨N, o, none⟩ v) ⟨rfl, rfl, rfl, by simp [World.setCell], fun k _ hne => Below.heap_setCell w _ _ k (fun e => hne (by rw [e]))⟩ (grown_setCells vs _ N (o + 1))

set_option maxHeartbeats 1000000 in
set_option maxRecDepth 100000 in
/-- THE SECOND LOOP: the nodes are filled. -/
theorem bans_s7 (aK aV aO : Option Addr) (cK cV cO : Nat) (KS VS OS : List ByteArray) (src : ByteArray) (n N : Nat) (B : Option Nat) (w0 : World) (hO : Hid (∀ wx, w0.grownBy wx (some N) → StrRow wx aO OS))
    (hO3 : OS.length ≤ 512) (hth : w0.there N 0 (OS.length * 7))
    (Q : Exit → Act → World → Prop) (K : Act → World → Prop)
    (hK : Hid (∀ (wx : World) (u4 u5 u6 u7 u8 u9 u10 u13 u15 u16 u17 u18 u19 u20 u21 u22 u23 u24 u25 u26 u27 u28 u29 u30 u31 u32 u33 u34 u35 u36 u37 u38 u39 u40 u41 u42 u43 u44 u45 u46 u47 u48 u49 u50 u51 u52 u53 u54 u55 u56 u57 u58 u59 u60 u61 u62 u63 u64 u65 u66 u67 u68 u69 u70 u71 u72 u73 u74 u75 u76 u77 u78 u79 u80 u81 u82 u83 u84 u85 u86 u87 u88 u89 u90 u91 u92 u93 u94 u95 u96 u97 u98 u99 u100 u101 u102 u103 u104 u105 u106 u107 u108 u109 u110 u111 u112 u113 u114 u115 u116 u117 u118 u119 u120 u121 u122 u123 u124 u125 u126 u127 u128 u129 u130 u131 u132 u133 u134 u135 u136 u137 u138 u139 u140 u141 u142 u143 u144 u145 u146 u147 u148 u149 u150 u151 u152 u153 u154 u155 u156 u157 u158 u159 u160 u161 u162 u163 u164 u165 u166 u167 u168 u169 u170 u171 u172 u173 u174 u175 u176 u177 u178 u179 u180 u181 u182 u183 u184 u185 u186 u187 u188 u189 u190 u191 u192 u193 u194 u195 u196 u197 u198 u199 u200 u201 u202 u203 u204 u205 u206 u207 u208 u209 : Value), NodesAt wx N OS → w0.grownBy wx (some N) → K ⟨#[.slice aK KS.length cK, .slice aV VS.length cV, .slice aO OS.length cO, .string src, u4, u5, u6, u7, u8, u9, u10, .int .i64 n, .map B, u13, .slice (some ⟨N, 0, none⟩) OS.length OS.length, u15, u16, u17, u18, u19, u20, u21, u22, u23, u24, u25, u26, u27, u28, u29, u30, u31, u32, u33, u34, u35, u36, u37, u38, u39, u40, u41, u42, u43, u44, u45, u46, u47, u48, u49, u50, u51, u52, u53, u54, u55, u56, u57, u58, u59, u60, u61, u62, u63, u64, u65, u66, u67, u68, u69, u70, u71, u72, u73, u74, u75, u76, u77, u78, u79, u80, u81, u82, u83, u84, u85, u86, u87, u88, u89, u90, u91, u92, u93, u94, u95, u96, u97, u98, u99, u100, u101, u102, u103, u104, u105, u106, u107, u108, u109, u110, u111, u112, u113, u114, u115, u116, u117, u118, u119, u120, u121, u122, u123, u124, u125, u126, u127, u128, u129, u130, u131, u132, u133, u134, u135, u136, u137, u138, u139, u140, u141, u142, u143, u144, u145, u146, u147, u148, u149, u150, u151, u152, u153, u154, u155, u156, u157, u158, u159, u160, u161, u162, u163, u164, u165, u166, u167, u168, u169, u170, u171, u172, u173, u174, u175, u176, u177, u178, u179, u180, u181, u182, u183, u184, u185, u186, u187, u188, u189, u190, u191, u192, u193, u194, u195, u196, u197, u198, u199, u200, u201, u202, u203, u204, u205, u206, u207, u208, u209], []⟩ wx)) (u4 u5 u6 u7 u8 u9 u10 u13 u15 u16 u17 u18 u19 u20 u21 u22 u23 u24 u25 u26 u27 u28 u29 u30 u31 u32 u33 u34 u35 u36 u37 u38 u39 u40 u41 u42 u43 u44 u45 u46 u47 u48 u49 u50 u51 u52 u53 u54 u55 u56 u57 u58 u59 u60 u61 u62 u63 u64 u65 u66 u67 u68 u69 u70 u71 u72 u73 u74 u75 u76 u77 u78 u79 u80 u81 u82 u83 u84 u85 u86 u87 u88 u89 u90 u91 u92 u93 u94 u95 u96 u97 u98 u99 u100 u101 u102 u103 u104 u105 u106 u107 u108 u109 u110 u111 u112 u113 u114 u115 u116 u117 u118 u119 u120 u121 u122 u123 u124 u125 u126 u127 u128 u129 u130 u131 u132 u133 u134 u135 u136 u137 u138 u139 u140 u141 u142 u143 u144 u145 u146 u147 u148 u149 u150 u151 u152 u153 u154 u155 u156 u157 u158 u159 u160 u161 u162 u163 u164 u165 u166 u167 u168 u169 u170 u171 u172 u173 u174 u175 u176 u177 u178 u179 u180 u181 u182 u183 u184 u185 u186 u187 u188 u189 u190 u191 u192 u193 u194 u195 u196 u197 u198 u199 u200 u201 u202 u203 u204 u205 u206 u207 u208 u209 : Value) :
    Code.wp Yba.prog (stmtN 7 (Yba.f5.body.getD .skip)) (Exit.then K Q) ⟨#[.slice aK KS.length cK, .slice aV VS.length cV, .slice aO OS.length cO, .string src, u4, u5, u6, u7, u8, u9, u10, .int .i64 n, .map B, u13, .slice (some ⟨N, 0, none⟩) OS.length OS.length, u15, u16, u17, u18, u19, u20, u21, u22, u23, u24, u25, u26, u27, u28, u29, u30, u31, u32, u33, u34, u35, u36, u37, u38, u39, u40, u41, u42, u43, u44, u45, u46, u47, u48, u49, u50, u51, u52, u53, u54, u55, u56, u57, u58, u59, u60, u61, u62, u63, u64, u65, u66, u67, u68, u69, u70, u71, u72, u73, u74, u75, u76, u77, u78, u79, u80, u81, u82, u83, u84, u85, u86, u87, u88, u89, u90, u91, u92, u93, u94, u95, u96, u97, u98, u99, u100, u101, u102, u103, u104, u105, u106, u107, u108, u109, u110, u111, u112, u113, u114, u115, u116, u117, u118, u119, u120, u121, u122, u123, u124, u125, u126, u127, u128, u129, u130, u131, u132, u133, u134, u135, u136, u137, u138, u139, u140, u141, u142, u143, u144, u145, u146, u147, u148, u149, u150, u151, u152, u153, u154, u155, u156, u157, u158, u159, u160, u161, u162, u163, u164, u165, u166, u167, u168, u169, u170, u171, u172, u173, u174, u175, u176, u177, u178, u179, u180, u181, u182, u183, u184, u185, u186, u187, u188, u189, u190, u191, u192, u193, u194, u195, u196, u197, u198, u199, u200, u201, u202, u203, u204, u205, u206, u207, u208, u209], []⟩ w0 := by
  conv => arg 2; whnf
  have hbd := bd55
  go_wp2_with fail
  go_loopw [15] (fun i wx => ∃ j : Nat, j ≤ OS.length ∧ i = .int .i64 j ∧ (∀ t, t < j → wx.rangeAt N (t * 7) (nodeCells (OS.getD t ByteArray.empty))) ∧ wx.there N 0 (OS.length * 7) ∧ w0.grownBy wx (some N)) (fun i _ => OS.length - (intOf i).toNat)
  case atStart => exact ⟨0, Nat.zero_le _, rfl, fun t h => by omega, hth, grown_refl _ _⟩
  case round =>
    obtain ⟨j, hj, rfl, hNs, hT, hg⟩ := hrel
    by_cases hlt : j < OS.length
    · obtain ⟨bo, oo, rfl, co⟩ := (hO.out _ hg).2.2 (by omega)
      have co1 := co j (by omega)
      obtain ⟨x, hx⟩ : ∃ x, x = OS.getD j ByteArray.empty := ⟨_, rfl⟩
      rw [← hx] at co1
      have ht7 : wr.there N (j * 7) 7 := fun i hi => by have := hT (j * 7 + i) (by omega); simpa using this
      have HN : Hid (∀ t, t < j + 1 → (wr.setCells N (j * 7) (nodeCells x)).rangeAt N (t * 7) (nodeCells (OS.getD t ByteArray.empty))) := fun t ht => by
        by_cases e : t = j
        · subst e; rw [← hx]; exact World.rangeAt_setCells_same _ _ _ _ ht7
        · exact World.rangeAt_setCells_apart (hNs t (by omega)) _ _ _ (by simp [nodeCells]; omega)
      have HT : Hid ((wr.setCells N (j * 7) (nodeCells x)).there N 0 (OS.length * 7)) := World.there_setCells hT _ _ _
      have HG : Hid (w0.grownBy (wr.setCells N (j * 7) (nodeCells x)) (some N)) := hg.trans (grown_setCells _ _ _ _)
      clear hx co hNs hT hg hth
      go_wp2_with ((with_reducible refine store55 N (j * 7) x ?hx ?hy ht7 ?hk); (case hx => rfl); (case hy => rfl))
      go_roundw
      case rel => exact ⟨j + 1, by omega, by go_num, HN.out, HT.out, HG.out⟩
      case measure => simp [intOf]; omega
    · have e : j = OS.length := by omega
      subst e
      go_wp2_with fail
      exact hK.out _ _ _ _ _ _ _ _ _ _ _ _ _ _ _ _ _ _ _ _ _ _ _ _ _ _ _ _ _ _ _ _ _ _ _ _ _ _ _ _ _ _ _ _ _ _ _ _ _ _ _ _ _ _ _ _ _ _ _ _ _ _ _ _ _ _ _ _ _ _ _ _ _ _ _ _ _ _ _ _ _ _ _ _ _ _ _ _ _ _ _ _ _ _ _ _ _ _ _ _ _ _ _ _ _ _ _ _ _ _ _ _ _ _ _ _ _ _ _ _ _ _ _ _ _ _ _ _ _ _ _ _ _ _ _ _ _ _ _ _ _ _ _ _ _ _ _ _ _ _ _ _ _ _ _ _ _ _ _ _ _ _ _ _ _ _ _ _ _ _ _ _ _ _ _ _ _ _ _ _ _ _ _ _ _ _ _ _ _ _ _ _ _ _ _ _ _ _ _ _ _ _ _ _ hNs hg
end Go.Proofs.Ybulkbmwk
