import Derived.Test.YbulkbmwkBansPlain
namespace Go.Proofs.Ybulkbmwk
open Go.RowKit Go.Maps

theorem toList_self (x : ByteArray) : (x.toList == x.toList) = true := by simp

set_option maxHeartbeats 4000000 in
set_option maxRecDepth 100000 in
/-- THE FOURTH LOOP, AND THE END. -/
theorem bans_t15 (aK aV aO : Option Addr) (cK cV cO : Nat) (KS VS OS : List ByteArray) (src : ByteArray) (n B R d : Nat) (w wr : World) (hK : StrRow wr aK KS) (hV : StrRow wr aV VS) (hO : StrRow wr aO OS)
    (hn1 : n ≤ KS.length) (hn2 : n ≤ VS.length) (hn3 : n ≤ 512) (_hO3 : OS.length ≤ 512) (hM : MapAt wr B (n + OS.length) ((KS.zip VS).take n ++ OS.map (fun o => (o, src)))) (hR : wr.cell? ⟨R, 8, none⟩ = some (.map (some B)))
    (hbl : Below w.heap.size w wr) (hd : Cnt OS d) (hd3 : d ≤ 512) (u4 u5 u6 u7 u8 u9 u10 u13 u14 u15 u16 u19 u20 u21 u22 u23 u24 u25 u26 u27 u28 u29 u30 u31 u32 u33 u34 u35 u36 u37 u38 u39 u40 u41 u42 u43 u44 u45 u46 u47 u48 u49 u50 u51 u52 u53 u54 u55 u56 u57 u58 u59 u60 u61 u62 u63 u64 u65 u66 u67 u68 u69 u70 u71 u72 u73 u74 u75 u76 u77 u78 u79 u80 u81 u82 u83 u84 u85 u86 u87 u88 u89 u90 u91 u92 u93 u94 u95 u96 u97 u98 u99 u100 u101 u102 u103 u104 u105 u106 u107 u108 u109 u110 u111 u112 u113 u114 u115 u116 u117 u118 u119 u120 u121 u122 u123 u124 u125 u126 u127 u128 u129 u130 u131 u132 u133 u134 u135 u136 u137 u138 u139 u140 u141 u142 u143 u144 u145 u146 u147 u148 u149 u150 u151 u152 u153 u154 u155 u156 u157 u158 u159 u160 u161 u162 u163 u164 u165 u166 u167 u168 u169 u170 u171 u172 u173 u174 u175 u176 u177 u178 u179 u180 u181 u182 u183 u184 u185 u186 u187 u188 u189 u190 u191 u192 u193 u194 u195 u196 u197 u198 u199 u200 u201 u202 u203 u204 u205 u206 u207 u208 u209 : Value) :
    Code.wp Yba.prog (tailN 15 (Yba.f5.body.getD .skip)) (bodyPost Yba.prog Yba.f5 fun e w' => e = .returned (.bool true) ∧ Below w.heap.size w w')
      ⟨#[.slice aK KS.length cK, .slice aV VS.length cV, .slice aO OS.length cO, .string src, u4, u5, u6, u7, u8, u9, u10, .int .i64 n, .map (some B), u13, u14, u15, u16, .pointer (some ⟨R, 0, none⟩), .int .i64 d, u19, u20, u21, u22, u23, u24, u25, u26, u27, u28, u29, u30, u31, u32, u33, u34, u35, u36, u37, u38, u39, u40, u41, u42, u43, u44, u45, u46, u47, u48, u49, u50, u51, u52, u53, u54, u55, u56, u57, u58, u59, u60, u61, u62, u63, u64, u65, u66, u67, u68, u69, u70, u71, u72, u73, u74, u75, u76, u77, u78, u79, u80, u81, u82, u83, u84, u85, u86, u87, u88, u89, u90, u91, u92, u93, u94, u95, u96, u97, u98, u99, u100, u101, u102, u103, u104, u105, u106, u107, u108, u109, u110, u111, u112, u113, u114, u115, u116, u117, u118, u119, u120, u121, u122, u123, u124, u125, u126, u127, u128, u129, u130, u131, u132, u133, u134, u135, u136, u137, u138, u139, u140, u141, u142, u143, u144, u145, u146, u147, u148, u149, u150, u151, u152, u153, u154, u155, u156, u157, u158, u159, u160, u161, u162, u163, u164, u165, u166, u167, u168, u169, u170, u171, u172, u173, u174, u175, u176, u177, u178, u179, u180, u181, u182, u183, u184, u185, u186, u187, u188, u189, u190, u191, u192, u193, u194, u195, u196, u197, u198, u199, u200, u201, u202, u203, u204, u205, u206, u207, u208, u209], []⟩ wr := by
  conv => arg 2; whnf
  have hlen := hM.len
  go_wp2_with fail
  go_loopw [18, 22] (fun dd i wx => ∃ j : Nat, j ≤ n ∧ i = .int .i64 j ∧ (∃ c : Nat, dd = .int .i64 c ∧ Cnt (OS ++ KS.take j) c ∧ c ≤ 512 + j) ∧ Hid (wr = wx)) (fun _ i _ => n - (intOf i).toNat)
  case atStart => exact ⟨0, Nat.zero_le _, rfl, ⟨d, rfl, by simpa using hd, by omega⟩, rfl⟩
  case round =>
    obtain ⟨j, hj, rfl, ⟨c, rfl, hcn, hc⟩, HW⟩ := hrel
    obtain rfl := HW.out
    clear HW
    by_cases hlt : j < n
    · obtain ⟨bk, ok, rfl, ck⟩ := hK.2.2 (by omega)
      have hls := take_snoc KS j (by omega)
      have ck1 := ck j (by omega)
      have sk := hK.2.1 _ (getD_mem KS j (by omega))
      obtain ⟨x, hx⟩ : ∃ x, x = KS.getD j ByteArray.empty := ⟨_, rfl⟩
      rw [← hx] at ck1 sk hls
      have HX : Hid (x = KS.getD j ByteArray.empty) := hx
      have HL : Hid (KS.take (j + 1) = KS.take j ++ [x]) := hls
      clear hx hls
      by_cases hin : isIn x OS = true
      · have HI : Hid (isIn x OS = true) := hin
        clear hin
        go_wp2_with (go_at_call 13; refine (cin_any _ _ OS _ x _ hO (Nat.le_refl _) true (by rw [List.take_length]; exact HI.out)).mono ?_; rintro e w' ⟨rfl, rfl⟩)
        go_roundw
        case rel =>
          refine ⟨j + 1, by omega, by go_num, ⟨c, rfl, ?_, by omega⟩, True.intro⟩
          rw [HL.out, ← List.append_assoc]
          exact hcn.old (List.mem_append.2 (.inl ((isIn_iff x OS).1 HI.out)))
        case measure => simp [intOf]; omega
      · have HI : Hid (isIn x OS = false) := Bool.eq_false_iff.2 hin
        clear hin
        go_wp2_with (go_at_call 13; refine (cin_any _ _ OS _ x _ hO (Nat.le_refl _) false (by rw [List.take_length]; exact HI.out)).mono ?_; rintro e w' ⟨rfl, rfl⟩)
        go_loopw [24, 25] (fun l t wx => ∃ (lq tq : Nat), l = .int .i64 lq ∧ t = .int .i64 tq ∧ j ≤ lq ∧ lq < tq ∧ tq ≤ n ∧ Hid (KS.getD lq ByteArray.empty = x ∧ ∀ q, lq < q → q < tq → KS.getD q ByteArray.empty ≠ x) ∧ Hid (wr = wx)) (fun _ t _ => n - (intOf t).toNat)
        case atStart => exact ⟨j, j + 1, rfl, by go_num, by omega, by omega, by omega, ⟨HX.out.symm, fun q h1 h2 => by omega⟩, rfl⟩
        case round =>
          obtain ⟨lq, tq, rfl, rfl, hl1, hl2, ht, HQ, HW⟩ := hrel
          obtain rfl := HW.out
          clear HW
          by_cases htn : tq < n
          · have ct := ck tq (by omega)
            obtain ⟨y, hy⟩ : ∃ y, y = KS.getD tq ByteArray.empty := ⟨_, rfl⟩
            rw [← hy] at ct
            have HY : Hid (y = KS.getD tq ByteArray.empty) := hy
            clear hy ck ck1
            by_cases he : y = x
            · have hs := str_same he
              have HE : Hid (y = x) := he
              clear he
              go_wp2_with fail
              go_roundw
              case rel => exact ⟨tq, tq + 1, rfl, by go_num, by omega, by omega, by omega, ⟨HY.out.symm.trans HE.out, fun q h1 h2 => by omega⟩, True.intro⟩
              case measure => simp [intOf]; omega
            · have hs := str_ne he
              have HE : Hid (y ≠ x) := he
              clear he
              go_wp2_with fail
              go_roundw
              case rel =>
                refine ⟨lq, tq + 1, rfl, by go_num, by omega, by omega, by omega, ⟨HQ.out.1, fun q h1 h2 => ?_⟩, True.intro⟩
                by_cases e : q = tq
                · subst e; rw [← HY.out]; exact HE.out
                · exact HQ.out.2 q h1 (by omega)
              case measure => simp [intOf]; omega
          · have e : tq = n := by omega
            subst e
            obtain ⟨bv, ov, rfl, cv⟩ := hV.2.2 (by omega)
            have cv1 := cv lq (by omega)
            have hlk := hM.look sk (last_key KS VS OS src x tq lq hn1 hn2 (by omega) HQ.out.1 ((isIn_false x OS).1 HI.out) HQ.out.2)
            obtain ⟨v, hv⟩ : ∃ v, v = VS.getD lq ByteArray.empty := ⟨_, rfl⟩
            rw [← hv] at cv1 hlk
            clear hv cv ck
            by_cases hpr : isIn x (KS.take j) = true
            · have HP : Hid (isIn x (KS.take j) = true) := hpr
              clear hpr
              go_wp2_with (go_at_call 13; refine (cin_any _ _ KS _ x _ hK (by omega) true (by exact HP.out)).mono ?_; rintro e w' ⟨rfl, rfl⟩)
              go_roundw
              case rel =>
                refine ⟨j + 1, by omega, by go_num, ⟨c, rfl, ?_, by omega⟩, True.intro⟩
                rw [HL.out, ← List.append_assoc]
                exact hcn.old (List.mem_append.2 (.inr ((isIn_iff x _).1 HP.out)))
              case measure => simp [intOf]; omega
            · have HP : Hid (isIn x (KS.take j) = false) := Bool.eq_false_iff.2 hpr
              clear hpr
              go_wp2_with (go_at_call 13; refine (cin_any _ _ KS _ x _ hK (by omega) false (by exact HP.out)).mono ?_; rintro e w' ⟨rfl, rfl⟩)
              go_roundw
              case rel =>
                refine ⟨j + 1, by omega, by go_num, ⟨c + 1, by go_num, ?_, by omega⟩, True.intro⟩
                rw [HL.out, ← List.append_assoc]
                refine hcn.fresh (fun h => ?_)
                rcases List.mem_append.1 h with h | h
                · exact (isIn_false x OS).1 HI.out h
                · exact (isIn_false x _).1 HP.out h
              case measure => simp [intOf]; omega
    · have e : j = n := by omega
      subst e
      have hsz : ((Maps.size (dat ((KS.zip VS).take j ++ OS.map (fun o => (o, src)))) : Int) == (c : Int)) = true := by
        have h1 := cnt_dat ((KS.zip VS).take j ++ OS.map (fun o => (o, src)))
        rw [zip_keys KS VS OS src j hn1 hn2] at h1
        have := h1.same hcn (fun x => by simp only [List.mem_append]; exact Or.comm)
        rw [this]; simp
      go_wp2_with fail
      go_ret
      exact ⟨rfl, hbl⟩
end Go.Proofs.Ybulkbmwk
