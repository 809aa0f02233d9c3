import Derived.Test.YbulkbmwkAgreeS7
namespace Go.Proofs.Ybulkbmwk
open Go.RowKit

theorem bd30 (w : World) (prom : Bool) (A B n : Nat) : (Instr.build 30 #[(0, .bool prom), (4, .slice (some ⟨A, 0, none⟩) n n), (5, .slice (some ⟨B, 0, none⟩) n n)]).run Yba.prog w = .ok (.agg #[.bool prom, .slice none 0 0, .bool false, .slice none 0 0, .slice (some ⟨A, 0, none⟩) n n, .slice (some ⟨B, 0, none⟩) n n, .slice none 0 0, .slice none 0 0, .slice none 0 0]) w :=
  run_build w 30 _ _ (by kernel_rfl)

set_option maxHeartbeats 1000000 in
set_option maxRecDepth 100000 in
/-- THE SECOND LOOP, AND THE END. -/
theorem ag_t14 (prom : Bool) (A A0 B B0 P n : Nat) (f g : Nat → Int) (w w0 : World) (hn : n ≤ 1024) (hP : PlanAt w0 P A B n prom f g) (hA0 : RowF w0 A0 n f) (hB0 : RowF w0 B0 n g) (hbl : Below w.heap.size w w0) (u1 u2 u3 u4 u5 u6 u7 u8 u9 u10 u12 u14 u16 u17 u19 u20 u21 u22 u23 u24 u25 u26 u27 u28 u29 u30 u31 u32 u33 u34 u35 u36 u37 u38 u39 u40 u41 u42 u43 u44 u45 u46 u47 u48 u49 u50 u51 u52 u53 u54 u55 u56 u57 u58 u59 u60 u61 u62 u63 u64 u65 u66 u67 u68 u69 u70 u71 u72 u73 u74 u75 u76 u77 u78 u79 u80 u81 u82 u83 u84 u85 u86 u87 u88 u89 u90 u91 u92 u93 u94 u95 u96 u97 u98 u99 u100 u101 u102 u103 u104 u105 u106 u107 u108 u109 u110 u111 u112 u113 u114 u115 u116 u117 u118 u119 u120 u121 u122 u123 u124 u125 u126 u127 u128 u129 u130 u131 u132 u133 u134 u135 u136 u137 u138 u139 u140 u141 u142 u143 u144 u145 : Value) :
    Code.wp Yba.prog (afterN 14 (Yba.f3.body.getD .skip)) (bodyPost Yba.prog Yba.f3 fun e w' => e = .returned (.bool true) ∧ Below w.heap.size w w') ⟨#[.bool prom, u1, u2, u3, u4, u5, u6, u7, u8, u9, u10, .int .i64 n, u12, .slice (some ⟨A0, 0, none⟩) n n, u14, .slice (some ⟨B0, 0, none⟩) n n, u16, u17, .pointer (some ⟨P, 0, none⟩), u19, u20, u21, u22, u23, u24, u25, u26, u27, u28, u29, u30, u31, u32, u33, u34, u35, u36, u37, u38, u39, u40, u41, u42, u43, u44, u45, u46, u47, u48, u49, u50, u51, u52, u53, u54, u55, u56, u57, u58, u59, u60, u61, u62, u63, u64, u65, u66, u67, u68, u69, u70, u71, u72, u73, u74, u75, u76, u77, u78, u79, u80, u81, u82, u83, u84, u85, u86, u87, u88, u89, u90, u91, u92, u93, u94, u95, u96, u97, u98, u99, u100, u101, u102, u103, u104, u105, u106, u107, u108, u109, u110, u111, u112, u113, u114, u115, u116, u117, u118, u119, u120, u121, u122, u123, u124, u125, u126, u127, u128, u129, u130, u131, u132, u133, u134, u135, u136, u137, u138, u139, u140, u141, u142, u143, u144, u145], []⟩ w0 := by
  conv => arg 2; whnf
  go_wp2_with fail
  go_loopw [21] (fun i wx => ∃ k : Nat, k ≤ n ∧ i = .int .i64 k ∧ DrawnFrom w0 wx) (fun i _ => n - (intOf i).toNat)
  case atStart => exact ⟨0, Nat.zero_le _, rfl, DrawnFrom.refl _⟩
  case round =>
    obtain ⟨k, hk, rfl, hd⟩ := hrel
    by_cases hlt : k < n
    · obtain ⟨_, p4, p5, rA, rB⟩ := hd.plan hP
      have cA := rA k hlt
      have cB := rB k hlt
      have cA0 := (hd.row hA0) k hlt
      have cB0 := (hd.row hB0) k hlt
      obtain ⟨x, hx⟩ : ∃ x, x = f k := ⟨_, rfl⟩
      obtain ⟨y, hy⟩ : ∃ y, y = g k := ⟨_, rfl⟩
      rw [← hx] at cA cA0
      rw [← hy] at cB cB0
      have hkk : (k : Int) < (n : Int) := by omega
      clear hx hy rA rB hP hA0 hB0
      go_wp2_with fail
      go_quiet (fail)
      go_wp2_with fail
      go_roundw
      case rel => exact ⟨k + 1, by omega, by go_num, hd.trans (DrawnFrom.drewN _ _)⟩
      case measure => simp [intOf]; omega
    · go_wp2_with fail
      go_ret
      exact ⟨rfl, hd.below hbl⟩

set_option maxHeartbeats 1000000 in
set_option maxRecDepth 100000 in
/-- FROM THE ROLE ON. -/
theorem ag_t8 (prom : Bool) (sel : Int) (hsel : 0 ≤ sel ∧ sel ≤ 255) (raw : ByteArray) (A A0 B B0 n : Nat) (f g : Nat → Int) (w w0 : World) (hn : n ≤ 1024) (hA : RowF w0 A n f) (hA0 : RowF w0 A0 n f) (hB : RowF w0 B n g) (hB0 : RowF w0 B0 n g)
    (lA : A < w0.heap.size) (lA0 : A0 < w0.heap.size) (lB : B < w0.heap.size) (lB0 : B0 < w0.heap.size) (hbl : Below w.heap.size w w0) (u1 u2 u5 u6 u7 u8 u9 u10 u16 u17 u18 u19 u20 u21 u22 u23 u24 u25 u26 u27 u28 u29 u30 u31 u32 u33 u34 u35 u36 u37 u38 u39 u40 u41 u42 u43 u44 u45 u46 u47 u48 u49 u50 u51 u52 u53 u54 u55 u56 u57 u58 u59 u60 u61 u62 u63 u64 u65 u66 u67 u68 u69 u70 u71 u72 u73 u74 u75 u76 u77 u78 u79 u80 u81 u82 u83 u84 u85 u86 u87 u88 u89 u90 u91 u92 u93 u94 u95 u96 u97 u98 u99 u100 u101 u102 u103 u104 u105 u106 u107 u108 u109 u110 u111 u112 u113 u114 u115 u116 u117 u118 u119 u120 u121 u122 u123 u124 u125 u126 u127 u128 u129 u130 u131 u132 u133 u134 u135 u136 u137 u138 u139 u140 u141 u142 u143 u144 u145 : Value) :
    Code.wp Yba.prog (afterN 8 (Yba.f3.body.getD .skip)) (bodyPost Yba.prog Yba.f3 fun e w' => e = .returned (.bool true) ∧ Below w.heap.size w w') ⟨#[.bool prom, u1, u2, .int .u8 sel, .string raw, u5, u6, u7, u8, u9, u10, .int .i64 n, .slice (some ⟨A, 0, none⟩) n n, .slice (some ⟨A0, 0, none⟩) n n, .slice (some ⟨B, 0, none⟩) n n, .slice (some ⟨B0, 0, none⟩) n n, u16, u17, u18, u19, u20, u21, u22, u23, u24, u25, u26, u27, u28, u29, u30, u31, u32, u33, u34, u35, u36, u37, u38, u39, u40, u41, u42, u43, u44, u45, u46, u47, u48, u49, u50, u51, u52, u53, u54, u55, u56, u57, u58, u59, u60, u61, u62, u63, u64, u65, u66, u67, u68, u69, u70, u71, u72, u73, u74, u75, u76, u77, u78, u79, u80, u81, u82, u83, u84, u85, u86, u87, u88, u89, u90, u91, u92, u93, u94, u95, u96, u97, u98, u99, u100, u101, u102, u103, u104, u105, u106, u107, u108, u109, u110, u111, u112, u113, u114, u115, u116, u117, u118, u119, u120, u121, u122, u123, u124, u125, u126, u127, u128, u129, u130, u131, u132, u133, u134, u135, u136, u137, u138, u139, u140, u141, u142, u143, u144, u145], []⟩ w0 := by
  refine wp_seq_k (x := partN 8 (Yba.f3.body.getD .skip)) (y := afterN 9 (Yba.f3.body.getD .skip)) ?_
  intro K hk
  have HK : Hid _ := hk
  clear hk
  conv => arg 2; whnf
  go_wp2_with (go_at_call 6; refine (role_any sel hsel raw _).mono ?_; rintro e w' ⟨role, rfl, rfl⟩)
  refine HK.out _ _ ?_
  clear HK K
  have hb30 := bd30
  refine wp_seq_k (x := partN 9 (Yba.f3.body.getD .skip)) (y := afterN 10 (Yba.f3.body.getD .skip)) ?_
  intro K hk
  have HK : Hid _ := hk
  clear hk
  conv => arg 2; whnf
  go_wp2_with (fail)
  refine HK.out _ _ ?_
  clear HK K
  clear hb30
  obtain ⟨P, hPe⟩ : ∃ P, P = w0.heap.size := ⟨_, rfl⟩
  rw [← hPe]
  obtain ⟨W, hW⟩ : ∃ W, W = w0.alloc (.cells #[.bool prom, .slice none 0 0, .bool false, .slice none 0 0, .slice (some ⟨A, 0, none⟩) n n, .slice (some ⟨B, 0, none⟩) n n, .slice none 0 0, .slice none 0 0, .slice none 0 0] 30) := ⟨_, rfl⟩
  rw [show w0.alloc (.cells #[.bool prom, .slice none 0 0, .bool false, .slice none 0 0, .slice (some ⟨A, 0, none⟩) n n, .slice (some ⟨B, 0, none⟩) n n, .slice none 0 0, .slice none 0 0, .slice none 0 0] 30) = W from hW.symm]
  have hpl : PlanAt W P A B n prom f g := by
    subst hW; subst hPe
    exact ⟨by simp, by simp, by simp, row_alloc hA lA _, row_alloc hB lB _⟩
  have hA0' : RowF W A0 n f := by subst hW; exact row_alloc hA0 lA0 _
  have hB0' : RowF W B0 n g := by subst hW; exact row_alloc hB0 lB0 _
  have hblW : Below w.heap.size w W := by subst hW; exact hbl.alloc hbl.size _
  clear hW hPe hA hA0 hB hB0 hbl
  refine wp_seq_k (x := partN 10 (Yba.f3.body.getD .skip)) (y := afterN 11 (Yba.f3.body.getD .skip)) ?_
  intro K hk
  have HK : Hid _ := hk
  clear hk
  conv => arg 2; whnf
  go_wp2_with (go_at_call 7; refine (anywhere P A B n prom f g role _ hpl hn).mono ?_; rintro e w1 ⟨rfl, hd1⟩)
  refine HK.out _ _ ?_
  clear HK K
  refine wp_seq_k (x := partN 11 (Yba.f3.body.getD .skip)) (y := afterN 12 (Yba.f3.body.getD .skip)) ?_
  intro K hk
  have HK : Hid _ := hk
  clear hk
  conv => arg 2; whnf
  go_wp2_with (go_at_call 8; refine (model_any A0 B0 n prom f g role _ (hd1.row hA0') (hd1.row hB0') hn).mono ?_; rintro e w2 ⟨rfl, hd2⟩)
  refine HK.out _ _ ?_
  clear HK K
  have hD := hd1.trans hd2
  obtain ⟨b, hb⟩ : ∃ b, b = anyHold prom f g role n := ⟨_, rfl⟩
  rw [← hb]
  clear hb
  refine wp_seq_k (x := partN 12 (Yba.f3.body.getD .skip)) (y := afterN 13 (Yba.f3.body.getD .skip)) ?_
  intro K hk
  have HK : Hid _ := hk
  clear hk
  conv => arg 2; whnf
  go_wp2_with (fail)
  refine HK.out _ _ ?_
  clear HK K
  have hpl2 := hD.plan hpl
  obtain ⟨p0, p4, p5, _, _⟩ := hpl2
  refine wp_seq_k (x := partN 13 (Yba.f3.body.getD .skip)) (y := afterN 14 (Yba.f3.body.getD .skip)) ?_
  intro K hk
  have HK : Hid _ := hk
  clear hk
  conv => arg 2; whnf
  go_wp2_with (fail)
  refine HK.out _ _ ?_
  clear HK K
  exact ag_t14 prom A A0 B B0 P n f g w w2 hn (hD.plan hpl) (hD.row hA0') (hD.row hB0') (hD.below hblW) _ _ _ _ _ _ _ _ _ _ _ _ _ _ _ _ _ _ _ _ _ _ _ _ _ _ _ _ _ _ _ _ _ _ _ _ _ _ _ _ _ _ _ _ _ _ _ _ _ _ _ _ _ _ _ _ _ _ _ _ _ _ _ _ _ _ _ _ _ _ _ _ _ _ _ _ _ _ _ _ _ _ _ _ _ _ _ _ _ _ _ _ _ _ _ _ _ _ _ _ _ _ _ _ _ _ _ _ _ _ _ _ _ _ _ _ _ _ _ _ _ _ _ _ _ _ _ _ _ _ _ _ _ _ _ _ _ _ _ _ _
end Go.Proofs.Ybulkbmwk
