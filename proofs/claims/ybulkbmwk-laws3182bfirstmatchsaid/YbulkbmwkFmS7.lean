import Derived.Test.YbulkbmwkFmS3
namespace Go.Proofs.Ybulkbmwk
open Go.RowKit

/-- w' is w, but for answers drawn from the tape. -/
structure MemAs (w w' : World) : Prop where
  heap : w'.heap = w.heap
  os : w'.os = w.os
  tape : w'.tape = w.tape
  output : w'.output = w.output
theorem MemAs.refl (w : World) : MemAs w w := ⟨rfl, rfl, rfl, rfl⟩
theorem MemAs.drewN {w w' : World} (h : MemAs w w') (k : Nat) : MemAs w (w'.drewN k) := ⟨h.heap, h.os, h.tape, h.output⟩
theorem MemAs.cell {w w' : World} (h : MemAs w w') (a : Addr) : w'.cell? a = w.cell? a := by simp [World.cell?, h.heap]
theorem MemAs.below {w0 w w' : World} (h : MemAs w w') {N : Nat} (hb : Below N w0 w) : Below N w0 w' :=
  hb.trans ⟨h.os, h.tape, h.output, by rw [h.heap]; exact Nat.le_refl _, fun _ _ => by rw [h.heap]⟩
theorem MemAs.range {w w' : World} (h : MemAs w w') {b o : Nat} {cs : List Value} (hr : w.rangeAt b o cs) : w'.rangeAt b o cs := fun j v hv => (h.cell _).trans (hr j v hv)
theorem MemAs.rows {w w' : World} (h : MemAs w w') {a : Option Addr} {D : List (Int × Int)} (hr : DefRow w a D) : DefRow w' a D :=
  ⟨hr.1, fun hp => let ⟨b, off, e, hc⟩ := hr.2 hp; ⟨b, off, e, fun j hj => ⟨(h.cell _).trans (hc j hj).1, (h.cell _).trans (hc j hj).2⟩⟩⟩
theorem MemAs.list {w w' : World} (h : MemAs w w') {N m : Nat} {F : Nat → ByteArray} {G : Nat → Int} (hr : ListAt w N m F G) : ListAt w' N m F G := fun j hj => h.range (hr j hj)
theorem MemAs.op {w w' : World} (h : MemAs w w') {O : Nat} {onm : ByteArray} {oiv : Int} (hr : OpAt w O onm oiv) : OpAt w' O onm oiv := ⟨(h.cell _).trans hr.nm, (h.cell _).trans hr.iv⟩

theorem name_q (n : Int) (hn : 0 ≤ n ∧ n ≤ 255) (extra : ByteArray) (w : World) : Calls Yba.prog 9 #[.int .u8 n, .string extra] w fun e w' => e = .returned (.string (bname n extra)) ∧ w' = w :=
  (name_any n hn extra w).mono fun _ _ ⟨a, b⟩ => ⟨a, b.symm⟩
theorem iv_q (v : Int) (hv : -128 ≤ v ∧ v ≤ 127) (w : World) : Calls Yba.prog 10 #[.int .i8 v] w fun e w' => e = .returned (.int .i64 (biv v)) ∧ w' = w :=
  (iv_any v hv w).mono fun _ _ ⟨a, b⟩ => ⟨a, b.symm⟩

set_option maxHeartbeats 1000000 in
set_option maxRecDepth 100000 in
/-- THE SECOND LOOP: the first match is sought. -/
theorem fm_s7 (a : Option Addr) (cap : Nat) (D : List (Int × Int)) (extra onm : ByteArray) (oiv : Int) (N Df O : Nat) (r : Int) (w0 : World) (hD : DefRow w0 a D) (hO : OpAt w0 O onm oiv) (hm : D.length ≤ 1024) (hr : First (fun j => same (fD D extra j) (gD D j) onm oiv) D.length r)
    (R : Ending → World → Prop) (K : Act → World → Prop)
    (hK : Hid (∀ (wx : World) (u1 u2 u4 u5 u6 u7 u8 u10 u14 u15 u16 u17 u18 u19 u20 u21 u22 u23 u24 u25 u26 u27 u28 u29 u30 u31 u32 u33 u34 u35 u36 u37 u38 u39 u40 u41 u42 u43 u44 u45 u46 u47 u48 u49 u50 u51 u52 u53 u54 u55 u56 u57 u58 u59 u60 u61 u62 u63 u64 u65 u66 u67 u68 u69 u70 u71 u72 u73 u74 u75 u76 u77 u78 u79 u80 u81 u82 u83 u84 u85 u86 u87 u88 u89 u90 u91 u92 u93 u94 u95 u96 u97 u98 u99 u100 u101 u102 u103 u104 u105 u106 u107 u108 u109 u110 u111 u112 u113 u114 u115 u116 u117 u118 u119 u120 u121 u122 u123 u124 u125 u126 u127 u128 u129 u130 u131 u132 u133 u134 u135 u136 u137 u138 u139 u140 u141 u142 u143 u144 u145 : Value), MemAs w0 wx → K ⟨#[.slice a D.length cap, u1, u2, .string extra, u4, u5, u6, u7, u8, .slice (some ⟨N, 0, none⟩) D.length D.length, u10, .pointer (some ⟨Df, 0, none⟩), .pointer (some ⟨O, 0, none⟩), .int .i64 r, u14, u15, u16, u17, u18, u19, u20, u21, u22, u23, u24, u25, u26, u27, u28, u29, u30, u31, u32, u33, u34, u35, u36, u37, u38, u39, u40, u41, u42, u43, u44, u45, u46, u47, u48, u49, u50, u51, u52, u53, u54, u55, u56, u57, u58, u59, u60, u61, u62, u63, u64, u65, u66, u67, u68, u69, u70, u71, u72, u73, u74, u75, u76, u77, u78, u79, u80, u81, u82, u83, u84, u85, u86, u87, u88, u89, u90, u91, u92, u93, u94, u95, u96, u97, u98, u99, u100, u101, u102, u103, u104, u105, u106, u107, u108, u109, u110, u111, u112, u113, u114, u115, u116, u117, u118, u119, u120, u121, u122, u123, u124, u125, u126, u127, u128, u129, u130, u131, u132, u133, u134, u135, u136, u137, u138, u139, u140, u141, u142, u143, u144, u145], []⟩ wx)) (u1 u2 u4 u5 u6 u7 u8 u10 u14 u15 u16 u17 u18 u19 u20 u21 u22 u23 u24 u25 u26 u27 u28 u29 u30 u31 u32 u33 u34 u35 u36 u37 u38 u39 u40 u41 u42 u43 u44 u45 u46 u47 u48 u49 u50 u51 u52 u53 u54 u55 u56 u57 u58 u59 u60 u61 u62 u63 u64 u65 u66 u67 u68 u69 u70 u71 u72 u73 u74 u75 u76 u77 u78 u79 u80 u81 u82 u83 u84 u85 u86 u87 u88 u89 u90 u91 u92 u93 u94 u95 u96 u97 u98 u99 u100 u101 u102 u103 u104 u105 u106 u107 u108 u109 u110 u111 u112 u113 u114 u115 u116 u117 u118 u119 u120 u121 u122 u123 u124 u125 u126 u127 u128 u129 u130 u131 u132 u133 u134 u135 u136 u137 u138 u139 u140 u141 u142 u143 u144 u145 : Value) :
    Code.wp Yba.prog (nthN 7 (Yba.f4.body.getD .skip)) (Exit.then K (bodyPost Yba.prog Yba.f4 R)) ⟨#[.slice a D.length cap, u1, u2, .string extra, u4, u5, u6, u7, u8, .slice (some ⟨N, 0, none⟩) D.length D.length, u10, .pointer (some ⟨Df, 0, none⟩), .pointer (some ⟨O, 0, none⟩), .int .i64 (-1), u14, u15, u16, u17, u18, u19, u20, u21, u22, u23, u24, u25, u26, u27, u28, u29, u30, u31, u32, u33, u34, u35, u36, u37, u38, u39, u40, u41, u42, u43, u44, u45, u46, u47, u48, u49, u50, u51, u52, u53, u54, u55, u56, u57, u58, u59, u60, u61, u62, u63, u64, u65, u66, u67, u68, u69, u70, u71, u72, u73, u74, u75, u76, u77, u78, u79, u80, u81, u82, u83, u84, u85, u86, u87, u88, u89, u90, u91, u92, u93, u94, u95, u96, u97, u98, u99, u100, u101, u102, u103, u104, u105, u106, u107, u108, u109, u110, u111, u112, u113, u114, u115, u116, u117, u118, u119, u120, u121, u122, u123, u124, u125, u126, u127, u128, u129, u130, u131, u132, u133, u134, u135, u136, u137, u138, u139, u140, u141, u142, u143, u144, u145], []⟩ w0 := by
  conv => arg 2; whnf
  have HR : Hid (First (fun j => same (fD D extra j) (gD D j) onm oiv) D.length r) := hr
  clear hr
  go_wp2_with fail
  go_loopw [13, 14] (fun t i wx => ∃ k : Nat, k ≤ D.length ∧ i = .int .i64 k ∧ t = .int .i64 (-1) ∧ Hid (∀ j, j < k → same (fD D extra j) (gD D j) onm oiv = false) ∧ MemAs w0 wx) (fun _ i _ => D.length - (intOf i).toNat)
  case atStart => exact ⟨0, Nat.zero_le _, rfl, rfl, fun j hj => by omega, MemAs.refl _⟩
  case round =>
    obtain ⟨k, hk, rfl, rfl, HF, hS⟩ := hrel
    by_cases hlt : k < D.length
    · have hDr := hS.rows hD
      obtain ⟨o1, o4⟩ := hS.op hO
      obtain ⟨b1, b2⟩ := hDr.bounds hlt
      obtain ⟨bd, od, rfl, cd⟩ := hDr.2 (by omega)
      obtain ⟨c1, c2⟩ := cd k hlt
      have HP : Hid (same (fD D extra k) (gD D k) onm oiv = same (bname (D.getD k (0, 0)).1 extra) (biv (D.getD k (0, 0)).2) onm oiv) := rfl
      obtain ⟨x, hx⟩ : ∃ x, x = (D.getD k (0, 0)).1 := ⟨_, rfl⟩
      obtain ⟨y, hy⟩ : ∃ y, y = (D.getD k (0, 0)).2 := ⟨_, rfl⟩
      rw [← hx] at c1 b1 HP
      rw [← hy] at c2 b2 HP
      have hkk : (k : Int) < (D.length : Int) := by omega
      clear hx hy cd hDr hD hO
      by_cases hs : bname x extra = onm
      · have ht := strSame hs
        by_cases hi : biv y = oiv
        · have hj : (biv y == oiv) = true := by simpa using hi
          have HE : Hid (same (fD D extra k) (gD D k) onm oiv = true) := by show same (fD D extra k) (gD D k) onm oiv = true; rw [HP.out]; simp [same, hs, hi]
          clear hs hi
          go_wp2_with fail
          go_quiet ((first | (go_at_call 9; exact Calls.quiet_of_same (name_q x b1 extra _)) | (go_at_call 10; exact Calls.quiet_of_same (iv_q y b2 _))))
          go_wp2_with fail
          have e : r = k := HR.out.hit hlt HE.out HF.out
          subst e
          exact hK.out _ _ _ _ _ _ _ _ _ _ _ _ _ _ _ _ _ _ _ _ _ _ _ _ _ _ _ _ _ _ _ _ _ _ _ _ _ _ _ _ _ _ _ _ _ _ _ _ _ _ _ _ _ _ _ _ _ _ _ _ _ _ _ _ _ _ _ _ _ _ _ _ _ _ _ _ _ _ _ _ _ _ _ _ _ _ _ _ _ _ _ _ _ _ _ _ _ _ _ _ _ _ _ _ _ _ _ _ _ _ _ _ _ _ _ _ _ _ _ _ _ _ _ _ _ _ _ _ _ _ _ _ _ _ _ _ _ _ _ _ _ (hS.drewN _)
        · have hj : (biv y == oiv) = false := by simpa using hi
          have HE : Hid (same (fD D extra k) (gD D k) onm oiv = false) := by show same (fD D extra k) (gD D k) onm oiv = false; rw [HP.out]; simp [same, hi]
          clear hs hi
          go_wp2_with fail
          go_quiet ((first | (go_at_call 9; exact Calls.quiet_of_same (name_q x b1 extra _)) | (go_at_call 10; exact Calls.quiet_of_same (iv_q y b2 _))))
          go_wp2_with fail
          go_roundw
          case rel => exact ⟨k + 1, by omega, by go_num, rfl, step_no (p := fun j => same (fD D extra j) (gD D j) onm oiv) HF.out HE.out, hS.drewN _⟩
          case measure => simp [intOf]; omega
      · have ht := strNe hs
        have HE : Hid (same (fD D extra k) (gD D k) onm oiv = false) := by show same (fD D extra k) (gD D k) onm oiv = false; rw [HP.out]; simp [same, hs]
        clear hs
        go_wp2_with fail
        go_quiet ((first | (go_at_call 9; exact Calls.quiet_of_same (name_q x b1 extra _)) | (go_at_call 10; exact Calls.quiet_of_same (iv_q y b2 _))))
        go_wp2_with fail
        go_roundw
        case rel => exact ⟨k + 1, by omega, by go_num, rfl, step_no (p := fun j => same (fD D extra j) (gD D j) onm oiv) HF.out HE.out, hS.drewN _⟩
        case measure => simp [intOf]; omega
    · have e : k = D.length := by omega
      subst e
      have e : r = -1 := HR.out.miss HF.out
      subst e
      go_wp2_with fail
      exact hK.out _ _ _ _ _ _ _ _ _ _ _ _ _ _ _ _ _ _ _ _ _ _ _ _ _ _ _ _ _ _ _ _ _ _ _ _ _ _ _ _ _ _ _ _ _ _ _ _ _ _ _ _ _ _ _ _ _ _ _ _ _ _ _ _ _ _ _ _ _ _ _ _ _ _ _ _ _ _ _ _ _ _ _ _ _ _ _ _ _ _ _ _ _ _ _ _ _ _ _ _ _ _ _ _ _ _ _ _ _ _ _ _ _ _ _ _ _ _ _ _ _ _ _ _ _ _ _ _ _ _ _ _ _ _ _ _ _ _ _ _ _ hS
end Go.Proofs.Ybulkbmwk
