import Derived.Test.YbulkbmwkFmS7
namespace Go.Proofs.Ybulkbmwk
open Go.RowKit

set_option maxHeartbeats 1000000 in
set_option maxRecDepth 100000 in
/-- THE THIRD LOOP: the list is as it was. -/
theorem fm_s9 (a : Option Addr) (cap : Nat) (D : List (Int × Int)) (extra : ByteArray) (N Df : Nat) (r : Int) (g : Value) (w0 : World) (hD : DefRow w0 a D) (hL : ListAt w0 N D.length (fD D extra) (gD D)) (hm : D.length ≤ 1024)
    (R : Ending → World → Prop) (K : Act → World → Prop)
    (hK : Hid (∀ (wx : World) (u1 u2 u4 u5 u6 u7 u8 u10 u12 u14 u16 u17 u18 u19 u20 u21 u22 u23 u24 u25 u26 u27 u28 u29 u30 u31 u32 u33 u34 u35 u36 u37 u38 u39 u40 u41 u42 u43 u44 u45 u46 u47 u48 u49 u50 u51 u52 u53 u54 u55 u56 u57 u58 u59 u60 u61 u62 u63 u64 u65 u66 u67 u68 u69 u70 u71 u72 u73 u74 u75 u76 u77 u78 u79 u80 u81 u82 u83 u84 u85 u86 u87 u88 u89 u90 u91 u92 u93 u94 u95 u96 u97 u98 u99 u100 u101 u102 u103 u104 u105 u106 u107 u108 u109 u110 u111 u112 u113 u114 u115 u116 u117 u118 u119 u120 u121 u122 u123 u124 u125 u126 u127 u128 u129 u130 u131 u132 u133 u134 u135 u136 u137 u138 u139 u140 u141 u142 u143 u144 u145 : Value), MemAs w0 wx → K ⟨#[.slice a D.length cap, u1, u2, .string extra, u4, u5, u6, u7, u8, .slice (some ⟨N, 0, none⟩) D.length D.length, u10, .pointer (some ⟨Df, 0, none⟩), u12, .int .i64 r, u14, g, u16, u17, u18, u19, u20, u21, u22, u23, u24, u25, u26, u27, u28, u29, u30, u31, u32, u33, u34, u35, u36, u37, u38, u39, u40, u41, u42, u43, u44, u45, u46, u47, u48, u49, u50, u51, u52, u53, u54, u55, u56, u57, u58, u59, u60, u61, u62, u63, u64, u65, u66, u67, u68, u69, u70, u71, u72, u73, u74, u75, u76, u77, u78, u79, u80, u81, u82, u83, u84, u85, u86, u87, u88, u89, u90, u91, u92, u93, u94, u95, u96, u97, u98, u99, u100, u101, u102, u103, u104, u105, u106, u107, u108, u109, u110, u111, u112, u113, u114, u115, u116, u117, u118, u119, u120, u121, u122, u123, u124, u125, u126, u127, u128, u129, u130, u131, u132, u133, u134, u135, u136, u137, u138, u139, u140, u141, u142, u143, u144, u145], []⟩ wx)) (u1 u2 u4 u5 u6 u7 u8 u10 u12 u14 u16 u17 u18 u19 u20 u21 u22 u23 u24 u25 u26 u27 u28 u29 u30 u31 u32 u33 u34 u35 u36 u37 u38 u39 u40 u41 u42 u43 u44 u45 u46 u47 u48 u49 u50 u51 u52 u53 u54 u55 u56 u57 u58 u59 u60 u61 u62 u63 u64 u65 u66 u67 u68 u69 u70 u71 u72 u73 u74 u75 u76 u77 u78 u79 u80 u81 u82 u83 u84 u85 u86 u87 u88 u89 u90 u91 u92 u93 u94 u95 u96 u97 u98 u99 u100 u101 u102 u103 u104 u105 u106 u107 u108 u109 u110 u111 u112 u113 u114 u115 u116 u117 u118 u119 u120 u121 u122 u123 u124 u125 u126 u127 u128 u129 u130 u131 u132 u133 u134 u135 u136 u137 u138 u139 u140 u141 u142 u143 u144 u145 : Value) :
    Code.wp Yba.prog (nthN 9 (Yba.f4.body.getD .skip)) (Exit.then K (bodyPost Yba.prog Yba.f4 R)) ⟨#[.slice a D.length cap, u1, u2, .string extra, u4, u5, u6, u7, u8, .slice (some ⟨N, 0, none⟩) D.length D.length, u10, .pointer (some ⟨Df, 0, none⟩), u12, .int .i64 r, u14, g, u16, u17, u18, u19, u20, u21, u22, u23, u24, u25, u26, u27, u28, u29, u30, u31, u32, u33, u34, u35, u36, u37, u38, u39, u40, u41, u42, u43, u44, u45, u46, u47, u48, u49, u50, u51, u52, u53, u54, u55, u56, u57, u58, u59, u60, u61, u62, u63, u64, u65, u66, u67, u68, u69, u70, u71, u72, u73, u74, u75, u76, u77, u78, u79, u80, u81, u82, u83, u84, u85, u86, u87, u88, u89, u90, u91, u92, u93, u94, u95, u96, u97, u98, u99, u100, u101, u102, u103, u104, u105, u106, u107, u108, u109, u110, u111, u112, u113, u114, u115, u116, u117, u118, u119, u120, u121, u122, u123, u124, u125, u126, u127, u128, u129, u130, u131, u132, u133, u134, u135, u136, u137, u138, u139, u140, u141, u142, u143, u144, u145], []⟩ w0 := by
  conv => arg 2; whnf
  go_wp2_with fail
  go_loopw [16] (fun i wx => ∃ k : Nat, k ≤ D.length ∧ i = .int .i64 k ∧ MemAs w0 wx) (fun i _ => D.length - (intOf i).toNat)
  case atStart => exact ⟨0, Nat.zero_le _, rfl, MemAs.refl _⟩
  case round =>
    obtain ⟨k, hk, rfl, hS⟩ := hrel
    by_cases hlt : k < D.length
    · have hDr := hS.rows hD
      have hLr := hS.list hL k hlt
      have l0 := hLr 0 _ rfl
      have l1 := hLr 1 _ rfl
      have l2 := hLr 2 _ rfl
      have l3 := hLr 3 _ rfl
      rw [Nat.add_zero] at l0
      unfold fD at l0
      unfold gD at l1
      obtain ⟨b1, b2⟩ := hDr.bounds hlt
      obtain ⟨bd, od, rfl, cd⟩ := hDr.2 (by omega)
      obtain ⟨c1, c2⟩ := cd k hlt
      obtain ⟨x, hx⟩ : ∃ x, x = (D.getD k (0, 0)).1 := ⟨_, rfl⟩
      obtain ⟨y, hy⟩ : ∃ y, y = (D.getD k (0, 0)).2 := ⟨_, rfl⟩
      rw [← hx] at c1 b1 l0
      rw [← hy] at c2 b2 l1
      have hkk : (k : Int) < (D.length : Int) := by omega
      clear hx hy cd hDr hD hL hLr
      go_wp2_with fail
      go_quiet ((first | (go_at_call 9; exact Calls.quiet_of_same (name_q x b1 extra _)) | (go_at_call 10; exact Calls.quiet_of_same (iv_q y b2 _))))
      go_wp2_with fail
      go_roundw
      case rel => exact ⟨k + 1, by omega, by go_num, hS.drewN _⟩
      case measure => simp [intOf]; omega
    · have e : k = D.length := by omega
      subst e
      go_wp2_with fail
      exact hK.out _ _ _ _ _ _ _ _ _ _ _ _ _ _ _ _ _ _ _ _ _ _ _ _ _ _ _ _ _ _ _ _ _ _ _ _ _ _ _ _ _ _ _ _ _ _ _ _ _ _ _ _ _ _ _ _ _ _ _ _ _ _ _ _ _ _ _ _ _ _ _ _ _ _ _ _ _ _ _ _ _ _ _ _ _ _ _ _ _ _ _ _ _ _ _ _ _ _ _ _ _ _ _ _ _ _ _ _ _ _ _ _ _ _ _ _ _ _ _ _ _ _ _ _ _ _ _ _ _ _ _ _ _ _ _ _ _ _ _ _ _ hS
end Go.Proofs.Ybulkbmwk
