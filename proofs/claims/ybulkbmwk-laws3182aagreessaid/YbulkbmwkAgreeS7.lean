import Derived.Test.YbulkbmwkAgreeBase
namespace Go.Proofs.Ybulkbmwk
open Go.RowKit

/-- What the two rows come to hold. -/
def fZ (Z : List Int) (j : Nat) : Int := Z.getD j 0
def gY (Y : List Int) (j : Nat) : Int := if j < Y.length then Y.getD j 0 else 0
/-- The four rows, filled up to k. -/
structure Filled (w : World) (A A0 B B0 n k : Nat) (f g : Nat → Int) : Prop where
  a : RowF w A n (stage k f)
  a0 : RowF w A0 n (stage k f)
  b : RowF w B n (stage k g)
  b0 : RowF w B0 n (stage k g)
  fa : NoFz w A n
  fa0 : NoFz w A0 n
  fb : NoFz w B n
  fb0 : NoFz w B0 n
theorem Filled.two {w : World} {A A0 B B0 n k : Nat} {f g : Nat → Int} (h : Filled w A A0 B B0 n k f g) (hk : k < n) (h1 : A ≠ A0) (h2 : A ≠ B) (h3 : A ≠ B0) (h4 : A0 ≠ B) (h5 : A0 ≠ B0) (h0 : g k = 0) :
    Filled ((w.setCell ⟨A, k, none⟩ (.int .i64 (f k))).setCell ⟨A0, k, none⟩ (.int .i64 (f k))) A A0 B B0 n (k + 1) f g where
  a := row_other (fun e => h1 e.symm) (row_set h.a hk) _
  a0 := row_set (row_other h1 h.a0 _) hk
  b := row_other h4 (row_other h2 (row_zero h0 h.b) _) _
  b0 := row_other h5 (row_other h3 (row_zero h0 h.b0) _) _
  fa := nofz_set (nofz_set h.fa _ _) _ _
  fa0 := nofz_set (nofz_set h.fa0 _ _) _ _
  fb := nofz_set (nofz_set h.fb _ _) _ _
  fb0 := nofz_set (nofz_set h.fb0 _ _) _ _
theorem Filled.four {w : World} {A A0 B B0 n k : Nat} {f g : Nat → Int} (h : Filled w A A0 B B0 n k f g) (hk : k < n) (h1 : A ≠ A0) (h2 : A ≠ B) (h3 : A ≠ B0) (h4 : A0 ≠ B) (h5 : A0 ≠ B0) (h6 : B ≠ B0) :
    Filled ((((w.setCell ⟨A, k, none⟩ (.int .i64 (f k))).setCell ⟨A0, k, none⟩ (.int .i64 (f k))).setCell ⟨B, k, none⟩ (.int .i64 (g k))).setCell ⟨B0, k, none⟩ (.int .i64 (g k))) A A0 B B0 n (k + 1) f g where
  a := row_other (fun e => h3 e.symm) (row_other (fun e => h2 e.symm) (row_other (fun e => h1 e.symm) (row_set h.a hk) _) _) _
  a0 := row_other (fun e => h5 e.symm) (row_other (fun e => h4 e.symm) (row_set (row_other h1 h.a0 _) hk) _) _
  b := row_other (fun e => h6 e.symm) (row_set (row_other h4 (row_other h2 h.b _) _) hk) _
  b0 := row_set (row_other h6 (row_other h5 (row_other h3 h.b0 _) _) _) hk
  fa := nofz_set (nofz_set (nofz_set (nofz_set h.fa _ _) _ _) _ _) _ _
  fa0 := nofz_set (nofz_set (nofz_set (nofz_set h.fa0 _ _) _ _) _ _) _ _
  fb := nofz_set (nofz_set (nofz_set (nofz_set h.fb _ _) _ _) _ _) _ _
  fb0 := nofz_set (nofz_set (nofz_set (nofz_set h.fb0 _ _) _ _) _ _) _ _
theorem size_setCell (w : World) (a : Addr) (v : Value) : (w.setCell a v).heap.size = w.heap.size := by simp [World.setCell]
theorem stage_at (k : Nat) (h : Nat → Int) : stage k h k = 0 := by simp [stage]

set_option maxHeartbeats 1000000 in
set_option maxRecDepth 100000 in
/-- THE FIRST LOOP: the rows are filled. -/
theorem ag_s7 (prom : Bool) (a1 a2 : Option Addr) (c1 c2 : Nat) (Z Y : List Int) (sel : Int) (raw : ByteArray) (A A0 B B0 : Nat) (w w0 : World) (hZ : IntRow w a1 Z) (hY : IntRow w a2 Y) (hn : Z.length ≤ 1024) (hY63 : Y.length ≤ maxLen)
    (hF : Filled w0 A A0 B B0 Z.length 0 (fZ Z) (gY Y)) (hbl : Below w.heap.size w w0)
    (h1 : A ≠ A0) (h2 : A ≠ B) (h3 : A ≠ B0) (h4 : A0 ≠ B) (h5 : A0 ≠ B0) (h6 : B ≠ B0) (gA : w.heap.size ≤ A) (gA0 : w.heap.size ≤ A0) (gB : w.heap.size ≤ B) (gB0 : w.heap.size ≤ B0)
    (Q : Exit → Act → World → Prop) (K : Act → World → Prop)
    (hK : Hid (∀ (wx : World) (u5 u6 u7 u8 u9 u10 u16 u17 u18 u19 u20 u21 u22 u23 u24 u25 u26 u27 u28 u29 u30 u31 u32 u33 u34 u35 u36 u37 u38 u39 u40 u41 u42 u43 u44 u45 u46 u47 u48 u49 u50 u51 u52 u53 u54 u55 u56 u57 u58 u59 u60 u61 u62 u63 u64 u65 u66 u67 u68 u69 u70 u71 u72 u73 u74 u75 u76 u77 u78 u79 u80 u81 u82 u83 u84 u85 u86 u87 u88 u89 u90 u91 u92 u93 u94 u95 u96 u97 u98 u99 u100 u101 u102 u103 u104 u105 u106 u107 u108 u109 u110 u111 u112 u113 u114 u115 u116 u117 u118 u119 u120 u121 u122 u123 u124 u125 u126 u127 u128 u129 u130 u131 u132 u133 u134 u135 u136 u137 u138 u139 u140 u141 u142 u143 u144 u145 : Value), Filled wx A A0 B B0 Z.length Z.length (fZ Z) (gY Y) → Below w.heap.size w wx → wx.heap.size = w0.heap.size → K ⟨#[.bool prom, .slice a1 Z.length c1, .slice a2 Y.length c2, .int .u8 sel, .string raw, u5, u6, u7, u8, u9, u10, .int .i64 Z.length, .slice (some ⟨A, 0, none⟩) Z.length Z.length, .slice (some ⟨A0, 0, none⟩) Z.length Z.length, .slice (some ⟨B, 0, none⟩) Z.length Z.length, .slice (some ⟨B0, 0, none⟩) Z.length Z.length, u16, u17, u18, u19, u20, u21, u22, u23, u24, u25, u26, u27, u28, u29, u30, u31, u32, u33, u34, u35, u36, u37, u38, u39, u40, u41, u42, u43, u44, u45, u46, u47, u48, u49, u50, u51, u52, u53, u54, u55, u56, u57, u58, u59, u60, u61, u62, u63, u64, u65, u66, u67, u68, u69, u70, u71, u72, u73, u74, u75, u76, u77, u78, u79, u80, u81, u82, u83, u84, u85, u86, u87, u88, u89, u90, u91, u92, u93, u94, u95, u96, u97, u98, u99, u100, u101, u102, u103, u104, u105, u106, u107, u108, u109, u110, u111, u112, u113, u114, u115, u116, u117, u118, u119, u120, u121, u122, u123, u124, u125, u126, u127, u128, u129, u130, u131, u132, u133, u134, u135, u136, u137, u138, u139, u140, u141, u142, u143, u144, u145], []⟩ wx)) (u5 u6 u7 u8 u9 u10 u16 u17 u18 u19 u20 u21 u22 u23 u24 u25 u26 u27 u28 u29 u30 u31 u32 u33 u34 u35 u36 u37 u38 u39 u40 u41 u42 u43 u44 u45 u46 u47 u48 u49 u50 u51 u52 u53 u54 u55 u56 u57 u58 u59 u60 u61 u62 u63 u64 u65 u66 u67 u68 u69 u70 u71 u72 u73 u74 u75 u76 u77 u78 u79 u80 u81 u82 u83 u84 u85 u86 u87 u88 u89 u90 u91 u92 u93 u94 u95 u96 u97 u98 u99 u100 u101 u102 u103 u104 u105 u106 u107 u108 u109 u110 u111 u112 u113 u114 u115 u116 u117 u118 u119 u120 u121 u122 u123 u124 u125 u126 u127 u128 u129 u130 u131 u132 u133 u134 u135 u136 u137 u138 u139 u140 u141 u142 u143 u144 u145 : Value) :
    Code.wp Yba.prog (partN 7 (Yba.f3.body.getD .skip)) (Exit.then K Q) ⟨#[.bool prom, .slice a1 Z.length c1, .slice a2 Y.length c2, .int .u8 sel, .string raw, u5, u6, u7, u8, u9, u10, .int .i64 Z.length, .slice (some ⟨A, 0, none⟩) Z.length Z.length, .slice (some ⟨A0, 0, none⟩) Z.length Z.length, .slice (some ⟨B, 0, none⟩) Z.length Z.length, .slice (some ⟨B0, 0, none⟩) Z.length Z.length, u16, u17, u18, u19, u20, u21, u22, u23, u24, u25, u26, u27, u28, u29, u30, u31, u32, u33, u34, u35, u36, u37, u38, u39, u40, u41, u42, u43, u44, u45, u46, u47, u48, u49, u50, u51, u52, u53, u54, u55, u56, u57, u58, u59, u60, u61, u62, u63, u64, u65, u66, u67, u68, u69, u70, u71, u72, u73, u74, u75, u76, u77, u78, u79, u80, u81, u82, u83, u84, u85, u86, u87, u88, u89, u90, u91, u92, u93, u94, u95, u96, u97, u98, u99, u100, u101, u102, u103, u104, u105, u106, u107, u108, u109, u110, u111, u112, u113, u114, u115, u116, u117, u118, u119, u120, u121, u122, u123, u124, u125, u126, u127, u128, u129, u130, u131, u132, u133, u134, u135, u136, u137, u138, u139, u140, u141, u142, u143, u144, u145], []⟩ w0 := by
  conv => arg 2; whnf
  unfold maxLen at hY63
  go_wp2_with fail
  go_loopw [16] (fun i wx => ∃ k : Nat, k ≤ Z.length ∧ i = .int .i64 k ∧ Filled wx A A0 B B0 Z.length k (fZ Z) (gY Y) ∧ Below w.heap.size w wx ∧ Hid (wx.heap.size = w0.heap.size)) (fun i _ => Z.length - (intOf i).toNat)
  case atStart => exact ⟨0, Nat.zero_le _, rfl, hF, hbl, rfl⟩
  case round =>
    clear hF hbl
    obtain ⟨k, hk, rfl, hF, hbl, HS⟩ := hrel
    by_cases hlt : k < Z.length
    · obtain ⟨bz, oz, rfl, cz⟩ := hZ (by omega)
      have hzb : bz < w.heap.size := World.block_lt_of_cell? _ ⟨bz, oz + k, none⟩ (cz k hlt)
      have cz1 := (hbl.cell (p := ⟨bz, oz + k, none⟩) hzb).trans (cz k hlt)
      have cA := hF.a k hlt
      have cA0 := hF.a0 k hlt
      have cB := hF.b k hlt
      have cB0 := hF.b0 k hlt
      have zA := hF.fa k hlt
      have zA0 := hF.fa0 k hlt
      have zB := hF.fb k hlt
      have zB0 := hF.fb0 k hlt
      rw [stage_at] at cA cA0 cB cB0
      obtain ⟨x, hx⟩ : ∃ x, x = Z.getD k 0 := ⟨_, rfl⟩
      rw [← hx] at cz1
      have n1 : bz ≠ A := by omega
      have n2 : bz ≠ A0 := by omega
      have hkk : (k : Int) < (Z.length : Int) := by omega
      clear cz
      by_cases hm : k < Y.length
      · obtain ⟨by_, oy, rfl, cy⟩ := hY (by omega)
        have hyb : by_ < w.heap.size := World.block_lt_of_cell? _ ⟨by_, oy + k, none⟩ (cy k hm)
        have cy1 := (hbl.cell (p := ⟨by_, oy + k, none⟩) hyb).trans (cy k hm)
        obtain ⟨y, hy⟩ : ∃ y, y = Y.getD k 0 := ⟨_, rfl⟩
        rw [← hy] at cy1
        have hmm : (k : Int) < (Y.length : Int) := by omega
        have n3 : by_ ≠ A := by omega
        have n4 : by_ ≠ A0 := by omega
        have n5 : by_ ≠ B := by omega
        have hN := hF.four hlt h1 h2 h3 h4 h5 h6
        have ef : fZ Z k = x := hx.symm
        have eg : gY Y k = y := by unfold gY; rw [if_pos hm]; exact hy.symm
        rw [ef, eg] at hN
        have HN : Hid (Filled ((((wr.setCell ⟨A, k, none⟩ (.int .i64 x)).setCell ⟨A0, k, none⟩ (.int .i64 x)).setCell ⟨B, k, none⟩ (.int .i64 y)).setCell ⟨B0, k, none⟩ (.int .i64 y)) A A0 B B0 Z.length (k + 1) (fZ Z) (gY Y)) := hN
        clear hN hx hy ef eg cy hF
        go_wp2_with fail
        go_roundw
        case rel => exact ⟨k + 1, by omega, by go_num, HN.out, (((hbl.setCell gA _).setCell gA0 _).setCell gB _).setCell gB0 _, by show _ = _; simp only [size_setCell]; exact HS.out⟩
        case measure => simp [intOf]; omega
      · have hN := hF.two hlt h1 h2 h3 h4 h5 (by unfold gY; rw [if_neg hm])
        have ef : fZ Z k = x := hx.symm
        rw [ef] at hN
        have HN : Hid (Filled ((wr.setCell ⟨A, k, none⟩ (.int .i64 x)).setCell ⟨A0, k, none⟩ (.int .i64 x)) A A0 B B0 Z.length (k + 1) (fZ Z) (gY Y)) := hN
        have hmm : ¬ (k : Int) < (Y.length : Int) := by omega
        clear hN hx ef hF
        go_wp2_with fail
        go_roundw
        case rel => exact ⟨k + 1, by omega, by go_num, HN.out, (hbl.setCell gA _).setCell gA0 _, by show _ = _; simp only [size_setCell]; exact HS.out⟩
        case measure => simp [intOf]; omega
    · have e : k = Z.length := by omega
      subst e
      go_wp2_with fail
      exact hK.out _ _ _ _ _ _ _ _ _ _ _ _ _ _ _ _ _ _ _ _ _ _ _ _ _ _ _ _ _ _ _ _ _ _ _ _ _ _ _ _ _ _ _ _ _ _ _ _ _ _ _ _ _ _ _ _ _ _ _ _ _ _ _ _ _ _ _ _ _ _ _ _ _ _ _ _ _ _ _ _ _ _ _ _ _ _ _ _ _ _ _ _ _ _ _ _ _ _ _ _ _ _ _ _ _ _ _ _ _ _ _ _ _ _ _ _ _ _ _ _ _ _ _ _ _ _ _ _ _ _ _ _ _ _ _ _ _ hF hbl HS.out
end Go.Proofs.Ybulkbmwk
