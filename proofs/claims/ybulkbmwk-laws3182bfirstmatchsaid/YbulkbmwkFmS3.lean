import Derived.Test.YbulkbmwkFmBase
import Derived.Deep.RegionWith
import Derived.Maps.AppendAt
namespace Go.Proofs.Ybulkbmwk
open Go.RowKit

/-- The statements of a body from the n-th on; its n-th statement. -/
def fromN : Nat → Code → Code
  | 0, c => c
  | n + 1, .seq _ b => fromN n b
  | _ + 1, c => c
def nthN : Nat → Code → Code
  | 0, .seq a _ => a
  | n + 1, .seq _ b => nthN n b
  | _, c => c

/-- WHAT THE WALKS ARE TOLD OF THE SLICE OF DEFINITIONS: two cells each, the numbers in their kinds' bounds. -/
def DefRow (w : World) (a : Option Addr) (D : List (Int × Int)) : Prop :=
  (∀ d ∈ D, (0 ≤ d.1 ∧ d.1 ≤ 255) ∧ (-128 ≤ d.2 ∧ d.2 ≤ 127)) ∧
  (0 < D.length → ∃ b off, a = some ⟨b, off, none⟩ ∧ ∀ j, j < D.length → w.cell? ⟨b, off + j * 2, none⟩ = some (.int .u8 (D.getD j (0, 0)).1) ∧ w.cell? ⟨b, off + j * 2 + 1, none⟩ = some (.int .i8 (D.getD j (0, 0)).2))
theorem DefRow.below {w w' : World} {a : Option Addr} {D : List (Int × Int)} (h : DefRow w a D) (hb : Below w.heap.size w w') : DefRow w' a D := by
  refine ⟨h.1, fun hp => ?_⟩
  obtain ⟨b, off, rfl, hc⟩ := h.2 hp
  refine ⟨b, off, rfl, fun j hj => ?_⟩
  obtain ⟨c1, c2⟩ := hc j hj
  exact ⟨(hb.cell (p := ⟨b, off + j * 2, none⟩) (World.block_lt_of_cell? _ _ c1)).trans c1, (hb.cell (p := ⟨b, off + j * 2 + 1, none⟩) (World.block_lt_of_cell? _ _ c2)).trans c2⟩
theorem DefRow.bounds {w : World} {a : Option Addr} {D : List (Int × Int)} (h : DefRow w a D) {j : Nat} (hj : j < D.length) : (0 ≤ (D.getD j (0, 0)).1 ∧ (D.getD j (0, 0)).1 ≤ 255) ∧ (-128 ≤ (D.getD j (0, 0)).2 ∧ (D.getD j (0, 0)).2 ≤ 127) := by
  refine h.1 _ ?_
  simp [List.getD, hj]
def fD (D : List (Int × Int)) (extra : ByteArray) (j : Nat) : ByteArray := bname (D.getD j (0, 0)).1 extra
def gD (D : List (Int × Int)) (j : Nat) : Int := biv (D.getD j (0, 0)).2
theorem bd43 (w : World) (nm : ByteArray) (iv : Int) : (Instr.build 43 #[(0, .string nm), (1, .int .i64 iv), (2, .string ⟨#[83, 116, 97, 114, 116, 101, 100]⟩), (3, .string ⟨#[115, 116, 111, 112]⟩)]).run Yba.prog w = .ok (.agg #[.string nm, .int .i64 iv, .string ⟨#[83, 116, 97, 114, 116, 101, 100]⟩, .string ⟨#[115, 116, 111, 112]⟩]) w :=
  run_build w 43 _ _ (by kernel_rfl)
theorem grown_rf (w : World) (row : Option Nat) : w.grownBy w row := ⟨rfl, rfl, rfl, Nat.le_refl _, fun _ _ _ => rfl⟩
theorem grown_dr (w : World) (row : Option Nat) : w.grownBy w.drew row := ⟨rfl, rfl, rfl, Nat.le_refl _, fun _ _ _ => rfl⟩
theorem grown_cells : ∀ (vs : List Value) (w : World) (N o : Nat), w.grownBy (w.setCells N o vs) (some N)
  | [], w, _, _ => grown_rf w _
  | v :: vs, w, N, o => by
    rw [World.setCells]
    refine World.grownBy.trans (b := w.setCell ⟨N, o, none⟩ v) ⟨rfl, rfl, rfl, by simp [World.setCell], fun k _ hne => Below.heap_setCell w _ _ k (fun e => hne (by rw [e]))⟩ (grown_cells vs _ N (o + 1))

set_option maxHeartbeats 1000000 in
set_option maxRecDepth 100000 in
/-- THE FIRST LOOP: the list is filled. -/
theorem fm_s3 (a : Option Addr) (cap : Nat) (D : List (Int × Int)) (opN opIv : Int) (extra : ByteArray) (N : Nat) (w0 : World) (hD : Hid (∀ wx, w0.grownBy wx (some N) → DefRow wx a D)) (hm : D.length ≤ 1024) (hth : w0.there N 0 (D.length * 4))
    (R : Ending → World → Prop) (K : Act → World → Prop)
    (hK : Hid (∀ (wx : World) (u4 u5 u6 u7 u8 u10 u11 u12 u13 u14 u15 u16 u17 u18 u19 u20 u21 u22 u23 u24 u25 u26 u27 u28 u29 u30 u31 u32 u33 u34 u35 u36 u37 u38 u39 u40 u41 u42 u43 u44 u45 u46 u47 u48 u49 u50 u51 u52 u53 u54 u55 u56 u57 u58 u59 u60 u61 u62 u63 u64 u65 u66 u67 u68 u69 u70 u71 u72 u73 u74 u75 u76 u77 u78 u79 u80 u81 u82 u83 u84 u85 u86 u87 u88 u89 u90 u91 u92 u93 u94 u95 u96 u97 u98 u99 u100 u101 u102 u103 u104 u105 u106 u107 u108 u109 u110 u111 u112 u113 u114 u115 u116 u117 u118 u119 u120 u121 u122 u123 u124 u125 u126 u127 u128 u129 u130 u131 u132 u133 u134 u135 u136 u137 u138 u139 u140 u141 u142 u143 u144 u145 : Value), ListAt wx N D.length (fD D extra) (gD D) → w0.grownBy wx (some N) → K ⟨#[.slice a D.length cap, .int .u8 opN, .int .i8 opIv, .string extra, u4, u5, u6, u7, u8, .slice (some ⟨N, 0, none⟩) D.length D.length, u10, u11, u12, u13, u14, u15, u16, u17, u18, u19, u20, u21, u22, u23, u24, u25, u26, u27, u28, u29, u30, u31, u32, u33, u34, u35, u36, u37, u38, u39, u40, u41, u42, u43, u44, u45, u46, u47, u48, u49, u50, u51, u52, u53, u54, u55, u56, u57, u58, u59, u60, u61, u62, u63, u64, u65, u66, u67, u68, u69, u70, u71, u72, u73, u74, u75, u76, u77, u78, u79, u80, u81, u82, u83, u84, u85, u86, u87, u88, u89, u90, u91, u92, u93, u94, u95, u96, u97, u98, u99, u100, u101, u102, u103, u104, u105, u106, u107, u108, u109, u110, u111, u112, u113, u114, u115, u116, u117, u118, u119, u120, u121, u122, u123, u124, u125, u126, u127, u128, u129, u130, u131, u132, u133, u134, u135, u136, u137, u138, u139, u140, u141, u142, u143, u144, u145], []⟩ wx)) (u4 u5 u6 u7 u8 u10 u11 u12 u13 u14 u15 u16 u17 u18 u19 u20 u21 u22 u23 u24 u25 u26 u27 u28 u29 u30 u31 u32 u33 u34 u35 u36 u37 u38 u39 u40 u41 u42 u43 u44 u45 u46 u47 u48 u49 u50 u51 u52 u53 u54 u55 u56 u57 u58 u59 u60 u61 u62 u63 u64 u65 u66 u67 u68 u69 u70 u71 u72 u73 u74 u75 u76 u77 u78 u79 u80 u81 u82 u83 u84 u85 u86 u87 u88 u89 u90 u91 u92 u93 u94 u95 u96 u97 u98 u99 u100 u101 u102 u103 u104 u105 u106 u107 u108 u109 u110 u111 u112 u113 u114 u115 u116 u117 u118 u119 u120 u121 u122 u123 u124 u125 u126 u127 u128 u129 u130 u131 u132 u133 u134 u135 u136 u137 u138 u139 u140 u141 u142 u143 u144 u145 : Value) :
    Code.wp Yba.prog (nthN 3 (Yba.f4.body.getD .skip)) (Exit.then K (bodyPost Yba.prog Yba.f4 R)) ⟨#[.slice a D.length cap, .int .u8 opN, .int .i8 opIv, .string extra, u4, u5, u6, u7, u8, .slice (some ⟨N, 0, none⟩) D.length D.length, u10, u11, u12, u13, u14, u15, u16, u17, u18, u19, u20, u21, u22, u23, u24, u25, u26, u27, u28, u29, u30, u31, u32, u33, u34, u35, u36, u37, u38, u39, u40, u41, u42, u43, u44, u45, u46, u47, u48, u49, u50, u51, u52, u53, u54, u55, u56, u57, u58, u59, u60, u61, u62, u63, u64, u65, u66, u67, u68, u69, u70, u71, u72, u73, u74, u75, u76, u77, u78, u79, u80, u81, u82, u83, u84, u85, u86, u87, u88, u89, u90, u91, u92, u93, u94, u95, u96, u97, u98, u99, u100, u101, u102, u103, u104, u105, u106, u107, u108, u109, u110, u111, u112, u113, u114, u115, u116, u117, u118, u119, u120, u121, u122, u123, u124, u125, u126, u127, u128, u129, u130, u131, u132, u133, u134, u135, u136, u137, u138, u139, u140, u141, u142, u143, u144, u145], []⟩ w0 := by
  conv => arg 2; whnf
  have hbd := bd43
  go_wp2_with fail
  go_loopw [10] (fun i wx => ∃ j : Nat, j ≤ D.length ∧ i = .int .i64 j ∧ (∀ t, t < j → wx.rangeAt N (t * 4) (defCells (fD D extra t) (gD D t))) ∧ wx.there N 0 (D.length * 4) ∧ w0.grownBy wx (some N)) (fun i _ => D.length - (intOf i).toNat)
  case atStart => exact ⟨0, Nat.zero_le _, rfl, fun t h => by omega, hth, grown_rf _ _⟩
  case round =>
    obtain ⟨j, hj, rfl, hNs, hT, hg⟩ := hrel
    by_cases hlt : j < D.length
    · have hDr := hD.out _ hg
      obtain ⟨b1, b2⟩ := hDr.bounds hlt
      obtain ⟨bd, od, rfl, cd⟩ := hDr.2 (by omega)
      obtain ⟨c1, c2⟩ := cd j hlt
      have HFx : Hid (fD D extra j = bname (D.getD j (0, 0)).1 extra) := rfl
      have HGy : Hid (gD D j = biv (D.getD j (0, 0)).2) := rfl
      obtain ⟨x, hx⟩ : ∃ x, x = (D.getD j (0, 0)).1 := ⟨_, rfl⟩
      obtain ⟨y, hy⟩ : ∃ y, y = (D.getD j (0, 0)).2 := ⟨_, rfl⟩
      rw [← hx] at c1 b1 HFx
      rw [← hy] at c2 b2 HGy
      clear hx hy cd hDr
      have t4 : wr.there N (j * 4) 4 := fun i hi => by have := hT (j * 4 + i) (by omega); simpa using this
      obtain ⟨⟨v0, e0⟩, z0⟩ := And.imp_left Option.isSome_iff_exists.1 (t4 0 (by omega))
      obtain ⟨⟨v1, e1⟩, z1⟩ := And.imp_left Option.isSome_iff_exists.1 (t4 1 (by omega))
      obtain ⟨⟨v2, e2⟩, z2⟩ := And.imp_left Option.isSome_iff_exists.1 (t4 2 (by omega))
      obtain ⟨⟨v3, e3⟩, z3⟩ := And.imp_left Option.isSome_iff_exists.1 (t4 3 (by omega))
      rw [Nat.add_zero] at e0 z0
      have hset : (wr.setCells N (j * 4) (defCells (bname x extra) (biv y))).drew = ((((wr.setCell ⟨N, j * 4, none⟩ (.string (bname x extra))).setCell ⟨N, j * 4 + 1, none⟩ (.int .i64 (biv y))).setCell ⟨N, j * 4 + 2, none⟩ (.string ⟨#[83, 116, 97, 114, 116, 101, 100]⟩)).setCell ⟨N, j * 4 + 3, none⟩ (.string ⟨#[115, 116, 111, 112]⟩)).drew := rfl
      have HN : Hid (∀ t, t < j + 1 → (((((wr.setCell ⟨N, j * 4, none⟩ (.string (bname x extra))).setCell ⟨N, j * 4 + 1, none⟩ (.int .i64 (biv y))).setCell ⟨N, j * 4 + 2, none⟩ (.string ⟨#[83, 116, 97, 114, 116, 101, 100]⟩)).setCell ⟨N, j * 4 + 3, none⟩ (.string ⟨#[115, 116, 111, 112]⟩)).drew).rangeAt N (t * 4) (defCells (fD D extra t) (gD D t))) := fun t ht => by
        rw [← hset, World.rangeAt_drew]
        by_cases e : t = j
        · subst e; rw [HFx.out, HGy.out]; exact World.rangeAt_setCells_same _ _ _ _ t4
        · exact World.rangeAt_setCells_apart (hNs t (by omega)) _ _ _ (by simp [defCells]; omega)
      have HT : Hid ((((((wr.setCell ⟨N, j * 4, none⟩ (.string (bname x extra))).setCell ⟨N, j * 4 + 1, none⟩ (.int .i64 (biv y))).setCell ⟨N, j * 4 + 2, none⟩ (.string ⟨#[83, 116, 97, 114, 116, 101, 100]⟩)).setCell ⟨N, j * 4 + 3, none⟩ (.string ⟨#[115, 116, 111, 112]⟩)).drew).there N 0 (D.length * 4)) := by
        show World.there _ _ _ _
        rw [← hset, World.there_drew]; exact World.there_setCells hT _ _ _
      have HG : Hid (w0.grownBy (((((wr.setCell ⟨N, j * 4, none⟩ (.string (bname x extra))).setCell ⟨N, j * 4 + 1, none⟩ (.int .i64 (biv y))).setCell ⟨N, j * 4 + 2, none⟩ (.string ⟨#[83, 116, 97, 114, 116, 101, 100]⟩)).setCell ⟨N, j * 4 + 3, none⟩ (.string ⟨#[115, 116, 111, 112]⟩)).drew) (some N)) := by
        show World.grownBy _ _ _
        rw [← hset]; exact (hg.trans (grown_cells _ _ _ _)).trans (grown_dr _ _)
      have hjj : (j : Int) < (D.length : Int) := by omega
      clear hNs hT hg hth t4 HFx HGy hset
      go_wp2_with fail
      go_region_with (first | (go_at_call 9; refine (name_any x b1 extra _).mono ?_; rintro e w' ⟨rfl, rfl⟩) | (go_at_call 10; refine (iv_any y b2 _).mono ?_; rintro e w' ⟨rfl, rfl⟩))
      all_goals
        go_wp2_with fail
        go_roundw
        case rel => exact ⟨j + 1, by omega, by go_num, HN.out, HT.out, HG.out⟩
        case measure => simp [intOf]; omega
    · have e : j = D.length := by omega
      subst e
      go_wp2_with fail
      exact hK.out _ _ _ _ _ _ _ _ _ _ _ _ _ _ _ _ _ _ _ _ _ _ _ _ _ _ _ _ _ _ _ _ _ _ _ _ _ _ _ _ _ _ _ _ _ _ _ _ _ _ _ _ _ _ _ _ _ _ _ _ _ _ _ _ _ _ _ _ _ _ _ _ _ _ _ _ _ _ _ _ _ _ _ _ _ _ _ _ _ _ _ _ _ _ _ _ _ _ _ _ _ _ _ _ _ _ _ _ _ _ _ _ _ _ _ _ _ _ _ _ _ _ _ _ _ _ _ _ _ _ _ _ _ _ _ _ _ _ _ _ _ _ hNs hg
end Go.Proofs.Ybulkbmwk
