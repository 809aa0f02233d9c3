import Derived.Test.YbulkbmwkMapIs
import Derived.Deep.MidRow
import Derived.Maps.AppendAt
import Derived.RegionTactic
import Derived.BigRegion
namespace Go.Proofs.Ybulkbmwk
open Go.RowKit Go.Maps

/-- The cells of a node of which the name alone is set. -/
def nodeCells (s : ByteArray) : List Value := [.string ByteArray.empty, .string s, .bool false, .bool false, .map none, .map none, .map none]
theorem size55 : (Yba.prog.info? 55).map (·.size) = some 7 := by kernel_rfl
theorem info55 : (Yba.prog.info? 55).map (fun i => (i.zero, i.size, i.bytes)) = some (some (.agg #[.string ByteArray.empty, .string ByteArray.empty, .bool false, .bool false, .map none, .map none, .map none]), 7, 64) := by kernel_rfl

/-- The nodes in memory: block N, seven cells each. -/
def NodesAt (w : World) (N : Nat) (os : List ByteArray) : Prop := ∀ j, j < os.length → w.rangeAt N (j * 7) (nodeCells (os.getD j ByteArray.empty))
theorem NodesAt.block {w w' : World} {N : Nat} {os : List ByteArray} (h : NodesAt w N os) (e : w'.heap[N]? = w.heap[N]?) : NodesAt w' N os := fun j hj i v hv => by
  rw [World.cell?_of_block (a := ⟨N, j * 7 + i, none⟩) e]; exact h j hj i v hv

theorem grown_refl (w : World) (row : Option Nat) : w.grownBy w row := ⟨rfl, rfl, rfl, Nat.le_refl _, fun _ _ _ => rfl⟩
theorem grown_drew (w : World) (row : Option Nat) : w.grownBy w.drew row := ⟨rfl, rfl, rfl, Nat.le_refl _, fun _ _ _ => rfl⟩
theorem map_snoc (L : KV) (os : List ByteArray) (src x : ByteArray) (k : Nat) (h : k < os.length) (hx : x = os.getD k ByteArray.empty) :
    (L ++ (os.take k).map (fun o => (o, src))) ++ [(x, src)] = L ++ (os.take (k + 1)).map (fun o => (o, src)) := by
  rw [take_snoc os k h, hx]; simp
theorem getD_mem (os : List ByteArray) (k : Nat) (h : k < os.length) : os.getD k ByteArray.empty ∈ os := by
  simp [List.getD, h]

set_option maxHeartbeats 1000000 in
/-- banEverywhere over a map that is there: each online node's name is stored with the source, in order. -/
theorem ban_any (R C N B n cap : Nat) (os : List ByteArray) (src : ByteArray) (L : KV) (w : World) (ho : os.length ≤ 512) (hsz : ∀ s ∈ os, s.size ≤ maxLen) (hsrc : src.size ≤ maxLen)
    (hC : w.cell? ⟨C, 0, none⟩ = some (.slice (some ⟨N, 0, none⟩) os.length cap)) (hR : w.cell? ⟨R, 8, none⟩ = some (.map (some B))) (hN : NodesAt w N os) (hM : MapAt w B n L) (hn : n ≤ 512)
    (hNB : N ≠ B) (hRB : R ≠ B) :
    Calls Yba.prog 12 #[.pointer (some ⟨R, 0, none⟩), .pointer (some ⟨C, 0, none⟩), .string src] w fun e w' => e = .returned (.tuple #[]) ∧ MapAt w' B (n + os.length) (L ++ os.map (fun o => (o, src))) ∧ w.grownBy w' (some B) := by
  go_enter Yba.func12, Yba.ntmps12
  go_wp2
  go_loopw [13] (fun i wr => ∃ k : Nat, k ≤ os.length ∧ i = .int .i64 k ∧ MapAt wr B (n + k) (L ++ (os.take k).map (fun o => (o, src))) ∧ w.grownBy wr (some B)) (fun i _ => os.length - (intOf i).toNat)
  case atStart => exact ⟨0, Nat.zero_le _, rfl, by simpa using hM, grown_refl _ _⟩
  case round =>
    obtain ⟨k, hk, rfl, hMr, hg⟩ := hrel
    by_cases hlt : k < os.length
    · have hNl : N < w.heap.size := World.block_lt_of_cell? _ ⟨N, k * 7 + 0, none⟩ (hN k hlt 0 _ rfl)
      have hNr : NodesAt wr N os := hN.block (hg.block N hNl (by simpa using hNB))
      have hRr : wr.cell? ⟨R, 8, none⟩ = some (.map (some B)) := (World.cell?_of_block (a := ⟨R, 8, none⟩) (hg.block R (World.block_lt_of_cell? _ _ hR) (by simpa using hRB))).trans hR
      have hxs := hsz _ (getD_mem os k hlt)
      obtain ⟨x, hx⟩ : ∃ x, x = os.getD k ByteArray.empty := ⟨_, rfl⟩
      have hrk := hNr k hlt
      rw [← hx] at hrk hxs
      have HX : Hid (x = os.getD k ByteArray.empty) := hx
      clear hx
      unfold nodeCells at hrk
      have hRl : R < wr.heap.size := World.block_lt_of_cell? _ _ hRr
      have hra := (World.cell?_alloc_lt wr (.cells #[.string ByteArray.empty, .string x, .bool false, .bool false, .map none, .map none, .map none] 55) ⟨R, 8, none⟩ hRl).trans hRr
      have hga := (World.grownBy_alloc wr (.cells #[.string ByteArray.empty, .string x, .bool false, .bool false, .map none, .map none, .map none] 55) (some B)).trans (grown_drew _ _)
      have hM2 : MapAt (wr.alloc (.cells #[.string ByteArray.empty, .string x, .bool false, .bool false, .map none, .map none, .map none] 55)).drew B (n + k) (L ++ (os.take k).map (fun o => (o, src))) :=
        hMr.block (Below.heap_alloc _ _ _ hMr.lt)
      obtain ⟨w2, hrun, hM3, hg3⟩ := hM2.store (by unfold maxLen; omega) hxs hsrc
      have hG := (hg.trans hga).trans hg3
      have hM4 : MapAt w2 B (n + (k + 1)) (L ++ (os.take (k + 1)).map (fun o => (o, src))) := map_snoc L os src x k hlt HX.out ▸ hM3
      have HM : Hid (MapAt w2 B (n + (k + 1)) (L ++ (os.take (k + 1)).map (fun o => (o, src)))) := hM4
      have HG : Hid (w.grownBy w2 (some B)) := hG
      clear hM3 hM4 hM2 hG hga hg3 hMr hg hM hN
      go_wp2_with (refine wpList_load_mid rfl 55 _ rfl N (k * 7) rfl _ _ hrk Yba.underlying55 rfl size55 ?_)
      go_region
      go_wp2
      go_roundw
      case rel => exact ⟨k + 1, by omega, by go_num, HM.out, HG.out⟩
      case measure => simp [intOf]; omega
    · have e : k = os.length := by omega
      subst e
      go_wp2
      go_end0
      exact ⟨rfl, by simpa using hMr, hg⟩

set_option maxHeartbeats 400000 in
/-- banEverywhere with no online node: nothing happens. -/
theorem ban_none (R C N cap : Nat) (src : ByteArray) (w : World) (hC : w.cell? ⟨C, 0, none⟩ = some (.slice (some ⟨N, 0, none⟩) 0 cap)) :
    Calls Yba.prog 12 #[.pointer (some ⟨R, 0, none⟩), .pointer (some ⟨C, 0, none⟩), .string src] w fun e w' => e = .returned (.tuple #[]) ∧ w = w' := by
  go_enter Yba.func12, Yba.ntmps12
  go_wp2
  go_loopw [13] (fun i wr => i = .int .i64 0 ∧ wr = w) (fun _ _ => 0)
  case atStart => exact ⟨rfl, rfl⟩
  case round =>
    obtain ⟨rfl, rfl⟩ := hrel
    go_wp2
    go_end0
    exact ⟨rfl, rfl⟩
end Go.Proofs.Ybulkbmwk
