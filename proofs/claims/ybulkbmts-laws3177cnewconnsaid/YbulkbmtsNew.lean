import Derived.Test.YbulkbmtsRows
import Derived.WalkKit
import Derived.ProofKit
import Derived.Below
import Derived.RegionTactic
import Derived.BigRegion
import Derived.KernelRfl
import Derived.Laws.Tables
import Derived.Conc.SmallLaws
namespace Go.Proofs.Ybulkbmts.lawS3177CNewConn
open Go.Conc Go.RowKit

/-- The cells of a new conn. -/
def connCells (h : Addr) (c1 c2 : Nat) (cau : Bool) : Array Value :=
  #[.pointer (some h), .nilFunc, .chan (some c1), .chan (some c2), .nilIface, .nilIface, .nilIface, .nilIface, .nilIface, .nilIface, .bool false, .int .i64 0, .bool false, .slice none 0 0, .slice none 0 0, .pointer none, .pointer none,
    .slice none 0 0, .slice none 0 0, .int .i64 0, .int .i64 0, .bool false, .bool cau, .bool false, .bool false, .pointer none, .pointer none, .pointer none, .nilIface]
theorem bd44 (w : World) (h : Addr) (c1 c2 : Nat) (cau : Bool) : (Instr.build 44 #[(0, .pointer (some h)), (1, .nilFunc), (2, .chan (some c1)), (3, .chan (some c2)), (14, .bool cau)]).run Yba.prog w = .ok (.agg (connCells h c1 c2 cau)) w :=
  run_build w 44 _ _ (by kernel_rfl)
/-- The cells of the law's host. -/
def hostCells (cau : Bool) : Array Value :=
  #[.string ByteArray.empty, .string ByteArray.empty, .pointer none, .int .i64 0, .bool false, .int .i64 0, .int .i64 0, .int .i64 0, .pointer none, .nilFunc, .nilFunc, .int .i32 0, .int .u32 0,
    .slice none 0 0, .slice none 0 0, .int .i64 0, .int .i64 0, .bool cau, .int .i64 0]
theorem bd61 (w : World) (cau : Bool) : (Instr.build 61 #[(15, .bool cau)]).run Yba.prog w = .ok (.agg (hostCells cau)) w :=
  run_build w 61 _ _ (by kernel_rfl)
theorem bytes24 : ∃ i, Yba.prog.info? 24 = some i ∧ i.bytes = 0 := by
  have h : (Yba.prog.info? 24).map (·.bytes) = some 0 := by kernel_rfl
  obtain ⟨i, hi, hb⟩ := Option.map_eq_some_iff.1 h
  exact ⟨i, hi, hb⟩
theorem mk1 (w : World) : (Instr.makeChan 23 (.int .i64 1)).run Yba.prog w = .ok (.chan (some w.heap.size)) (w.alloc (.chan 1 #[] false 0 0 false)) := by
  obtain ⟨i, hi, hb⟩ := bytes24
  simpa using run_makeChan (P := Yba.prog) (w := w) Yba.underlying23 hi .i64 1 (by omega) (by rw [hb]; omega)
theorem mk0 (w : World) : (Instr.makeChan 23 (.int .i64 0)).run Yba.prog w = .ok (.chan (some w.heap.size)) (w.alloc (.chan 0 #[] false 0 0 false)) := by
  obtain ⟨i, hi, hb⟩ := bytes24
  simpa using run_makeChan (P := Yba.prog) (w := w) Yba.underlying23 hi .i64 0 (by omega) (by rw [hb]; omega)

/-- WHAT LIES IN MEMORY: at p a new conn for the host at h; its wake channel c1 (one seat; 'full': it holds one signal), its done channel c2 (empty). -/
structure ConnAt (w : World) (h : Addr) (p c1 c2 : Nat) (cau full : Bool) : Prop where
  conn : w.heap[p]? = some (.cells (connCells h c1 c2 cau) 44)
  wake : w.heap[c1]? = some (.chan 1 (if full then #[.agg #[]] else #[]) false (if full then 1 else 0) 0 false)
  done : w.heap[c2]? = some (.chan 0 #[] false 0 0 false)
  ne1 : c1 ≠ p
  ne2 : c1 ≠ c2

theorem ConnAt.cell {w : World} {h : Addr} {p c1 c2 : Nat} {cau full : Bool} (H : ConnAt w h p c1 c2 cau full) (i : Nat) : w.cell? ⟨p, i, none⟩ = (connCells h c1 c2 cau)[i]? := by
  simp [World.cell?, H.conn]

theorem heap_past (w : World) (o : Obj) (k : Nat) (h : k < w.heap.size) : (w.alloc o).heap[k]? = w.heap[k]? := Below.heap_alloc w o k h
theorem heap_new (w : World) (o : Obj) (k : Nat) (h : k = w.heap.size) : (w.alloc o).heap[k]? = some o := by
  subst h; show (w.heap.push o)[w.heap.size]? = _; simp

theorem end_a (w : World) (h : Addr) (cau : Bool) :
    ConnAt (((w.alloc (.chan 1 #[] false 0 0 false)).alloc (.chan 0 #[] false 0 0 false)).alloc (.cells (connCells h w.heap.size (w.heap.size + 1) cau) 44)).drew h (w.heap.size + 1 + 1) w.heap.size (w.heap.size + 1) cau false where
  conn := heap_new _ _ _ (by simp)
  wake := (heap_past _ _ _ (by simp; omega)).trans ((heap_past _ _ _ (by simp)).trans (heap_new _ _ _ rfl))
  done := (heap_past _ _ _ (by simp)).trans (heap_new _ _ _ (by simp))
  ne1 := by omega
  ne2 := by omega

theorem end_b (w : World) (h : Addr) (cau : Bool) :
    ConnAt (((w.alloc (.chan 0 #[] false 0 0 false)).alloc (.chan 1 #[] false 0 0 false)).alloc (.cells (connCells h (w.heap.size + 1) w.heap.size cau) 44)).drew h (w.heap.size + 1 + 1) (w.heap.size + 1) w.heap.size cau false where
  conn := heap_new _ _ _ (by simp)
  wake := (heap_past _ _ _ (by simp)).trans (heap_new _ _ _ (by simp))
  done := (heap_past _ _ _ (by simp; omega)).trans ((heap_past _ _ _ (by simp)).trans (heap_new _ _ _ rfl))
  ne1 := by omega
  ne2 := by omega

theorem below3 (w : World) (a b c : Obj) : Below w.heap.size w (((w.alloc a).alloc b).alloc c).drew :=
  ((((Below.refl _ w).alloc (Nat.le_refl _) a).alloc (by simp) b).alloc (by simp; omega) c).drew

set_option maxHeartbeats 1000000 in
/-- newConn, in whatever order its operations run. -/
theorem new_walk (b off : Nat) (cau : Bool) (w : World) (hcau : w.cell? ⟨b, off + 17, none⟩ = some (.bool cau)) (hb : b < w.heap.size) :
    Calls Yba.prog 6 #[.pointer (some ⟨b, off, none⟩), .nilFunc] w fun e w' => ∃ p c1 c2, e = .returned (.pointer (some ⟨p, 0, none⟩)) ∧ ConnAt w' ⟨b, off, none⟩ p c1 c2 cau false ∧ w.heap.size ≤ c1 ∧ Below w.heap.size w w' := by
  have h44 := bd44
  have hm1 := mk1
  have hm0 := mk0
  have hc1 : ∀ o, (w.alloc o).cell? ⟨b, off + 17, none⟩ = some (.bool cau) := fun o => (World.cell?_alloc_lt w o ⟨b, off + 17, none⟩ hb).trans hcau
  have hc2 : ∀ o o', ((w.alloc o).alloc o').cell? ⟨b, off + 17, none⟩ = some (.bool cau) := fun o o' => (World.cell?_alloc_lt (w.alloc o) o' ⟨b, off + 17, none⟩ (by simp; omega)).trans (hc1 o)
  go_enter Yba.func6, Yba.ntmps6
  go_wp2
  go_region
  all_goals
    clear h44 hm1 hm0 hc1 hc2
    go_wp2
    go_ret
  · exact ⟨_, _, _, rfl, end_a w _ cau, Nat.le_refl _, below3 _ _ _ _⟩
  · exact ⟨_, _, _, rfl, end_b w _ cau, Nat.le_succ _, below3 _ _ _ _⟩
end Go.Proofs.Ybulkbmts.lawS3177CNewConn
