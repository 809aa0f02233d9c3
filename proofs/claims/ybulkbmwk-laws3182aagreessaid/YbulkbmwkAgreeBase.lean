import Derived.Test.YbulkbmwkHolds
namespace Go.Proofs.Ybulkbmwk
open Go.RowKit

/-- The statements of a body from the n-th on; its n-th statement. -/
def afterN : Nat → Code → Code
  | 0, c => c
  | n + 1, .seq _ b => afterN n b
  | _ + 1, c => c
def partN : Nat → Code → Code
  | 0, .seq a _ => a
  | n + 1, .seq _ b => partN n b
  | _, c => c

/-- WHAT THE WALKS ARE TOLD OF A SLICE OF INTS: its elements are 'zs'. -/
def IntRow (w : World) (a : Option Addr) (zs : List Int) : Prop :=
  0 < zs.length → ∃ b off, a = some ⟨b, off, none⟩ ∧ ∀ j, j < zs.length → w.cell? ⟨b, off + j, none⟩ = some (.int .i64 (zs.getD j 0))
theorem IntRow.below {w w' : World} {a : Option Addr} {zs : List Int} (h : IntRow w a zs) (hb : Below w.heap.size w w') : IntRow w' a zs := fun hp => by
  obtain ⟨b, off, rfl, hc⟩ := h hp
  refine ⟨b, off, rfl, fun j hj => ?_⟩
  rw [hb.cell (p := ⟨b, off + j, none⟩) (World.block_lt_of_cell? _ _ (hc j hj))]
  exact hc j hj

/-- A row that has been filled up to k. -/
def stage (k : Nat) (h : Nat → Int) : Nat → Int := fun j => if j < k then h j else 0
def NoFz (w : World) (N n : Nat) : Prop := ∀ j, j < n → w.frozen? ⟨N, j, none⟩ = false
theorem row_set {w : World} {N n k : Nat} {h : Nat → Int} (hr : RowF w N n (stage k h)) (hk : k < n) : RowF (w.setCell ⟨N, k, none⟩ (.int .i64 (h k))) N n (stage (k + 1) h) := fun j hj => by
  by_cases e : j = k
  · subst e
    rw [World.cell?_setCell_same _ _ _ (hr j hj)]
    simp [stage]
  · rw [World.cell?_setCell_other _ _ _ _ (fun h => e (by cases h; rfl)), hr j hj]
    have : (j < k) = (j < k + 1) := by simp; omega
    simp only [stage, this]
theorem row_other {w : World} {N N' n k : Nat} {h : Nat → Int} (hne : N' ≠ N) (hr : RowF w N n h) (v : Value) : RowF (w.setCell ⟨N', k, none⟩ v) N n h := fun j hj => by
  rw [World.cell?_setCell_other _ _ _ _ (fun h => hne (by cases h; rfl)), hr j hj]
theorem row_zero {w : World} {N n k : Nat} {h : Nat → Int} (h0 : h k = 0) (hr : RowF w N n (stage k h)) : RowF w N n (stage (k + 1) h) := fun j hj => by
  rw [hr j hj]
  by_cases e : j = k
  · subst e; simp [stage, h0]
  · have : (j < k) = (j < k + 1) := by simp; omega
    simp only [stage, this]
theorem row_full {w : World} {N n : Nat} {h : Nat → Int} (hr : RowF w N n (stage n h)) : RowF w N n h := fun j hj => by rw [hr j hj]; simp [stage, hj]
theorem nofz_set {w : World} {N n : Nat} (hf : NoFz w N n) (a : Addr) (v : Value) : NoFz (w.setCell a v) N n := fun j hj => by rw [World.frozen?_setCell]; exact hf j hj
theorem row_made (w : World) (n : Nat) (t : TypeId) (h : Nat → Int) : RowF (w.alloc (.cells (madeCells #[.int .i64 0] n) t)) w.heap.size n (stage 0 h) := fun j hj => by
  rw [World.cell?_alloc_new]
  simp [madeCells, hj, Nat.mod_one, stage]
theorem nofz_made (w : World) (c : Array Value) (n : Nat) (t : TypeId) : NoFz (w.alloc (.cells c t)) w.heap.size n := fun _ _ => World.frozen?_alloc_new _ _ _ _
theorem row_alloc {w : World} {N n : Nat} {h : Nat → Int} (hr : RowF w N n h) (hN : N < w.heap.size) (o : Obj) : RowF (w.alloc o) N n h := fun j hj => by
  rw [World.cell?_alloc_lt _ _ ⟨N, j, none⟩ hN]; exact hr j hj
theorem nofz_alloc {w : World} {N n : Nat} (hr : NoFz w N n) (hN : N < w.heap.size) (o : Obj) : NoFz (w.alloc o) N n := fun j hj => by
  rw [World.frozen?_alloc_past _ _ _ hN]; exact hr j hj

set_option maxHeartbeats 400000 in
theorem role_any (sel : Int) (hs : 0 ≤ sel ∧ sel ≤ 255) (raw : ByteArray) (w : World) : Calls Yba.prog 6 #[.int .u8 sel, .string raw] w fun e w' => ∃ r, e = .returned (.string r) ∧ w = w' := by
  have h5 : sel % 5 = 0 ∨ sel % 5 = 1 ∨ sel % 5 = 2 ∨ sel % 5 = 3 ∨ sel % 5 = 4 := by omega
  rcases h5 with h | h | h | h | h
  all_goals
    go_enter Yba.func6, Yba.ntmps6
    go_wp2_with fail
    go_ret
    exact ⟨_, rfl, rfl⟩
theorem info3 : (Yba.prog.info? 3).map (fun i => (i.zero, i.size, i.bytes)) = some (some (.int .i64 0), 1, 8) := by kernel_rfl
end Go.Proofs.Ybulkbmwk
