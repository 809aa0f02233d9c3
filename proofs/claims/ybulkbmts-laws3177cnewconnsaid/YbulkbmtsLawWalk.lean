import Derived.Test.YbulkbmtsWake
import Derived.Test.YbulkbmtsNew
import Derived.WalkKit
import Derived.ProofKit
import Derived.OpenShut
import Derived.Below
import Derived.LoopTactic
import Derived.Conc.LoneSelectN
import Derived.LaidEqlPtr
import Derived.WalkSpells
namespace Go.Proofs.Ybulkbmts.lawS3177CNewConn
open Go.ChangeShapes Go.WideShapes Go.ChangeAt Go.RowKit Go.Conc

theorem setChan_other (w : World) (c c' cap : Nat) (buf : Array Value) (closed : Bool) (s r : Nat) (tm : Bool) (h : c ≠ c') : (w.setChan c cap buf closed s r tm).heap[c']? = w.heap[c']? := by
  simp [World.setChan, Array.getElem?_setIfInBounds_ne h]

theorem ConnAt.filled {w : World} {h : Addr} {p c1 c2 : Nat} {cau : Bool} (H : ConnAt w h p c1 c2 cau false) : ConnAt (w.setChan c1 1 #[.agg #[]] false 1 0 false) h p c1 c2 cau true where
  conn := (setChan_other _ _ _ _ _ _ _ _ _ H.ne1).trans H.conn
  wake := heap_setChan w c1 1 _ false 1 0 false (by have := H.wake; exact (Array.getElem?_eq_some_iff.1 this).1)
  done := (setChan_other _ _ _ _ _ _ _ _ _ H.ne2).trans H.done
  ne1 := H.ne1
  ne2 := H.ne2

theorem ptr26 (a : Addr) (w : World) : (binOp .eql 26 (.pointer (some a)) (.pointer (some a))).run Yba.prog w = .ok (.bool true) w := by
  have h : (Yba.prog.info? 61).isSome = true := by kernel_rfl
  obtain ⟨i, hi⟩ := Option.isSome_iff_exists.1 h
  exact run_eql_ptr_same w a Yba.underlying26 hi
theorem nil41 (w : World) : (binOp .eql 41 (.slice none 0 0) (.slice none 0 0)).run Yba.prog w = .ok (.bool true) w :=
  run_eql_nil_slice w 41 _ none 0 0 0 0 Yba.underlying41

theorem ConnAt.facts {w : World} {h : Addr} {p c1 c2 : Nat} {cau full : Bool} (H : ConnAt w h p c1 c2 cau full) :
    w.cell? ⟨p, 0, none⟩ = some (.pointer (some h)) ∧ w.cell? ⟨p, 2, none⟩ = some (.chan (some c1)) ∧ w.cell? ⟨p, 3, none⟩ = some (.chan (some c2)) ∧ w.cell? ⟨p, 17, none⟩ = some (.slice none 0 0) ∧ w.cell? ⟨p, 18, none⟩ = some (.slice none 0 0) ∧
      w.cell? ⟨p, 19, none⟩ = some (.int .i64 0) ∧ w.cell? ⟨p, 22, none⟩ = some (.bool cau) ∧ w.cell? ⟨p, 23, none⟩ = some (.bool false) :=
  ⟨H.cell 0, H.cell 2, H.cell 3, H.cell 17, H.cell 18, H.cell 19, H.cell 22, H.cell 23⟩

set_option maxHeartbeats 2000000 in
set_option maxRecDepth 100000 in
theorem walk (a0 : Bool) (a1 : Int) (w1 : (Lit.int .u16 a1).wf = true) (w : World) :
    Calls Yba.prog 4 #[.bool a0, .int .u16 a1] w fun e w' => e = .returned (.bool true) ∧ Below w.heap.size w w' := by
  have hbd := bounds_u16 w1
  by_cases hbig : 1000 < a1
  · go_enter Yba.func4, Yba.ntmps4
    go_wp2
    go_ret
    exact ⟨rfl, Below.refl _ _⟩
  · have h61 := bd61
    obtain ⟨k, rfl⟩ : ∃ k : Nat, a1 = k := ⟨a1.toNat, by omega⟩
    go_enter Yba.func4, Yba.ntmps4
    go_wp2_with (go_at_call 6; refine (new_walk _ _ a0 _ (by simp) (by simp)).mono ?_; rintro e w' ⟨p, c1, c2, rfl, hC, hlt, hbl⟩; have hB : Below w.heap.size w w' := ((Below.refl _ w).alloc (Nat.le_refl _) _).trans (hbl.mono (by simp)); have hlt' : w.heap.size ≤ c1 := (by simp at hlt; omega); clear hbl hlt)
    clear h61
    go_loopw [7] (fun i wr => ∃ j : Nat, j ≤ k ∧ i = .int .i64 j ∧ ConnAt wr ⟨w.heap.size, 0, none⟩ p c1 c2 a0 (decide (0 < j)) ∧ Below w.heap.size w wr) (fun i _ => k - (intOf i).toNat)
    case atStart => exact ⟨0, Nat.zero_le _, rfl, hC, hB⟩
    case round =>
      clear hC hB
      obtain ⟨j, hj, rfl, hC, hB⟩ := hrel
      by_cases hjk : j < k
      · by_cases hj0 : j = 0
        · subst hj0
          have hF := hC.filled
          go_wp2_with (go_at_call 5; refine (wake_room _ _ c1 _ (by have := hC.cell 2; exact this) (by have := hC.wake; exact this)).mono ?_; rintro e w' ⟨rfl, rfl⟩)
          go_roundw
          case rel => exact ⟨1, by omega, rfl, hF, below_setChan hB hlt' _ _ _ _ _ _⟩
          case measure => simp [intOf]; omega
        · have hC' : ConnAt wr ⟨w.heap.size, 0, none⟩ p c1 c2 a0 true := by have e : decide (0 < j) = true := by simp; omega
                                                                            rw [e] at hC; exact hC
          clear hC
          go_wp2_with (go_at_call 5; refine (wake_full _ _ c1 _ (by have := hC'.cell 2; exact this) (by have := hC'.wake; exact this)).mono ?_; rintro e w' ⟨rfl, rfl⟩)
          go_roundw
          case rel => exact ⟨j + 1, by omega, by go_num, by simpa using hC', hB⟩
          case measure => simp [intOf]; omega
      · obtain rfl : j = k := by omega
        obtain ⟨f0, f2, f3, f17, f18, f19, f22, f23⟩ := hC.facts
        have hwk := hC.wake
        have hdn := hC.done
        have hpe := ptr26
        have hsn := nil41
        by_cases hj0 : j = 0
        · subst hj0
          have hl1 := fun ty => run_len_chan (P := Yba.prog) 23 ty Yba.underlying23 hwk
          have hp1 := fun ty => run_cap_chan (P := Yba.prog) 23 ty Yba.underlying23 hwk
          have hl2 := fun ty => run_len_chan (P := Yba.prog) 23 ty Yba.underlying23 hdn
          simp at hl1 hp1 hl2
          clear hwk hdn hC
          go_wp2
          go_ret
          exact ⟨rfl, hB⟩
        · have hwk' : wr.heap[c1]? = some (.chan 1 #[.agg #[]] false 1 0 false) := by
            have e : decide (0 < j) = true := by simp; omega
            rw [e] at hwk; exact hwk
          have hl1 := fun ty => run_len_chan (P := Yba.prog) 23 ty Yba.underlying23 hwk'
          have hp1 := fun ty => run_cap_chan (P := Yba.prog) 23 ty Yba.underlying23 hwk'
          have hl2 := fun ty => run_len_chan (P := Yba.prog) 23 ty Yba.underlying23 hdn
          simp at hl1 hp1 hl2
          clear hwk hwk' hdn hC
          go_wp2
          go_ret
          exact ⟨rfl, hB⟩
end Go.Proofs.Ybulkbmts.lawS3177CNewConn
