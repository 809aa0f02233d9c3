import Derived.Test.YbulkbmwkRows
import Derived.WalkKit
import Derived.ProofKit
import Derived.OpenShut
import Derived.Below
import Derived.LoopTactic
namespace Go.Proofs.Ybulkbmwk
open Go.RowKit

/-- WHAT THE WALKS ARE TOLD OF A SLICE OF STRINGS: its elements are 'ss' (its length is theirs); where there is one, the slice leads to a row of cells that hold them. -/
def StrRow (w : World) (a : Option Addr) (ss : List ByteArray) : Prop :=
  ss.length ≤ maxLen ∧ (∀ s ∈ ss, s.size ≤ maxLen) ∧ (0 < ss.length → ∃ b off, a = some ⟨b, off, none⟩ ∧ ∀ j, j < ss.length → w.cell? ⟨b, off + j, none⟩ = some (.string (ss.getD j ByteArray.empty)))

theorem StrRow.below {w w' : World} {a : Option Addr} {ss : List ByteArray} (h : StrRow w a ss) (hb : Below w.heap.size w w') : StrRow w' a ss := by
  refine ⟨h.1, h.2.1, fun hp => ?_⟩
  obtain ⟨b, off, rfl, hc⟩ := h.2.2 hp
  refine ⟨b, off, rfl, fun j hj => ?_⟩
  rw [hb.cell (p := ⟨b, off + j, none⟩) (World.block_lt_of_cell? _ _ (hc j hj))]
  exact hc j hj

/-- Is s on the list? -/
def isIn (s : ByteArray) (l : List ByteArray) : Bool := l.any fun x => decide (x = s)
theorem str_eq (x s : ByteArray) : (x.toList == s.toList) = decide (x = s) := by
  rw [ByteArray.toList_eq, ByteArray.toList_eq, Bool.eq_iff_iff]
  simp only [beq_iff_eq, decide_eq_true_eq]
  constructor
  · intro h
    have h2 : x.data = s.data := Array.toList_inj.1 h
    cases x; cases s; simp_all
  · rintro rfl; rfl
theorem str_ne {x s : ByteArray} (h : x ≠ s) : (x.toList == s.toList) = false := by rw [str_eq]; simpa using h
theorem str_same {x s : ByteArray} (h : x = s) : (x.toList == s.toList) = true := by rw [str_eq]; simpa using h
theorem isIn_iff (s : ByteArray) (l : List ByteArray) : isIn s l = true ↔ s ∈ l := by
  simp [isIn]
theorem isIn_false (s : ByteArray) (l : List ByteArray) : isIn s l = false ↔ s ∉ l := by
  rw [← isIn_iff]; simp
theorem take_snoc (ss : List ByteArray) (k : Nat) (h : k < ss.length) : ss.take (k + 1) = ss.take k ++ [ss.getD k ByteArray.empty] := by
  rw [List.take_succ_eq_append_getElem h]; simp [List.getD, h]

theorem ret_bool {a b : Bool} (h : a = b) : Ending.returned (.bool a) = .returned (.bool b) := by rw [h]

set_option maxHeartbeats 400000 in
theorem cin_any (a : Option Addr) (cap : Nat) (ss : List ByteArray) (u : Nat) (s : ByteArray) (w : World) (hrow : StrRow w a ss) (hu : u ≤ ss.length) (v : Bool) (hv : isIn s (ss.take u) = v) :
    Calls Yba.prog 13 #[.slice a ss.length cap, .int .i64 u, .string s] w fun e w' => e = .returned (.bool v) ∧ w = w' := by
  obtain ⟨hl, _, hrow⟩ := hrow
  unfold maxLen at hl
  have HV : Hid (isIn s (ss.take u) = v) := hv
  clear hv
  go_enter Yba.func13, Yba.ntmps13
  go_wp2
  go_loop [7] (fun i => ∃ k : Nat, k ≤ u ∧ i = .int .i64 k ∧ Hid (isIn s (ss.take k) = false)) (fun i => u - (intOf i).toNat)
  case atStart => exact ⟨0, Nat.zero_le _, rfl, rfl⟩
  case round =>
    obtain ⟨k, hk, rfl, HN⟩ := hrel
    by_cases hlt : k < u
    · obtain ⟨b, off, rfl, hc⟩ := hrow (by omega)
      have hck := hc k (by omega)
      have hts := take_snoc ss k (by omega)
      obtain ⟨x, hx⟩ : ∃ x, x = ss.getD k ByteArray.empty := ⟨_, rfl⟩
      rw [← hx] at hck hts
      have HT : Hid (ss.take (k + 1) = ss.take k ++ [x]) := hts
      have HX : Hid (x = ss.getD k ByteArray.empty) := hx
      clear hx hts hc hrow
      by_cases he : x = s
      · have ht := str_same he
        have HE : Hid (x = s) := he
        clear he
        go_wp2
        go_ret
        refine ⟨ret_bool ?_, rfl⟩
        rw [← HV.out, eq_comm, isIn_iff]
        refine List.mem_of_mem_take (i := k + 1) ?_
        rw [List.take_take, Nat.min_eq_left (by omega), HT.out]
        simp [HE.out]
      · have hf := str_ne he
        have HE : Hid (x ≠ s) := he
        clear he
        go_wp2
        go_round
        case rel =>
          refine ⟨k + 1, by omega, by go_num, ?_⟩
          show isIn s (ss.take (k + 1)) = false
          rw [HT.out]
          have := HN.out
          simp only [isIn, List.any_append, List.any_cons, List.any_nil, Bool.or_false, Bool.or_eq_false_iff] at this ⊢
          exact ⟨this, by simpa using HE.out⟩
        case measure => simp [intOf]; omega
    · have e : k = u := by omega
      subst e
      go_wp2
      go_ret
      exact ⟨ret_bool (by rw [← HV.out, HN.out]), rfl⟩
end Go.Proofs.Ybulkbmwk
