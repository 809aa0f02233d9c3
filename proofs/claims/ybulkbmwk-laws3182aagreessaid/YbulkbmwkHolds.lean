import Derived.Test.YbulkbmwkRows
import Derived.WalkKit
import Derived.ProofKit
import Derived.OpenShut
import Derived.Below
import Derived.LoopTactic
import Derived.Deep.QuietTactic
import Derived.BigQuiet
namespace Go.Proofs.Ybulkbmwk
open Go.RowKit

/-- w' is w, but for answers drawn from the tape. -/
structure DrawnFrom (w w' : World) : Prop where
  heap : w'.heap = w.heap
  os : w'.os = w.os
  tape : w'.tape = w.tape
  output : w'.output = w.output
theorem DrawnFrom.refl (w : World) : DrawnFrom w w := ⟨rfl, rfl, rfl, rfl⟩
theorem DrawnFrom.drewN (w : World) (k : Nat) : DrawnFrom w (w.drewN k) := ⟨rfl, rfl, rfl, rfl⟩
theorem DrawnFrom.trans {a b c : World} (h : DrawnFrom a b) (k : DrawnFrom b c) : DrawnFrom a c := ⟨k.heap.trans h.heap, k.os.trans h.os, k.tape.trans h.tape, k.output.trans h.output⟩
theorem DrawnFrom.cell {w w' : World} (h : DrawnFrom w w') (a : Addr) : w'.cell? a = w.cell? a := by simp [World.cell?, h.heap]
theorem DrawnFrom.below {w0 w w' : World} (h : DrawnFrom w w') {N : Nat} (hb : Below N w0 w) : Below N w0 w' :=
  hb.trans ⟨h.os, h.tape, h.output, by rw [h.heap]; exact Nat.le_refl _, fun _ _ => by rw [h.heap]⟩

/-- A row of n numbers in block N. -/
def RowF (w : World) (N n : Nat) (f : Nat → Int) : Prop := ∀ j, j < n → w.cell? ⟨N, j, none⟩ = some (.int .i64 (f j))
/-- The plan in block P: its flag, its two rows. -/
structure PlanAt (w : World) (P A B n : Nat) (prom : Bool) (f g : Nat → Int) : Prop where
  flag : w.cell? ⟨P, 0, none⟩ = some (.bool prom)
  placed : w.cell? ⟨P, 4, none⟩ = some (.slice (some ⟨A, 0, none⟩) n n)
  promoted : w.cell? ⟨P, 5, none⟩ = some (.slice (some ⟨B, 0, none⟩) n n)
  rowA : RowF w A n f
  rowB : RowF w B n g

theorem DrawnFrom.row {w w' : World} (h : DrawnFrom w w') {N n : Nat} {f : Nat → Int} (hr : RowF w N n f) : RowF w' N n f := fun j hj => (h.cell _).trans (hr j hj)
theorem DrawnFrom.plan {w w' : World} (h : DrawnFrom w w') {P A B n : Nat} {prom : Bool} {f g : Nat → Int} (hp : PlanAt w P A B n prom f g) : PlanAt w' P A B n prom f g :=
  ⟨(h.cell _).trans hp.flag, (h.cell _).trans hp.placed, (h.cell _).trans hp.promoted, h.row hp.rowA, h.row hp.rowB⟩

/-- Does a node hold the role (Promoted: 80, 114, ..; Unpromoted: 85, 110, ..)? -/
def hold (prom : Bool) (x y : Int) (role : ByteArray) : Bool :=
  if role.toList == [80, 114, 111, 109, 111, 116, 101, 100] then decide (0 < y) else if role.toList == [85, 110, 112, 114, 111, 109, 111, 116, 101, 100] then prom && decide (y < x) else decide (0 < x)
theorem hold_pro {prom : Bool} {x y : Int} {role : ByteArray} (h : (role.toList == [80, 114, 111, 109, 111, 116, 101, 100]) = true) : hold prom x y role = decide (0 < y) := by unfold hold; rw [if_pos h]
theorem hold_unp {prom : Bool} {x y : Int} {role : ByteArray} (h : (role.toList == [80, 114, 111, 109, 111, 116, 101, 100]) = false) (h2 : (role.toList == [85, 110, 112, 114, 111, 109, 111, 116, 101, 100]) = true) : hold prom x y role = (prom && decide (y < x)) := by
  unfold hold; rw [if_neg (by rw [h]; decide), if_pos h2]
theorem hold_oth {prom : Bool} {x y : Int} {role : ByteArray} (h : (role.toList == [80, 114, 111, 109, 111, 116, 101, 100]) = false) (h2 : (role.toList == [85, 110, 112, 114, 111, 109, 111, 116, 101, 100]) = false) : hold prom x y role = decide (0 < x) := by
  unfold hold; rw [if_neg (by rw [h]; decide), if_neg (by rw [h2]; decide)]
theorem ret_b {a b : Bool} (h : a = b) : Ending.returned (.bool a) = .returned (.bool b) := by rw [h]

set_option maxHeartbeats 400000 in
theorem holds_any (P A B n i : Nat) (prom : Bool) (f g : Nat → Int) (role : ByteArray) (w : World) (h : PlanAt w P A B n prom f g) (hi : i < n) (_hn : n ≤ 1024) :
    Calls Yba.prog 14 #[.pointer (some ⟨P, 0, none⟩), .int .i64 i, .string role] w fun e w' => e = .returned (.bool (hold prom (f i) (g i) role)) ∧ DrawnFrom w w' := by
  obtain ⟨h0, h4, h5, hA, hB⟩ := h
  have hAi := hA i hi
  have hBi := hB i hi
  clear hA hB
  obtain ⟨x, hx⟩ : ∃ x, x = f i := ⟨_, rfl⟩
  obtain ⟨y, hy⟩ : ∃ y, y = g i := ⟨_, rfl⟩
  rw [← hx] at hAi ⊢
  rw [← hy] at hBi ⊢
  clear hx hy
  have hii : (i : Int) < (n : Int) := by omega
  by_cases hp : (role.toList == [80, 114, 111, 109, 111, 116, 101, 100]) = true
  · have HD := hold_pro (prom := prom) (x := x) (y := y) hp
    have H : Hid (_ = _) := HD
    clear HD
    go_enter Yba.func14, Yba.ntmps14
    go_wp2_with fail
    go_ret
    exact ⟨ret_b (by rw [H.out]), DrawnFrom.refl _⟩
  replace hp := Bool.eq_false_iff.2 hp
  by_cases hu : (role.toList == [85, 110, 112, 114, 111, 109, 111, 116, 101, 100]) = true
  · have HD := hold_unp (prom := prom) (x := x) (y := y) hp hu
    have H : Hid (_ = _) := HD
    clear HD
    cases prom
    · go_enter Yba.func14, Yba.ntmps14
      go_wp2_with fail
      go_quiet (fail)
      go_wp2_with fail
      go_ret
      exact ⟨ret_b (by rw [H.out]; rfl), DrawnFrom.drewN _ _⟩
    · go_enter Yba.func14, Yba.ntmps14
      go_wp2_with fail
      go_quiet (fail)
      go_wp2_with fail
      go_ret
      exact ⟨ret_b (by rw [H.out]; rfl), DrawnFrom.drewN _ _⟩
  · replace hu := Bool.eq_false_iff.2 hu
    have HD := hold_oth (prom := prom) (x := x) (y := y) hp hu
    have H : Hid (_ = _) := HD
    clear HD
    go_enter Yba.func14, Yba.ntmps14
    go_wp2_with fail
    go_ret
    exact ⟨ret_b (by rw [H.out]), DrawnFrom.refl _⟩

/-- Does any of the first n nodes? -/
def anyHold (prom : Bool) (f g : Nat → Int) (role : ByteArray) (n : Nat) : Bool := (List.range n).any fun i => hold prom (f i) (g i) role
theorem any_true {prom : Bool} {f g : Nat → Int} {role : ByteArray} {n i : Nat} (hi : i < n) (h : hold prom (f i) (g i) role = true) : anyHold prom f g role n = true := by
  unfold anyHold; rw [List.any_eq_true]; exact ⟨i, by simpa using hi, h⟩
theorem any_false {prom : Bool} {f g : Nat → Int} {role : ByteArray} {n : Nat} (h : ∀ i, i < n → hold prom (f i) (g i) role = false) : anyHold prom f g role n = false := by
  unfold anyHold; rw [List.any_eq_false]; intro i hi; rw [h i (by simpa using hi)]; decide

theorem step_false {prom : Bool} {f g : Nat → Int} {role : ByteArray} {k : Nat} (h : ∀ j, j < k → hold prom (f j) (g j) role = false) (hk : hold prom (f k) (g k) role = false) : Hid (∀ j, j < k + 1 → hold prom (f j) (g j) role = false) := fun j hj => by
  by_cases e : j = k
  · subst e; exact hk
  · exact h j (by omega)

set_option maxHeartbeats 400000 in
theorem anywhere (P A B n : Nat) (prom : Bool) (f g : Nat → Int) (role : ByteArray) (w : World) (h : PlanAt w P A B n prom f g) (hn : n ≤ 1024) :
    Calls Yba.prog 7 #[.pointer (some ⟨P, 0, none⟩), .string role] w fun e w' => e = .returned (.bool (anyHold prom f g role n)) ∧ DrawnFrom w w' := by
  have h4 := h.placed
  go_enter Yba.func7, Yba.ntmps7
  go_wp2_with fail
  go_loopw [11] (fun i wx => ∃ k : Nat, k ≤ n ∧ i = .int .i64 k ∧ Hid (∀ j, j < k → hold prom (f j) (g j) role = false) ∧ DrawnFrom w wx) (fun i _ => n - (intOf i).toNat)
  case atStart => exact ⟨0, Nat.zero_le _, rfl, fun j hj => by omega, DrawnFrom.refl _⟩
  case round =>
    obtain ⟨k, hk, rfl, HF, hd⟩ := hrel
    by_cases hlt : k < n
    · obtain ⟨b, hb⟩ : ∃ b, hold prom (f k) (g k) role = b := ⟨_, rfl⟩
      have HB : Hid (hold prom (f k) (g k) role = b) := hb
      clear hb
      cases b
      · go_wp2_with (go_at_call 14; refine (holds_any P A B n k prom f g role _ (hd.plan h) hlt hn).mono ?_; rintro e w' ⟨rfl, hd2⟩; rw [HB.out])
        go_roundw
        case rel =>
          refine ⟨k + 1, by omega, by go_num, fun j hj => ?_, hd.trans hd2⟩
          by_cases e : j = k
          · subst e; exact HB.out
          · exact HF.out j (by omega)
        case measure => simp [intOf]; omega
      · go_wp2_with (go_at_call 14; refine (holds_any P A B n k prom f g role _ (hd.plan h) hlt hn).mono ?_; rintro e w' ⟨rfl, hd2⟩; rw [HB.out])
        go_ret
        exact ⟨ret_b (any_true hlt HB.out).symm, hd.trans hd2⟩
    · have e : k = n := by omega
      subst e
      go_wp2_with fail
      go_ret
      exact ⟨ret_b (any_false HF.out).symm, hd⟩

set_option maxHeartbeats 1000000 in
theorem model_any (A B n : Nat) (prom : Bool) (f g : Nat → Int) (role : ByteArray) (w : World) (hA : RowF w A n f) (hB : RowF w B n g) (hn : n ≤ 1024) :
    Calls Yba.prog 8 #[.bool prom, .slice (some ⟨A, 0, none⟩) n n, .slice (some ⟨B, 0, none⟩) n n, .string role] w fun e w' => e = .returned (.bool (anyHold prom f g role n)) ∧ DrawnFrom w w' := by
  by_cases hp : (role.toList == [80, 114, 111, 109, 111, 116, 101, 100]) = true
  · go_enter Yba.func8, Yba.ntmps8
    go_wp2_with fail
    go_loopw [9] (fun i wx => ∃ k : Nat, k ≤ n ∧ i = .int .i64 k ∧ Hid (∀ j, j < k → hold prom (f j) (g j) role = false) ∧ DrawnFrom w wx) (fun i _ => n - (intOf i).toNat)
    case atStart => exact ⟨0, Nat.zero_le _, rfl, fun j hj => by omega, DrawnFrom.refl _⟩
    case round =>
      obtain ⟨k, hk, rfl, HF, hd⟩ := hrel
      by_cases hlt : k < n
      · have hAk := (hd.row hA) k hlt
        have hBk := (hd.row hB) k hlt
        have hkk : (k : Int) < (n : Int) := by omega
        obtain ⟨x, hx⟩ : ∃ x, x = f k := ⟨_, rfl⟩
        obtain ⟨y, hy⟩ : ∃ y, y = g k := ⟨_, rfl⟩
        rw [← hx] at hAk
        rw [← hy] at hBk
        by_cases ht : 0 < y
        · have HO : Hid (hold prom (f k) (g k) role = true) := by
            show hold prom (f k) (g k) role = true
            subst hx hy
            rw [hold_pro hp]
            simpa using ht
          clear hx hy
          go_wp2_with fail
          go_ret
          exact ⟨ret_b (any_true hlt HO.out).symm, hd⟩
        · have HO : Hid (hold prom (f k) (g k) role = false) := by
            show hold prom (f k) (g k) role = false
            subst hx hy
            rw [hold_pro hp]
            simpa using ht
          clear hx hy
          go_wp2_with fail
          go_roundw
          case rel => exact ⟨k + 1, by omega, by go_num, step_false HF.out HO.out, hd⟩
          case measure => simp [intOf]; omega
      · have e : k = n := by omega
        subst e
        go_wp2_with fail
        go_ret
        exact ⟨ret_b (any_false HF.out).symm, hd⟩
  replace hp := Bool.eq_false_iff.2 hp
  by_cases hu : (role.toList == [85, 110, 112, 114, 111, 109, 111, 116, 101, 100]) = true
  · cases prom
    · go_enter Yba.func8, Yba.ntmps8
      go_wp2_with fail
      go_loopw [9] (fun i wx => ∃ k : Nat, k ≤ n ∧ i = .int .i64 k ∧ Hid (∀ j, j < k → hold false (f j) (g j) role = false) ∧ DrawnFrom w wx) (fun i _ => n - (intOf i).toNat)
      case atStart => exact ⟨0, Nat.zero_le _, rfl, fun j hj => by omega, DrawnFrom.refl _⟩
      case round =>
        obtain ⟨k, hk, rfl, HF, hd⟩ := hrel
        by_cases hlt : k < n
        · have hAk := (hd.row hA) k hlt
          have hBk := (hd.row hB) k hlt
          have hkk : (k : Int) < (n : Int) := by omega
          obtain ⟨x, hx⟩ : ∃ x, x = f k := ⟨_, rfl⟩
          obtain ⟨y, hy⟩ : ∃ y, y = g k := ⟨_, rfl⟩
          rw [← hx] at hAk
          rw [← hy] at hBk
          have HO : Hid (hold false (f k) (g k) role = false) := by
            show hold false (f k) (g k) role = false
            rw [hold_unp hp hu]
            rfl
          clear hx hy
          go_wp2_with fail
          go_quiet (fail)
          go_wp2_with fail
          go_roundw
          case rel => exact ⟨k + 1, by omega, by go_num, step_false HF.out HO.out, hd.trans (DrawnFrom.drewN _ _)⟩
          case measure => simp [intOf]; omega
        · have e : k = n := by omega
          subst e
          go_wp2_with fail
          go_ret
          exact ⟨ret_b (any_false HF.out).symm, hd⟩
    · go_enter Yba.func8, Yba.ntmps8
      go_wp2_with fail
      go_loopw [9] (fun i wx => ∃ k : Nat, k ≤ n ∧ i = .int .i64 k ∧ Hid (∀ j, j < k → hold true (f j) (g j) role = false) ∧ DrawnFrom w wx) (fun i _ => n - (intOf i).toNat)
      case atStart => exact ⟨0, Nat.zero_le _, rfl, fun j hj => by omega, DrawnFrom.refl _⟩
      case round =>
        obtain ⟨k, hk, rfl, HF, hd⟩ := hrel
        by_cases hlt : k < n
        · have hAk := (hd.row hA) k hlt
          have hBk := (hd.row hB) k hlt
          have hkk : (k : Int) < (n : Int) := by omega
          obtain ⟨x, hx⟩ : ∃ x, x = f k := ⟨_, rfl⟩
          obtain ⟨y, hy⟩ : ∃ y, y = g k := ⟨_, rfl⟩
          rw [← hx] at hAk
          rw [← hy] at hBk
          by_cases ht : y < x
          · have HO : Hid (hold true (f k) (g k) role = true) := by
              show hold true (f k) (g k) role = true
              subst hx hy
              rw [hold_unp hp hu]
              simpa using ht
            clear hx hy
            go_wp2_with fail
            go_quiet (fail)
            go_wp2_with fail
            go_ret
            exact ⟨ret_b (any_true hlt HO.out).symm, hd.trans (DrawnFrom.drewN _ _)⟩
          · have HO : Hid (hold true (f k) (g k) role = false) := by
              show hold true (f k) (g k) role = false
              subst hx hy
              rw [hold_unp hp hu]
              simpa using ht
            clear hx hy
            go_wp2_with fail
            go_quiet (fail)
            go_wp2_with fail
            go_roundw
            case rel => exact ⟨k + 1, by omega, by go_num, step_false HF.out HO.out, hd.trans (DrawnFrom.drewN _ _)⟩
            case measure => simp [intOf]; omega
        · have e : k = n := by omega
          subst e
          go_wp2_with fail
          go_ret
          exact ⟨ret_b (any_false HF.out).symm, hd⟩
  · replace hu := Bool.eq_false_iff.2 hu
    go_enter Yba.func8, Yba.ntmps8
    go_wp2_with fail
    go_loopw [9] (fun i wx => ∃ k : Nat, k ≤ n ∧ i = .int .i64 k ∧ Hid (∀ j, j < k → hold prom (f j) (g j) role = false) ∧ DrawnFrom w wx) (fun i _ => n - (intOf i).toNat)
    case atStart => exact ⟨0, Nat.zero_le _, rfl, fun j hj => by omega, DrawnFrom.refl _⟩
    case round =>
      obtain ⟨k, hk, rfl, HF, hd⟩ := hrel
      by_cases hlt : k < n
      · have hAk := (hd.row hA) k hlt
        have hBk := (hd.row hB) k hlt
        have hkk : (k : Int) < (n : Int) := by omega
        obtain ⟨x, hx⟩ : ∃ x, x = f k := ⟨_, rfl⟩
        obtain ⟨y, hy⟩ : ∃ y, y = g k := ⟨_, rfl⟩
        rw [← hx] at hAk
        rw [← hy] at hBk
        by_cases ht : 0 < x
        · have HO : Hid (hold prom (f k) (g k) role = true) := by
            show hold prom (f k) (g k) role = true
            subst hx hy
            rw [hold_oth hp hu]
            simpa using ht
          clear hx hy
          go_wp2_with fail
          go_ret
          exact ⟨ret_b (any_true hlt HO.out).symm, hd⟩
        · have HO : Hid (hold prom (f k) (g k) role = false) := by
            show hold prom (f k) (g k) role = false
            subst hx hy
            rw [hold_oth hp hu]
            simpa using ht
          clear hx hy
          go_wp2_with fail
          go_roundw
          case rel => exact ⟨k + 1, by omega, by go_num, step_false HF.out HO.out, hd⟩
          case measure => simp [intOf]; omega
      · have e : k = n := by omega
        subst e
        go_wp2_with fail
        go_ret
        exact ⟨ret_b (any_false HF.out).symm, hd⟩
end Go.Proofs.Ybulkbmwk
