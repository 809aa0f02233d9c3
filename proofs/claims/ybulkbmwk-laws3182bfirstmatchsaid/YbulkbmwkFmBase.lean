import Derived.Test.YbulkbmwkRows
import Derived.WalkKit
import Derived.ProofKit
import Derived.OpenShut
import Derived.Below
import Derived.LoopTactic
import Derived.Deep.MidRow
import Derived.RegionTactic
import Derived.BigRegion
import Derived.Deep.QuietTactic
import Derived.BigQuiet
import Derived.KernelRfl
namespace Go.Proofs.Ybulkbmwk
open Go.RowKit

/-- zzs3182bname, as a plain function. -/
def bname (n : Int) (extra : ByteArray) : ByteArray :=
  if n % 4 = 0 then ⟨#[109, 111, 110, 105, 116, 111, 114]⟩ else if n % 4 = 1 then ⟨#[115, 116, 97, 114, 116]⟩ else if n % 4 = 2 then ⟨#[]⟩ else extra
theorem ret_s {a b : ByteArray} (h : a = b) : Ending.returned (.string a) = .returned (.string b) := by rw [h]
theorem ret_i {k : IntKind} {a b : Int} (h : a = b) : Ending.returned (.int k a) = .returned (.int k b) := by rw [h]

theorem name_any (n : Int) (hn : 0 ≤ n ∧ n ≤ 255) (extra : ByteArray) (w : World) : Calls Yba.prog 9 #[.int .u8 n, .string extra] w fun e w' => e = .returned (.string (bname n extra)) ∧ w = w' := by
  have h5 : n % 4 = 0 ∨ n % 4 = 1 ∨ n % 4 = 2 ∨ n % 4 = 3 := by omega
  rcases h5 with h | h | h | h
  all_goals
    have H : Hid (n % 4 = _) := h
    go_enter Yba.func9, Yba.ntmps9
    go_wp2_with fail
    go_ret
    exact ⟨ret_s (by unfold bname; rw [H.out]; rfl), rfl⟩

/-- zzs3182biv, as a plain function. -/
def biv (v : Int) : Int := wrap64 (v.tmod 4)
theorem iv_any (v : Int) (_hv : -128 ≤ v ∧ v ≤ 127) (w : World) : Calls Yba.prog 10 #[.int .i8 v] w fun e w' => e = .returned (.int .i64 (biv v)) ∧ w = w' := by
  go_enter Yba.func10, Yba.ntmps10
  go_wp2_with fail
  go_ret
  exact ⟨ret_i rfl, rfl⟩

/-- Do a definition's name and interval equal the operation's? -/
def same (nm : ByteArray) (iv : Int) (onm : ByteArray) (oiv : Int) : Bool := decide (nm = onm) && decide (iv = oiv)
theorem strEq (x s : ByteArray) : (x.toList == s.toList) = decide (x = s) := by
  rw [ByteArray.toList_eq, ByteArray.toList_eq, Bool.eq_iff_iff]
  simp only [beq_iff_eq, decide_eq_true_eq]
  constructor
  · intro h
    have h2 : x.data = s.data := Array.toList_inj.1 h
    cases x; cases s; simp_all
  · rintro rfl; rfl
theorem strNe {x s : ByteArray} (h : x ≠ s) : (x.toList == s.toList) = false := by rw [strEq]; simpa using h
theorem strSame {x s : ByteArray} (h : x = s) : (x.toList == s.toList) = true := by rw [strEq]; simpa using h
theorem retb {a b : Bool} (h : a = b) : Ending.returned (.bool a) = .returned (.bool b) := by rw [h]

/-- The operation in block O: its name, its interval. -/
structure OpAt (w : World) (O : Nat) (onm : ByteArray) (oiv : Int) : Prop where
  nm : w.cell? ⟨O, 1, none⟩ = some (.string onm)
  iv : w.cell? ⟨O, 4, none⟩ = some (.int .i64 oiv)
theorem OpAt.below {w w' : World} {O : Nat} {onm : ByteArray} {oiv : Int} (h : OpAt w O onm oiv) (hb : Below w.heap.size w w') : OpAt w' O onm oiv :=
  ⟨(hb.cell (p := ⟨O, 1, none⟩) (World.block_lt_of_cell? _ _ h.nm)).trans h.nm, (hb.cell (p := ⟨O, 4, none⟩) (World.block_lt_of_cell? _ _ h.iv)).trans h.iv⟩

set_option maxHeartbeats 400000 in
/-- The closure: a new block for its parameter, nothing else turns. -/
theorem clo_any (O : Nat) (nm : ByteArray) (iv : Int) (r o : ByteArray) (onm : ByteArray) (oiv : Int) (w : World) (h : OpAt w O onm oiv) :
    Calls Yba.prog 16 #[.agg #[.string nm, .int .i64 iv, .string r, .string o], .pointer (some ⟨O, 0, none⟩)] w fun e w' => e = .returned (.bool (same nm iv onm oiv)) ∧ Below w.heap.size w w' := by
  obtain ⟨h1, h4⟩ := h
  have lO : O < w.heap.size := World.block_lt_of_cell? _ _ h1
  have nO : ¬ O = w.heap.size := by omega
  by_cases hs : nm = onm
  · have ht := strSame hs
    by_cases hi : iv = oiv
    · have hj : (iv == oiv) = true := by simpa using hi
      have HD : Hid (same nm iv onm oiv = true) := by show same nm iv onm oiv = true; simp [same, hs, hi]
      clear hs hi
      go_enter Yba.func16, Yba.ntmps16
      go_wp2_with fail
      go_ret
      exact ⟨retb HD.out.symm, (Below.refl _ _).alloc (Nat.le_refl _) _⟩
    · have hj : (iv == oiv) = false := by simpa using hi
      have HD : Hid (same nm iv onm oiv = false) := by show same nm iv onm oiv = false; simp [same, hi]
      clear hs hi
      go_enter Yba.func16, Yba.ntmps16
      go_wp2_with fail
      go_ret
      exact ⟨retb HD.out.symm, (Below.refl _ _).alloc (Nat.le_refl _) _⟩
  · have ht := strNe hs
    have HD : Hid (same nm iv onm oiv = false) := by show same nm iv onm oiv = false; simp [same, hs]
    clear hs
    go_enter Yba.func16, Yba.ntmps16
    go_wp2_with fail
    go_ret
    exact ⟨retb HD.out.symm, (Below.refl _ _).alloc (Nat.le_refl _) _⟩

/-! ### The first that meets p -/
def First (p : Nat → Bool) (m : Nat) (r : Int) : Prop := (r = -1 ∧ ∀ j, j < m → p j = false) ∨ ∃ k, k < m ∧ r = k ∧ p k = true ∧ ∀ j, j < k → p j = false
theorem first_exists (p : Nat → Bool) (m : Nat) : ∃ r, First p m r := by
  have h : ∀ k, k ≤ m → (∀ j, j < k → p j = false) ∨ ∃ q, q < k ∧ p q = true ∧ ∀ j, j < q → p j = false := by
    intro k
    induction k with
    | zero => intro _; exact .inl fun j hj => by omega
    | succ k ih =>
      intro hk
      rcases ih (by omega) with h | ⟨q, hq, h1, h2⟩
      · cases hp : p k
        · refine .inl fun j hj => ?_
          by_cases e : j = k
          · subst e; exact hp
          · exact h j (by omega)
        · exact .inr ⟨k, by omega, hp, h⟩
      · exact .inr ⟨q, by omega, h1, h2⟩
  rcases h m (Nat.le_refl _) with h | ⟨q, hq, h1, h2⟩
  · exact ⟨-1, .inl ⟨rfl, h⟩⟩
  · exact ⟨q, .inr ⟨q, hq, rfl, h1, h2⟩⟩
theorem First.hit {p : Nat → Bool} {m : Nat} {r : Int} (h : First p m r) {k : Nat} (hk : k < m) (hp : p k = true) (hf : ∀ j, j < k → p j = false) : r = k := by
  rcases h with ⟨_, h⟩ | ⟨q, hq, rfl, h1, h2⟩
  · rw [h k hk] at hp; cases hp
  · by_cases a : q < k
    · rw [hf q a] at h1; cases h1
    · by_cases b : k < q
      · rw [h2 k b] at hp; cases hp
      · have : q = k := by omega
        rw [this]
theorem First.miss {p : Nat → Bool} {m : Nat} {r : Int} (h : First p m r) (hf : ∀ j, j < m → p j = false) : r = -1 := by
  rcases h with ⟨h, _⟩ | ⟨q, hq, rfl, h1, h2⟩
  · exact h
  · rw [hf q hq] at h1; cases h1
theorem step_no {p : Nat → Bool} {k : Nat} (h : ∀ j, j < k → p j = false) (hk : p k = false) : Hid (∀ j, j < k + 1 → p j = false) := fun j hj => by
  by_cases e : j = k
  · subst e; exact hk
  · exact h j (by omega)

/-- The list's rows in block N: four cells each: name, interval, Started, stop. -/
def defCells (nm : ByteArray) (iv : Int) : List Value := [.string nm, .int .i64 iv, .string ⟨#[83, 116, 97, 114, 116, 101, 100]⟩, .string ⟨#[115, 116, 111, 112]⟩]
def ListAt (w : World) (N m : Nat) (F : Nat → ByteArray) (G : Nat → Int) : Prop := ∀ j, j < m → w.rangeAt N (j * 4) (defCells (F j) (G j))
theorem ListAt.below {w w' : World} {N m : Nat} {F : Nat → ByteArray} {G : Nat → Int} (h : ListAt w N m F G) (hb : Below w.heap.size w w') : ListAt w' N m F G := fun j hj i v hv => by
  have := h j hj i v hv
  rw [hb.cell (p := ⟨N, j * 4 + i, none⟩) (World.block_lt_of_cell? _ _ this)]; exact this
theorem size43 : (Yba.prog.info? 43).map (·.size) = some 4 := by kernel_rfl
theorem below_trans {a b c : World} (h : Below a.heap.size a b) (k : Below b.heap.size b c) : Below a.heap.size a c := h.trans (k.mono h.size)

set_option maxHeartbeats 400000 in
/-- slices.IndexFunc over the list with the closure. -/
theorem index_any (N m O : Nat) (F : Nat → ByteArray) (G : Nat → Int) (onm : ByteArray) (oiv : Int) (r : Int) (w : World) (hm : m ≤ 1024) (hL : ListAt w N m F G) (hO : OpAt w O onm oiv) (hr : First (fun j => same (F j) (G j) onm oiv) m r) :
    Calls Yba.prog 15 #[.slice (some ⟨N, 0, none⟩) m m, .func (.func 16) #[] #[.pointer (some ⟨O, 0, none⟩)]] w fun e w' => e = .returned (.int .i64 r) ∧ Below w.heap.size w w' := by
  have HR : Hid (First (fun j => same (F j) (G j) onm oiv) m r) := hr
  clear hr
  go_enter Yba.func15, Yba.ntmps15
  go_wp2_with fail
  go_loopw [8] (fun i wx => ∃ k : Nat, k ≤ m ∧ i = .int .i64 k ∧ Hid (∀ j, j < k → same (F j) (G j) onm oiv = false) ∧ Below w.heap.size w wx) (fun i _ => m - (intOf i).toNat)
  case atStart => exact ⟨0, Nat.zero_le _, rfl, fun j hj => by omega, Below.refl _ _⟩
  case round =>
    obtain ⟨k, hk, rfl, HF, hb⟩ := hrel
    by_cases hlt : k < m
    · have hrk := (hL.below hb) k hlt
      have hOr := hO.below hb
      obtain ⟨b, hsb⟩ : ∃ b, same (F k) (G k) onm oiv = b := ⟨_, rfl⟩
      have HB : Hid (same (F k) (G k) onm oiv = b) := hsb
      clear hsb
      unfold defCells at hrk
      have hkk : (k : Int) < (m : Int) := by omega
      cases b
      · go_wp2_with (first | (go_at_call 16; refine (clo_any O (F k) (G k) _ _ onm oiv _ hOr).mono ?_; rintro e w' ⟨rfl, hb2⟩; rw [HB.out]) | (refine wpList_load_mid rfl 43 _ rfl N (k * 4) rfl _ _ hrk Yba.underlying43 rfl size43 ?_))
        go_roundw
        case rel => exact ⟨k + 1, by omega, by go_num, step_no (p := fun j => same (F j) (G j) onm oiv) HF.out HB.out, below_trans hb hb2⟩
        case measure => simp [intOf]; omega
      · go_wp2_with (first | (go_at_call 16; refine (clo_any O (F k) (G k) _ _ onm oiv _ hOr).mono ?_; rintro e w' ⟨rfl, hb2⟩; rw [HB.out]) | (refine wpList_load_mid rfl 43 _ rfl N (k * 4) rfl _ _ hrk Yba.underlying43 rfl size43 ?_))
        go_ret
        exact ⟨ret_i (HR.out.hit hlt HB.out HF.out).symm, below_trans hb hb2⟩
    · have e : k = m := by omega
      subst e
      go_wp2_with fail
      go_ret
      exact ⟨ret_i (HR.out.miss HF.out).symm, hb⟩

/-- What 'of' hands back. -/
def found (N : Nat) (r : Int) : Value := if r < 0 then .pointer none else .pointer (some ⟨N, r.toNat * 4, none⟩)
theorem ret_v {a b : Value} (h : a = b) : Ending.returned a = .returned b := by rw [h]

set_option maxHeartbeats 400000 in
/-- (opDefs).of -/
theorem of_any (N m : Nat) (F : Nat → ByteArray) (G : Nat → Int) (off onm : ByteArray) (a0 a2 a3 oiv : Int) (r : Int) (w : World) (hm : m ≤ 1024) (hL : ListAt w N m F G) (hr : First (fun j => same (F j) (G j) onm oiv) m r) :
    Calls Yba.prog 11 #[.agg #[.slice (some ⟨N, 0, none⟩) m m, .string off], .agg #[.int .i64 a0, .string onm, .int .i64 a2, .int .i64 a3, .int .i64 oiv]] w fun e w' => e = .returned (found N r) ∧ Below w.heap.size w w' := by
  obtain ⟨W, hW⟩ : ∃ W, W = (w.alloc (.cells #[.slice (some ⟨N, 0, none⟩) m m, .string off] 45)).alloc (.cells #[.int .i64 a0, .string onm, .int .i64 a2, .int .i64 a3, .int .i64 oiv] 47) := ⟨_, rfl⟩
  have hbW : Below w.heap.size w W := by subst hW; exact ((Below.refl _ _).alloc (Nat.le_refl _) _).alloc (by simp) _
  have hOW : OpAt W (w.heap.size + 1) onm oiv := by subst hW; exact ⟨by simp, by simp⟩
  have hLW := hL.below hbW
  have hd0 : W.cell? ⟨w.heap.size, 0, none⟩ = some (.slice (some ⟨N, 0, none⟩) m m) := by subst hW; simp
  have hls : w.heap.size < W.heap.size := by subst hW; simp; omega
  have hix := index_any N m (w.heap.size + 1) F G onm oiv r W hm hLW hOW hr
  rw [hW] at hix
  have HW : Hid (W = _) := hW
  clear hW
  rcases hr with ⟨rfl, _⟩ | ⟨k, hkm, rfl, _, _⟩
  · go_enter Yba.func11, Yba.ntmps11
    go_wp2_with (go_at_call 15; refine hix.mono ?_; rintro e w' ⟨rfl, hb2⟩; rw [← HW.out] at hb2)
    go_ret
    exact ⟨ret_v rfl, below_trans hbW hb2⟩
  · go_enter Yba.func11, Yba.ntmps11
    have hkk : (k : Int) < (m : Int) := by omega
    go_wp2_with (go_at_call 15; refine hix.mono ?_; rintro e w' ⟨rfl, hb2⟩; rw [← HW.out] at hb2; have hd1 := (hb2.cell (p := ⟨w.heap.size, 0, none⟩) hls).trans hd0)
    go_ret
    refine ⟨ret_v ?_, below_trans hbW hb2⟩
    unfold found
    rw [if_neg (by omega), Int.toNat_natCast]
    rfl
end Go.Proofs.Ybulkbmwk
