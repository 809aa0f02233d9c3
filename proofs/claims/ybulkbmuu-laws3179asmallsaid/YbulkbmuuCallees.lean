import Derived.Test.YbulkbmuuRows
import Derived.WalkKit
import Derived.ProofKit
namespace Go.Proofs.Ybulkbmuu
open Go.RowKit

/-- The bytes of the name of a product: 1 Milan, 2 Genoa, 3 Turin, every other: unknown. -/
def nm (n : Int) : ByteArray :=
  if n = 1 then ⟨#[77, 105, 108, 97, 110]⟩ else if n = 2 then ⟨#[71, 101, 110, 111, 97]⟩ else if n = 3 then ⟨#[84, 117, 114, 105, 110]⟩ else ⟨#[117, 110, 107, 110, 111, 119, 110]⟩
theorem nm1 : nm 1 = ⟨#[77, 105, 108, 97, 110]⟩ := by simp [nm]
theorem nm2 : nm 2 = ⟨#[71, 101, 110, 111, 97]⟩ := by simp [nm]
theorem nm3 : nm 3 = ⟨#[84, 117, 114, 105, 110]⟩ := by simp [nm]
theorem nm0 {n : Int} (h1 : n ≠ 1) (h2 : n ≠ 2) (h3 : n ≠ 3) : nm n = ⟨#[117, 110, 107, 110, 111, 119, 110]⟩ := by simp [nm, h1, h2, h3]
theorem ret_str {a b : ByteArray} (h : a = b) : Ending.returned (.string a) = .returned (.string b) := by rw [h]

/-- (Product).String -/
theorem string_any (n : Int) (w : World) : Calls Yba.prog 5 #[.int .i64 n] w fun e w' => e = .returned (.string (nm n)) ∧ w' = w := by
  by_cases h1 : n = 1
  · subst h1
    go_enter Yba.func5, Yba.ntmps5
    go_wp2
    go_ret
    exact ⟨ret_str nm1.symm, rfl⟩
  by_cases h2 : n = 2
  · subst h2
    go_enter Yba.func5, Yba.ntmps5
    go_wp2
    go_ret
    exact ⟨ret_str nm2.symm, rfl⟩
  by_cases h3 : n = 3
  · subst h3
    go_enter Yba.func5, Yba.ntmps5
    go_wp2
    go_ret
    exact ⟨ret_str nm3.symm, rfl⟩
  · have e1 : (n == 1) = false := by simpa using h1
    have e2 : (n == 2) = false := by simpa using h2
    have e3 : (n == 3) = false := by simpa using h3
    have hn := nm0 h1 h2 h3
    clear h1 h2 h3
    have H : Hid (nm n = _) := hn
    clear hn
    go_enter Yba.func5, Yba.ntmps5
    go_wp2
    go_ret
    exact ⟨ret_str H.out.symm, rfl⟩

/-- zzs3179aname -/
theorem name_any (n : Int) (w : World) : Calls Yba.prog 6 #[.int .i64 n] w fun e w' => e = .returned (.string (nm n)) ∧ w' = w := by
  by_cases h1 : n = 1
  · subst h1
    go_enter Yba.func6, Yba.ntmps6
    go_wp2
    go_ret
    exact ⟨ret_str nm1.symm, rfl⟩
  by_cases h2 : n = 2
  · subst h2
    go_enter Yba.func6, Yba.ntmps6
    go_wp2
    go_ret
    exact ⟨ret_str nm2.symm, rfl⟩
  by_cases h3 : n = 3
  · subst h3
    go_enter Yba.func6, Yba.ntmps6
    go_wp2
    go_ret
    exact ⟨ret_str nm3.symm, rfl⟩
  · have e1 : (n == 1) = false := by simpa using h1
    have e2 : (n == 2) = false := by simpa using h2
    have e3 : (n == 3) = false := by simpa using h3
    have hn := nm0 h1 h2 h3
    clear h1 h2 h3
    have H : Hid (nm n = _) := hn
    clear hn
    go_enter Yba.func6, Yba.ntmps6
    go_wp2
    go_ret
    exact ⟨ret_str H.out.symm, rfl⟩
end Go.Proofs.Ybulkbmuu
