import Derived.Test.YbulkbmviRows
import Derived.WalkKit
import Derived.ProofKit
import Derived.OpenShut
namespace Go.Proofs.Ybulkbmvi
open Go.RowKit

/-- unhex, as a plain function: a fixed offset by the range, byte arithmetic that wraps. -/
def unh (c : Int) : Int := if c ≤ 57 then (c - 48) % 256 else if c ≤ 70 then (c - 55) % 256 else (c - 87) % 256
theorem ret_int {k : IntKind} {a b : Int} (h : a = b) : Ending.returned (.int k a) = .returned (.int k b) := by rw [h]

theorem unh_a {c : Int} (h : c ≤ 57) : (c - 48) % 256 = unh c := by simp [unh, h]
theorem unh_b {c : Int} (h1 : ¬ c ≤ 57) (h2 : c ≤ 70) : (c - 65 + 10) % 256 = unh c := by
  have e : c - 65 + 10 = c - 55 := by omega
  rw [e]; simp [unh, h1, h2]
theorem unh_c {c : Int} (h1 : ¬ c ≤ 57) (h2 : ¬ c ≤ 70) : (c - 97 + 10) % 256 = unh c := by
  have e : c - 97 + 10 = c - 87 := by omega
  rw [e]; simp [unh, h1, h2]

/-- unhex, at every byte -/
theorem unhex_any (c : Int) (hb : 0 ≤ c ∧ c ≤ 255) (w : World) : Calls Yba.prog 5 #[.int .u8 c] w fun e w' => e = .returned (.int .u8 (unh c)) ∧ w' = w := by
  by_cases h1 : c ≤ 57
  · go_enter Yba.func5, Yba.ntmps5
    go_wp2
    go_ret
    exact ⟨ret_int (unh_a h1), rfl⟩
  by_cases h2 : c ≤ 70
  · go_enter Yba.func5, Yba.ntmps5
    go_wp2
    go_ret
    exact ⟨ret_int (unh_b (by omega) (by omega)), rfl⟩
  · go_enter Yba.func5, Yba.ntmps5
    go_wp2
    go_ret
    exact ⟨ret_int (unh_c (by omega) (by omega)), rfl⟩
end Go.Proofs.Ybulkbmvi
