/-
  THE PROOF OF 'Rows.LawS3182BFirstMatchSaid': the guide's frame (after the shell of a law over slices) at this function's number and types; the walk: YbulkbmwkFmFront.lean.
-/
import Derived.Test.YbulkbmwkRows
import Derived.Test.YbulkbmwkFmFront
import Derived.WalkKit
import Derived.ProofKit
import Derived.OpenShut
import Derived.ShutString
import Derived.Deep.SlicePairs
import Derived.ChangeOld
import Derived.Below
namespace Go.Proofs.Ybulkbmwk.lawS3182BFirstMatch
open Go.ChangeShapes Go.WideShapes Go.ChangeAt Go.RowKit
open Go.ChangeMaps (open_string shut_string)
set_option linter.unusedVariables false

theorem own : ownKnob Yba.prog.godebug = none := by kernel_rfl
theorem laidOut : laidOutB Yba.prog = true := by kernel_rfl

theorem bounds8 {n : Int} (h : (Lit.int .i8 n).wf = true) : -128 ≤ n ∧ n ≤ 127 := by
  simp [Lit.wf, IntKind.min, IntKind.max, IntKind.signed, IntKind.bits] at h
  omega

/-- The slice of definitions that came in, as a list of pairs. -/
theorem open_defs {H : Type} {enc : TypeId × Value → H} {W : World} {a : Option Addr} {len cap : Nat} {d : DataW H} {p : List MemPlace} (h : DataW.Trod enc Yba.prog W 0 (fun _ => true) true 34 (.slice a len cap) d p) :
    ∃ D : List (Int × Int), D.length = len ∧ DefRow W a D := by
  obtain ⟨fuel, hf⟩ := h
  rcases Go.Deep.open_slice_pairs Yba.underlying34 Yba.underlying39 (by kernel_rfl) rfl rfl (by kernel_rfl) (by kernel_rfl) hf with ⟨hcs, _⟩ | ⟨x, l, c, m, n, V0, V1, D0, D1, P0, P1, hcs, _, hl, hm, hmm, _, hall⟩
  · simp [Value.cells] at hcs
    obtain ⟨rfl, rfl, rfl⟩ := hcs
    exact ⟨[], rfl, by simp, fun h => by simp at h⟩
  · simp [Value.cells] at hcs
    obtain ⟨rfl, rfl, rfl⟩ := hcs
    simp only [if_true] at hmm
    subst hmm
    have each : ∀ i, i < len → (∃ u, V0 i = .int .u8 u ∧ 0 ≤ u ∧ u ≤ 255) ∧ (∃ v, V1 i = .int .i8 v ∧ -128 ≤ v ∧ v ≤ 127) := by
      intro i hi
      obtain ⟨_, _, t0, t1⟩ := hall i (by omega)
      obtain ⟨u, e0, _, wu⟩ := DataW.trod_int Yba.underlying5 t0
      obtain ⟨v, e1, _, wv⟩ := DataW.trod_int Yba.underlying35 t1
      simp at e0 e1
      exact ⟨⟨u, e0, (bounds_u8 wu).1, (bounds_u8 wu).2⟩, ⟨v, e1, (bounds8 wv).1, (bounds8 wv).2⟩⟩
    refine ⟨(List.range len).map fun i => (intOf (V0 i), intOf (V1 i)), by simp, ?_, ?_⟩
    · intro q hq
      obtain ⟨i, hi, rfl⟩ := List.mem_map.1 hq
      obtain ⟨⟨u, eu, hu⟩, ⟨v, ev, hv⟩⟩ := each i (by simpa using hi)
      simp only [eu, ev, intOf]
      exact ⟨hu, hv⟩
    · intro hp
      simp only [List.length_map, List.length_range] at hp ⊢
      obtain ⟨b, off, spot⟩ := x
      have hspot : spot = none := by simpa [Addr.add] using World.cell?_spot (hall 0 (by omega)).1
      subst hspot
      refine ⟨b, off, rfl, fun j hj => ?_⟩
      obtain ⟨c0, c1, _, _⟩ := hall j (by omega)
      rw [add_plain] at c0 c1
      obtain ⟨⟨u, eu, _⟩, ⟨v, ev, _⟩⟩ := each j hj
      have eD : ((List.range len).map fun i => (intOf (V0 i), intOf (V1 i))).getD j (0, 0) = (u, v) := by
        simp [List.getD, hj, eu, ev, intOf]
      rw [eD]
      exact ⟨c0.trans (by rw [eu]), (show W.cell? ⟨b, off + (j * 2 + 1), none⟩ = _ from c1).trans (by rw [ev])⟩

set_option maxRecDepth 100000 in
theorem lifted (os : Os) (started : os.Started) (H : Type) (enc : TypeId × Value → H) :
    ReturnsInHanded {} Yba.checked os 4 .any (Rows.lawS3182BFirstMatchSpec.pre6 enc Yba.prog Yba.f4 Rows.lawS3182BFirstMatchRow.domain false) (Rows.lawS3182BFirstMatchSpec.post enc Yba.prog Yba.f4 false true false false) := by
  refine returnsInHanded_of_change (C := Yba.checked) own started (by kernel_rfl) Yba.func4
    (ChangeSpec.witness6 (enc := enc) (C := Yba.checked) false ⟨#[], #[.slice none 0 0, .int .u8 0, .int .i8 0, .string ByteArray.empty], []⟩ 8 (by kernel_rfl) (by kernel_rfl) (by kernel_rfl) (by kernel_rfl)) ?_
  intro W base args ds gs before hval0 hW hcnd _
  have hval : ∀ (j : Nat) t v, Yba.f4.params[j]? = some t → args[j]? = some v → Value.okWide Yba.prog W .any base t v := hval0
  have hW' := hW
  obtain ⟨p, q, hA0, hV, rfl, hfz, hnd⟩ := hW
  have hA : DataW.TrodAll enc Yba.prog W 0 (fun _ => true) true Yba.f4.params.toList args.toList ds p := hA0
  rw [Yba.params4] at hA hval
  obtain ⟨v0, vs0, d0, ds0, p0, q0, hargs, rfl, rfl, h0, r0⟩ := trodAll_cons hA
  obtain ⟨v1, vs1, d1, ds1, p1, q1, rfl, rfl, rfl, h1, r1⟩ := trodAll_cons r0
  obtain ⟨v2, vs2, d2, ds2, p2, q2, rfl, rfl, rfl, h2, r2⟩ := trodAll_cons r1
  obtain ⟨v3, vs3, d3, ds3, p3, q3, rfl, rfl, rfl, h3, r3⟩ := trodAll_cons r2
  obtain ⟨rfl, rfl, rfl⟩ := trodAll_nil r3
  obtain rfl : args = #[v0, v1, v2, v3] := by cases args; simp_all
  obtain ⟨rfl, rfl⟩ := trodVars_none hV
  obtain ⟨a0, len0, cap0, rfl⟩ := okWide_slice Yba.underlying34 (hval 0 34 v0 rfl rfl)
  have k0 := h0
  have lt0 : ∀ x ∈ p0, x.block < W.heap.size := by obtain ⟨m, hm⟩ := k0; exact DataW.trod_lt m _ _ _ hm
  obtain ⟨z0, e0, w0⟩ := open_defs h0
  subst e0
  obtain ⟨a1, rfl, rfl, rfl, w1⟩ := open_int Yba.underlying5 (hval 1 5 v1 rfl rfl) h1
  obtain ⟨a2, rfl, rfl, rfl, w2⟩ := open_int Yba.underlying35 (hval 2 35 v2 rfl rfl) h2
  obtain ⟨a3, rfl, rfl, rfl, w3⟩ := open_string Yba.underlying9 (hval 3 9 v3 rfl rfl) h3
  clear hA0 hval0
  refine (first_walk a0 cap0 z0 a1 a2 a3 W w0 (bounds_u8 w1) (bounds8 w2)).mono fun e W' ⟨he, bel⟩ => ?_
  subst he
  exact ⟨_, rfl, _, _, _, [], _, [], hW', trodAll_mk1 (shut_bool Yba.underlying4 _), (trodAll_cons_mk (Below.trod laidOut (by kernel_rfl) (of_decide_eq_true (by kernel_rfl)) k0 bel lt0) (trodAll_cons_mk (shut_int Yba.underlying5 w1) (trodAll_cons_mk (shut_int Yba.underlying35 w2) (trodAll_cons_mk (shut_string Yba.underlying9 w3) trodAll_mk0)))), rfl, bel.frame _, fun h => by cases h⟩

theorem over : Rows.lawS3182BFirstMatchRow.holds Yba.pinned (OpenSpec.ofChange Rows.lawS3182BFirstMatchSpec) :=
  OpenClaim.holds_of_wide 4 Yba.f4 rfl rfl rfl rfl rfl rfl rfl ⟨rfl, rfl, rfl, rfl, rfl⟩ rfl rfl rfl rfl rfl (by kernel_rfl) Yba.func4 (by kernel_rfl)
    (of_decide_eq_true (by kernel_rfl)) (by unfold Func.isWrapper; first | (rw [if_pos (by decide +kernel)]; kernel_rfl) | (rw [if_neg (by decide +kernel)]; exact ⟨rfl, rfl⟩))
    (fun os started H enc _ => lifted os started H enc)

/-- ████ THE STATEMENT ████ -/
theorem proved : Rows.LawS3182BFirstMatchSaid := over
end Go.Proofs.Ybulkbmwk.lawS3182BFirstMatch
