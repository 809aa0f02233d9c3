import Derived.Test.YbulkbmwkBasics
import Derived.Maps.OwnSet
import Derived.Maps.StringElems
import Derived.KernelRfl
namespace Go.Proofs.Ybulkbmwk
open Go.RowKit Go.Maps

/-! ### The map of strings as the list of what was stored into it, in order -/
abbrev KV := List (ByteArray × ByteArray)
def keyL (s : ByteArray) : Lit := .string s.data.toList
theorem keyL_inj {a b : ByteArray} (h : keyL a = keyL b) : a = b := by
  simp only [keyL, Lit.string.injEq] at h
  have h2 : a.data = b.data := Array.toList_inj.1 h
  cases a; cases b; simp_all
/-- What the map reads as. -/
def dat (L : KV) : DataW Unit := L.foldl (fun m p => m.put (keyL p.1) (.lit (keyL p.2))) (.map [])
/-- What was stored last at s. -/
def lastOf (L : KV) (s : ByteArray) : Option ByteArray := L.foldl (fun acc p => if p.1 = s then some p.2 else acc) none

theorem dat_snoc (L : KV) (k v : ByteArray) : dat (L ++ [(k, v)]) = (dat L).put (keyL k) (.lit (keyL v)) := by simp [dat, List.foldl_append]
theorem lastOf_snoc (L : KV) (k v s : ByteArray) : lastOf (L ++ [(k, v)]) s = if k = s then some v else lastOf L s := by simp [lastOf, List.foldl_append]

theorem isKeyL (s : ByteArray) : WideAt.IsKeyLit (keyL s) := by simp [keyL, WideAt.IsKeyLit]

theorem snocRec {P : KV → Prop} (h0 : P []) (h1 : ∀ L k v, P L → P (L ++ [(k, v)])) (L : KV) : P L := by
  have : ∀ n (L : KV), L.length = n → P L := by
    intro n
    induction n with
    | zero => intro L hL; rw [List.length_eq_zero_iff] at hL; subst hL; exact h0
    | succ n ih =>
      intro L hL
      have hne : L ≠ [] := by intro e; subst e; simp at hL
      rw [← List.dropLast_concat_getLast hne]
      exact h1 _ _ _ (ih _ (by simp [hL]))
  exact this _ L rfl

theorem tidy_dat (L : KV) : Tidy (dat L) := by
  induction L using snocRec with
  | h0 => exact tidy_empty
  | h1 L k v ih => rw [dat_snoc]; exact ih.put (isKeyL k) _
theorem has_dat (L : KV) (s : ByteArray) : Maps.has (dat L) (keyL s) = (lastOf L s).isSome := by
  induction L using snocRec with
  | h0 => rfl
  | h1 L k v ih =>
    rw [dat_snoc, lastOf_snoc]
    by_cases e : k = s
    · subst e; rw [has_put_same (tidy_dat L).isMap (isKeyL k)]; simp
    · rw [has_put_other (fun h => e (keyL_inj h).symm), ih, if_neg e]
theorem at_dat (L : KV) (s : ByteArray) (zd : DataW Unit) : (dat L).atKey (keyL s) zd = match lastOf L s with | some v => .lit (keyL v) | none => zd := by
  induction L using snocRec with
  | h0 => rfl
  | h1 L k v ih =>
    rw [dat_snoc, lastOf_snoc]
    by_cases e : k = s
    · subst e; rw [atKey_put_same (tidy_dat L).isMap (isKeyL k)]; simp
    · rw [atKey_put_other (fun h => e (keyL_inj h).symm), ih, if_neg e]
theorem lastOf_isSome (L : KV) (s : ByteArray) : (lastOf L s).isSome = true ↔ s ∈ L.map (·.1) := by
  induction L using snocRec with
  | h0 => simp [lastOf]
  | h1 L k v ih =>
    rw [lastOf_snoc]
    by_cases e : k = s
    · subst e; simp
    · rw [if_neg e, ih]
      have e' : s ≠ k := fun h => e h.symm
      simp [e']

/-! ### How many different ones a list holds -/
def Cnt (l : List ByteArray) (c : Nat) : Prop := ∃ U : List ByteArray, U.Nodup ∧ (∀ x, x ∈ U ↔ x ∈ l) ∧ U.length = c
theorem Cnt.nil : Cnt [] 0 := ⟨[], List.nodup_nil, fun _ => Iff.rfl, rfl⟩
theorem Cnt.old {l : List ByteArray} {c : Nat} (h : Cnt l c) {x : ByteArray} (hx : x ∈ l) : Cnt (l ++ [x]) c := by
  obtain ⟨U, hn, hm, hc⟩ := h
  refine ⟨U, hn, fun y => ?_, hc⟩
  rw [hm y]
  simp only [List.mem_append, List.mem_singleton]
  constructor
  · exact Or.inl
  · rintro (h | rfl)
    · exact h
    · exact hx
theorem Cnt.fresh {l : List ByteArray} {c : Nat} (h : Cnt l c) {x : ByteArray} (hx : x ∉ l) : Cnt (l ++ [x]) (c + 1) := by
  obtain ⟨U, hn, hm, hc⟩ := h
  refine ⟨x :: U, List.nodup_cons.2 ⟨fun h => hx ((hm x).1 h), hn⟩, fun y => ?_, by simp [hc]⟩
  simp only [List.mem_cons, List.mem_append, List.not_mem_nil, or_false, hm y]
  exact Or.comm
theorem nodup_le : ∀ (U V : List ByteArray), U.Nodup → (∀ x, x ∈ U → x ∈ V) → U.length ≤ V.length
  | [], _, _, _ => Nat.zero_le _
  | x :: U, V, hn, hs => by
    have hx : x ∈ V := hs x (by simp)
    rw [List.nodup_cons] at hn
    obtain ⟨A, B, rfl⟩ := List.append_of_mem hx
    have h := nodup_le U (A ++ B) hn.2 (fun y hy => by
      have h1 := hs y (by simp [hy])
      have h2 : y ≠ x := by rintro rfl; exact hn.1 hy
      simp only [List.mem_append, List.mem_cons] at h1 ⊢
      rcases h1 with h1 | h1 | h1
      · exact Or.inl h1
      · exact absurd h1 h2
      · exact Or.inr h1)
    simp only [List.length_append, List.length_cons] at h ⊢
    omega
theorem Cnt.same {l l' : List ByteArray} {c c' : Nat} (h : Cnt l c) (h' : Cnt l' c') (e : ∀ x, x ∈ l ↔ x ∈ l') : c = c' := by
  obtain ⟨U, hn, hm, rfl⟩ := h
  obtain ⟨V, hn', hm', rfl⟩ := h'
  exact Nat.le_antisymm (nodup_le U V hn (fun x hx => (hm' x).2 ((e x).1 ((hm x).1 hx)))) (nodup_le V U hn' (fun x hx => (hm x).2 ((e x).2 ((hm' x).1 hx))))
theorem cnt_dat (L : KV) : Cnt (L.map (·.1)) (Maps.size (dat L)) := by
  induction L using snocRec with
  | h0 => exact Cnt.nil
  | h1 L k v ih =>
    rw [dat_snoc, size_put (tidy_dat L), has_dat, List.map_append, List.map_singleton]
    by_cases e : (lastOf L k).isSome = true
    · rw [if_pos e]; exact ih.old ((lastOf_isSome L k).1 e)
    · rw [if_neg e]; exact ih.fresh (fun h => e ((lastOf_isSome L k).2 h))

/-! ### The map in memory -/
theorem klaw : Keyed Yba.prog 9 := string_keyed Yba.underlying9
theorem zero9 (w : World) : (zeroValue 9).run Yba.prog w = .ok (.string ByteArray.empty) w := by kernel_rfl
def MapAt (w : World) (B n : Nat) (L : KV) : Prop := w.ownsMap (H := Unit) Yba.prog 9 (plainElem Yba.prog 9) B n (dat L)

theorem MapAt.kept {w w' : World} {B n : Nat} {L : KV} {row : Option Nat} (h : MapAt w B n L) (hg : w.grownBy w' row) (hne : some B ≠ row) : MapAt w' B n L := World.ownsMap.kept h hg hne
theorem MapAt.lt {w : World} {B n : Nat} {L : KV} (h : MapAt w B n L) : B < w.heap.size := World.ownsMap.lt h
theorem MapAt.block {w w' : World} {B n : Nat} {L : KV} (h : MapAt w B n L) (e : w'.heap[B]? = w.heap[B]?) : MapAt w' B n L := by
  obtain ⟨es, clock, hb, F, hs, hd⟩ := h
  exact ⟨es, clock, by rw [e]; exact hb, F, hs, hd⟩
theorem MapAt.made (w : World) : MapAt (w.alloc (.map #[] 0)) w.heap.size 0 [] := World.ownsMap_made _ _ _ _

theorem MapAt.look {w : World} {B n : Nat} {L : KV} (h : MapAt w B n L) {s v : ByteArray} (hs : s.size ≤ maxLen) (hl : lastOf L s = some v) :
    (Instr.lookup 51 (.map (some B)) (.string s) true).run Yba.prog w = .ok (.tuple #[.string v, .bool true]) w := by
  obtain ⟨x, ps, hrun, hx⟩ := World.ownsMap.look_ok h klaw Yba.underlying51 (zero9 w) (zd := .lit (.string [])) (zp := []) (plainElem_string Yba.underlying9 (s := ByteArray.empty) (by simp)) (Go.WideMaps.keyOf_string_mk Yba.underlying9 hs)
  have e := has_dat L s
  have e2 := at_dat L s (.lit (.string []))
  rw [hl] at e e2
  unfold keyL at e e2
  rw [e] at hrun
  rw [e2] at hx
  obtain ⟨c, rfl, hz, _⟩ := plainElem_string_inv Yba.underlying9 hx
  simp only [Prod.mk.injEq, DataW.lit.injEq] at hz
  have : v = c := keyL_inj hz.1
  subst this
  exact hrun
theorem MapAt.store {w : World} {B n : Nat} {L : KV} (h : MapAt w B n L) (hn : n < maxLen) {k v : ByteArray} (hk : k.size ≤ maxLen) (hv : v.size ≤ maxLen) :
    ∃ w', (Instr.mapUpdate 51 (.map (some B)) (.string k) (.string v)).run Yba.prog w = .ok () w' ∧ MapAt w' B (n + 1) (L ++ [(k, v)]) ∧ w.grownBy w' (some B) := by
  obtain ⟨w', hrun, ho, hg⟩ := World.ownsMap.update h klaw Yba.underlying51 hn (Go.WideMaps.keyOf_string_mk Yba.underlying9 hk) (plainElem_string Yba.underlying9 hv)
  refine ⟨w', hrun, ?_, hg⟩
  unfold MapAt
  rw [dat_snoc]
  exact ho
theorem MapAt.len {w : World} {B n : Nat} {L : KV} (h : MapAt w B n L) (ty : TypeId) : (Builtin.len_ #[51] ty #[.map (some B)]).run Yba.prog w = .ok (.int .i64 (Maps.size (dat L))) w :=
  World.ownsMap.len h Yba.underlying51 ty
end Go.Proofs.Ybulkbmwk
