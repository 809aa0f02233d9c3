import Derived.Test.YbulkbmwkBan
import Derived.Deep.DeepCutAuto
import Derived.Deep.QuietTactic
import Derived.BigQuiet
import Derived.WalkSpells
namespace Go.Proofs.Ybulkbmwk
open Go.RowKit Go.Maps

/-- The statements of a body from the n-th on. -/
def tailN : Nat → Code → Code
  | 0, c => c
  | n + 1, .seq _ b => tailN n b
  | _ + 1, c => c

theorem zip_take_succ (KS VS : List ByteArray) (j : Nat) (h1 : j < KS.length) (h2 : j < VS.length) :
    (KS.zip VS).take (j + 1) = (KS.zip VS).take j ++ [(KS.getD j ByteArray.empty, VS.getD j ByteArray.empty)] := by
  rw [List.take_succ_eq_append_getElem (by simp; omega)]; simp [List.getD, h1, h2]
/-- THE PLAIN FACT OF THE FOURTH LOOP: a key that is not online was stored last at the last place where it stands. -/
theorem last_key (KS VS OS : List ByteArray) (src x : ByteArray) (n l : Nat) (h1 : n ≤ KS.length) (h2 : n ≤ VS.length) (hl : l < n) (hx : KS.getD l ByteArray.empty = x) (hno : x ∉ OS) (hlast : ∀ q, l < q → q < n → KS.getD q ByteArray.empty ≠ x) :
    lastOf ((KS.zip VS).take n ++ OS.map (fun o => (o, src))) x = some (VS.getD l ByteArray.empty) := by
  have hA : ∀ m, l < m → m ≤ n → lastOf ((KS.zip VS).take m) x = some (VS.getD l ByteArray.empty) := by
    intro m
    induction m with
    | zero => intro h; omega
    | succ m ih =>
      intro h hm
      rw [zip_take_succ KS VS m (by omega) (by omega), lastOf_snoc]
      by_cases e : m = l
      · subst e; rw [if_pos hx]
      · rw [if_neg (hlast m (by omega) (by omega))]; exact ih (by omega) (by omega)
  have hB : ∀ (O : List ByteArray), x ∉ O → lastOf ((KS.zip VS).take n ++ O.map (fun o => (o, src))) x = some (VS.getD l ByteArray.empty) := by
    intro O
    have : ∀ (O : List ByteArray) (acc : Option ByteArray), x ∉ O → (O.map (fun o => (o, src))).foldl (fun acc p => if p.1 = x then some p.2 else acc) acc = acc := by
      intro O
      induction O with
      | nil => intro acc _; rfl
      | cons o O ih =>
        intro acc hn
        simp only [List.mem_cons, not_or] at hn
        simp only [List.map_cons, List.foldl_cons]
        rw [if_neg (fun e => hn.1 e.symm)]
        exact ih acc hn.2
    intro hO
    have hA' := hA n hl (Nat.le_refl _)
    unfold lastOf at hA' ⊢
    rw [List.foldl_append, hA']
    exact this O _ hO
  exact hB OS hno
/-- .. AND OF THE THIRD: an online name was stored last with the source. -/
theorem last_online (L : KV) (OS : List ByteArray) (src x : ByteArray) (h : x ∈ OS) : lastOf (L ++ OS.map (fun o => (o, src))) x = some src := by
  have : ∀ (O : List ByteArray) (acc : Option ByteArray), (x ∈ O ∨ acc = some src) → (O.map (fun o => (o, src))).foldl (fun acc p => if p.1 = x then some p.2 else acc) acc = some src := by
    intro O
    induction O with
    | nil => intro acc h; rcases h with h | h; · simp at h
             · exact h
    | cons o O ih =>
      intro acc h
      simp only [List.map_cons, List.foldl_cons]
      by_cases e : o = x
      · rw [if_pos e]; exact ih _ (.inr rfl)
      · rw [if_neg e]
        refine ih _ ?_
        rcases h with h | h
        · rw [List.mem_cons] at h
          rcases h with h | h
          · exact absurd h.symm e
          · exact .inl h
        · exact .inr h
  unfold lastOf
  rw [List.foldl_append]
  exact this OS _ (.inl h)
theorem zip_keys (KS VS OS : List ByteArray) (src : ByteArray) (n : Nat) (h1 : n ≤ KS.length) (h2 : n ≤ VS.length) : (((KS.zip VS).take n ++ OS.map (fun o => (o, src))).map (·.1)) = KS.take n ++ OS := by
  have e : ∀ m, m ≤ n → ((KS.zip VS).take m).map (·.1) = KS.take m := by
    intro m
    induction m with
    | zero => intro _; simp
    | succ m ih =>
      intro h
      rw [zip_take_succ KS VS m (by omega) (by omega), List.map_append, ih (by omega), take_snoc KS m (by omega)]
      simp
  rw [List.map_append, e n (Nat.le_refl _), List.map_map]
  congr 1
  exact List.map_id' OS
end Go.Proofs.Ybulkbmwk
