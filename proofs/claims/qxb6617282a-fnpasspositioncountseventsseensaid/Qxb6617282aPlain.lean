/-
  THE PLAIN LAWS OF Pass: no walk here.
-/
import Derived.Test.Qxb6617282aPass
import Derived.Laws.Bits64
namespace Go.Proofs.Qxb6617282a
open Go.RowKit

def U64 (v : Int) : Prop := 0 ≤ v ∧ v ≤ 18446744073709551615

theorem up_down (v : Int) (h : U64 v) : up (down v) = v := by
  unfold up down
  rw [IntKind.wrap_u64, IntKind.wrap_u64]
  obtain ⟨_, _⟩ := h
  omega

theorem wrap64_in {n : Int} (h0 : -9223372036854775808 ≤ n) (h1 : n ≤ 9223372036854775807) : wrap64 n = n := by
  unfold wrap64
  omega

theorem wrap64_idem (n : Int) : wrap64 (wrap64 n) = wrap64 n := by
  unfold wrap64
  omega

theorem wrap64_add (n m : Int) : wrap64 (wrap64 n + m) = wrap64 (n + m) := by
  unfold wrap64
  omega

def step (p : Int × Int) (v : Int) : Int × Int := (passA p.1 v, passS p.1 p.2 v)
def runs (A S : Int) (vs : List Int) : Int × Int := vs.foldl step (A, S)

theorem runs_snoc (A S : Int) (vs : List Int) (v : Int) : runs A S (vs ++ [v]) = step (runs A S vs) v := by simp [runs, List.foldl_append]

theorem runs_take (A S : Int) (vs : List Int) (k : Nat) (h : k < vs.length) :
    (runs A S (vs.take (k + 1))).1 = passA (runs A S (vs.take k)).1 (vs.getD k 0) ∧ (runs A S (vs.take (k + 1))).2 = passS (runs A S (vs.take k)).1 (runs A S (vs.take k)).2 (vs.getD k 0) := by
  have e : vs.getD k 0 = vs[k] := by simp [h]
  rw [List.take_succ_eq_append_getElem h, runs_snoc, e]
  exact ⟨rfl, rfl⟩

theorem up_step (p : Int × Int) (v : Int) (h : U64 v) : up (step p v).1 = v := by
  show up (passA p.1 v) = v
  unfold passA
  split
  · rename_i e
    exact e.symm
  · exact up_down v h

theorem step_hit (A S v : Int) (h : v = up A) : step (A, S) v = (A, wrap64 (S + 1)) := by
  show (passA A v, passS A S v) = _
  unfold passA passS
  rw [if_pos h, if_pos h]

theorem step_miss (p : Int × Int) (v : Int) (h : ¬ v = up p.1) : step p v = (down v, 1) := by
  show (passA p.1 v, passS p.1 p.2 v) = _
  unfold passA passS
  rw [if_neg h, if_neg h]

/-- k times the version that is next. -/
theorem runs_same (A v : Int) (h : v = up A) : ∀ (k : Nat) (S : Int), wrap64 S = S → (List.replicate k v).foldl step (A, S) = (A, wrap64 (S + k))
  | 0, S, hS => by simp [hS]
  | k + 1, S, _ => by
    rw [List.replicate_succ, List.foldl_cons, step_hit A S v h, runs_same A v h k _ (wrap64_idem _), wrap64_add]
    congr 2
    omega

/-- k times a version, from a position that it is not the next of. -/
theorem runs_other (p : Int × Int) (v : Int) (hv : U64 v) (h : ¬ v = up p.1) (k : Nat) (hk : 1 ≤ k) (hk2 : k ≤ 4294967296) : (List.replicate k v).foldl step p = (down v, (k : Int)) := by
  obtain ⟨j, rfl⟩ : ∃ j, k = j + 1 := ⟨k - 1, by omega⟩
  rw [List.replicate_succ, List.foldl_cons, step_miss p v h, runs_same (down v) v (up_down v hv).symm j 1 (wrap64_in (by omega) (by omega)), wrap64_in (by omega) (by omega)]
  congr 1
  omega

/-- The list ends in k times its last version. -/
theorem tail_same (vs : List Int) (k : Nat) (last : Int) (hk : k ≤ vs.length) (hrun : ∀ j, j < k → vs.getD (vs.length - 1 - j) 0 = last) : vs.drop (vs.length - k) = List.replicate k last := by
  apply List.ext_getElem
  · simp; omega
  · intro i h1 h2
    have hi : i < k := by simpa using h2
    have e := hrun (k - 1 - i) (by omega)
    have e2 : vs.length - 1 - (k - 1 - i) = vs.length - k + i := by omega
    rw [e2] at e
    have hlt : vs.length - k + i < vs.length := by omega
    rw [List.getElem_drop, List.getElem_replicate, ← e]
    simp [hlt]

/-- THE LAW OF THE LAST RUN. -/
theorem runs_last (A S : Int) (vs : List Int) (k : Nat) (last : Int) (hu : ∀ v ∈ vs, U64 v) (hS : wrap64 S = S) (hlen : vs.length ≤ 4294967296) (hk : k ≤ vs.length) (hk1 : 1 ≤ k)
    (hrun : ∀ j, j < k → vs.getD (vs.length - 1 - j) 0 = last) (hend : k = vs.length ∨ ¬ vs.getD (vs.length - 1 - k) 0 = last) :
    runs A S vs = if k = vs.length ∧ last = up A then (A, wrap64 (S + k)) else (down last, (k : Int)) := by
  have hd := tail_same vs k last hk hrun
  have hl : U64 last := by
    refine hu last ?_
    have : last ∈ vs.drop (vs.length - k) := by rw [hd]; simp; omega
    exact List.mem_of_mem_drop this
  have hsplit : runs A S vs = (List.replicate k last).foldl step (runs A S (vs.take (vs.length - k))) := by
    rw [← hd]
    unfold runs
    rw [← List.foldl_append, List.take_append_drop]
  rw [hsplit]
  by_cases hkn : k = vs.length
  · have e0 : vs.take (vs.length - k) = [] := by rw [hkn]; simp
    rw [e0]
    show List.foldl step (A, S) _ = _
    by_cases hA : last = up A
    · rw [if_pos ⟨hkn, hA⟩]
      exact runs_same A last hA k S hS
    · rw [if_neg (fun q => hA q.2)]
      exact runs_other (A, S) last hl hA k hk1 (by omega)
  · rw [if_neg (fun q => hkn q.1)]
    have hne : ¬ vs.getD (vs.length - 1 - k) 0 = last := by
      rcases hend with h | h
      · exact absurd h hkn
      · exact h
    have hlt : vs.length - 1 - k < vs.length := by omega
    have e1 : vs.length - k = vs.length - 1 - k + 1 := by omega
    have e2 : vs.getD (vs.length - 1 - k) 0 = vs[vs.length - 1 - k] := by simp [hlt]
    have hup : up (runs A S (vs.take (vs.length - k))).1 = vs[vs.length - 1 - k] := by
      rw [e1, List.take_succ_eq_append_getElem hlt, runs_snoc]
      exact up_step _ _ (hu _ (List.getElem_mem hlt))
    refine runs_other _ last hl ?_ k hk1 (by omega)
    rw [hup, ← e2]
    exact fun q => hne q.symm
end Go.Proofs.Qxb6617282a
