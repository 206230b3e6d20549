/-
  THE PLAIN LAW OF FnPassPositionCountsEventsSeen: no walk here.
-/
import Derived.Test.Qxb6617282aPlain
namespace Go.Proofs.Qxb6617282a
open Go.RowKit

/-- How many of the first k are at most A. -/
def cle (h : List Int) (A : Int) : Nat → Int
  | 0 => 0
  | k + 1 => cle h A k + (if h.getD k 0 ≤ A then 1 else 0)

theorem cle_hit {h : List Int} {A : Int} {k : Nat} (e : h.getD k 0 ≤ A) : cle h A (k + 1) = cle h A k + 1 := by
  show cle h A k + _ = _
  rw [if_pos e]
theorem cle_miss {h : List Int} {A : Int} {k : Nat} (e : ¬ h.getD k 0 ≤ A) : cle h A (k + 1) = cle h A k := by
  show cle h A k + _ = _
  rw [if_neg e, Int.add_zero]

theorem cle_bound (h : List Int) (A : Int) : ∀ k, 0 ≤ cle h A k ∧ cle h A k ≤ k
  | 0 => ⟨Int.le_refl _, Int.le_refl _⟩
  | k + 1 => by
    have e := cle_bound h A k
    unfold cle
    split <;> constructor <;> omega

theorem cle_all (h : List Int) (A : Int) : ∀ k, (∀ i, i < k → h.getD i 0 ≤ A) → cle h A k = k
  | 0, _ => rfl
  | k + 1, e => by
    rw [cle_hit (e k (by omega)), cle_all h A k (fun i hi => e i (by omega))]
    omega

theorem cle_stop (h : List Int) (A : Int) (k : Nat) : ∀ d, (∀ i, k ≤ i → i < k + d → ¬ h.getD i 0 ≤ A) → cle h A (k + d) = cle h A k
  | 0, _ => rfl
  | d + 1, e => by
    rw [← Nat.add_assoc, cle_miss (e (k + d) (by omega) (by omega)), cle_stop h A k d (fun i h1 h2 => e i h1 (by omega))]

/-- The history as the law takes it: versions from 1 on that never go down. -/
structure Hist (h : List Int) (n : Nat) : Prop where
  len : h.length = n
  pos : ∀ i, i < n → 1 ≤ h.getD i 0
  top : ∀ i, i < n → h.getD i 0 ≤ 18446744073709551615
  mono : ∀ i, i + 1 < n → h.getD i 0 ≤ h.getD (i + 1) 0

theorem Hist.le {h : List Int} {n : Nat} (H : Hist h n) : ∀ (d i : Nat), i + d < n → h.getD i 0 ≤ h.getD (i + d) 0
  | 0, _, _ => Int.le_refl _
  | d + 1, i, e => by
    have e1 := H.le d i (by omega)
    have e2 := H.mono (i + d) (by omega)
    rw [← Nat.add_assoc]
    omega

theorem Hist.le' {h : List Int} {n : Nat} (H : Hist h n) (i j : Nat) (hij : i ≤ j) (hj : j < n) : h.getD i 0 ≤ h.getD j 0 := by
  have := H.le (j - i) i (by omega)
  rwa [show i + (j - i) = j by omega] at this

/-- Where a watch stands behind the first k events. -/
def Inv (h : List Int) (k : Nat) (A S : Int) : Prop :=
  (k = 0 → A = 0 ∧ S = 0) ∧ (0 < k → A = h.getD (k - 1) 0 - 1) ∧ cle h A k + S = k ∧ 0 ≤ S ∧ S ≤ k

theorem inv_step {h : List Int} {n : Nat} (H : Hist h n) (hn : n ≤ 4294967296) (k : Nat) (hk : k < n) (A S : Int) (I : Inv h k A S) : Inv h (k + 1) (passA A (h.getD k 0)) (passS A S (h.getD k 0)) := by
  obtain ⟨i0, i1, i2, i3, i4⟩ := I
  have p := H.pos k hk
  have t := H.top k hk
  have hA : 0 ≤ A ∧ A ≤ 18446744073709551614 := by
    by_cases e : k = 0
    · rw [(i0 e).1]; omega
    · have p1 := H.pos (k - 1) (by omega)
      have t1 := H.top (k - 1) (by omega)
      rw [i1 (by omega)]; omega
  have hup : up A = A + 1 := by
    unfold up
    rw [IntKind.wrap_u64]
    omega
  unfold passA passS
  rw [hup]
  by_cases hv : h.getD k 0 = A + 1
  · rw [if_pos hv, if_pos hv, wrap64_in (by omega) (by omega)]
    refine ⟨fun e => absurd e (by omega), fun _ => by simp only [Nat.add_sub_cancel]; omega, ?_, by omega, by omega⟩
    rw [cle_miss (by omega)]
    omega
  · rw [if_neg hv, if_neg hv]
    have hd : down (h.getD k 0) = h.getD k 0 - 1 := by
      unfold down
      rw [IntKind.wrap_u64]
      omega
    rw [hd]
    refine ⟨fun e => absurd e (by omega), fun _ => by simp only [Nat.add_sub_cancel], ?_, by omega, by omega⟩
    rw [cle_miss (by omega), cle_all h _ k]
    · omega
    · intro i hi
      have e1 := H.le' i (k - 1) (by omega) (by omega)
      have e2 := H.le' (k - 1) k (by omega) hk
      have e3 := i1 (by omega)
      omega

theorem inv_runs {h : List Int} {n : Nat} (H : Hist h n) (hn : n ≤ 4294967296) : ∀ k, k ≤ n → Inv h k (runs 0 0 (h.take k)).1 (runs 0 0 (h.take k)).2
  | 0, _ => ⟨fun _ => ⟨rfl, rfl⟩, fun e => absurd e (by omega), rfl, Int.le_refl _, Int.le_refl _⟩
  | k + 1, e => by
    have r := runs_take 0 0 h k (by rw [H.len]; omega)
    rw [r.1, r.2]
    exact inv_step H hn k (by omega) _ _ (inv_runs H hn k (by omega))

/-- THE LAW. -/
theorem count_law {h : List Int} {n : Nat} (H : Hist h n) (m : Nat) (hm : m ≤ n) (A S : Int) (I : Inv h m A S) :
    cle h A n + S = m ∧ (m = 0 → A = 0 ∧ S = 0) ∧ (0 < m → h.getD (m - 1) 0 = up A) := by
  obtain ⟨i0, i1, i2, i3, i4⟩ := I
  have hs := cle_stop h A m (n - m) (fun i h1 h2 => by
    by_cases e : m = 0
    · have p := H.pos i (by omega)
      rw [(i0 e).1]; omega
    · have e1 := H.le' (m - 1) i (by omega) (by omega)
      have e2 := i1 (by omega)
      omega)
  rw [show m + (n - m) = n by omega] at hs
  refine ⟨by rw [hs]; exact i2, i0, fun e => ?_⟩
  have e2 := i1 e
  have p := H.pos (m - 1) (by omega)
  have t := H.top (m - 1) (by omega)
  unfold up
  rw [IntKind.wrap_u64]
  omega
end Go.Proofs.Qxb6617282a
