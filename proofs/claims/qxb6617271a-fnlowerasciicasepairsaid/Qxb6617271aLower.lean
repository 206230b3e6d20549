/-
  THE CONTRACTS OF lowerASCII (6) AND ZZlowerASCII (5) over this seat's translation.
-/
import Derived.Test.Qxb6617271aRows
import Derived.WalkKit
import Derived.ProofKit
import Derived.OpenShut
import Derived.WalkSpells
import Derived.WalkLawsBesides
import Derived.Outline
namespace Go.Proofs.Qxb6617271a
open Go.RowKit

/-- What lowerASCII computes. -/
def low (c : Int) : Int := if 65 ≤ c ∧ c ≤ 90 then c + 32 else c

theorem low_in {c : Int} (h1 : 65 ≤ c) (h2 : c ≤ 90) : low c = c + 32 := if_pos ⟨h1, h2⟩
theorem low_out {c : Int} (h : ¬ (65 ≤ c ∧ c ≤ 90)) : low c = c := if_neg h

theorem lower6 (c : Int) (w : World) (h0 : 0 ≤ c) (h1 : c ≤ 255) : Calls Try.prog 6 #[.int .u8 c] w fun e w' => e = .returned (.int .u8 (low c)) ∧ w = w' := by
  by_cases a : 65 ≤ c
  · by_cases b : c ≤ 90
    · have e := low_in a b
      go_enter Try.func6, Try.ntmps6
      go_wp2
      go_ret
      exact ⟨by rw [e]; go_num, rfl⟩
    · have e : low c = c := low_out (by omega)
      go_enter Try.func6, Try.ntmps6
      go_wp2
      go_ret
      exact ⟨rfl, rfl⟩
  · have e : low c = c := low_out (by omega)
    go_enter Try.func6, Try.ntmps6
    go_wp2
    go_ret
    exact ⟨rfl, rfl⟩

theorem lower5 (c : Int) (w : World) (h0 : 0 ≤ c) (h1 : c ≤ 255) : Calls Try.prog 5 #[.int .u8 c] w fun e w' => e = .returned (.int .u8 (low c)) ∧ w = w' := by
  go_enter Try.func5, Try.ntmps5
  go_wp2_with (go_at_call 6; refine (lower6 _ _ h0 h1).mono ?_; rintro e w' ⟨rfl, rfl⟩)
  go_ret
  exact ⟨rfl, rfl⟩

/-- The plain law, at every byte. -/
def PairLaw (c : Int) : Prop :=
  (0 ≤ bits .xor .u8 c 32 ∧ bits .xor .u8 c 32 ≤ 255) ∧ (0 ≤ bits .or .u8 c 32 ∧ bits .or .u8 c 32 ≤ 255) ∧
  (97 ≤ bits .or .u8 c 32 ∧ bits .or .u8 c 32 ≤ 122 → low c = bits .or .u8 c 32 ∧ low (bits .xor .u8 c 32) = bits .or .u8 c 32 ∧ low (bits .or .u8 c 32) = bits .or .u8 c 32) ∧
  (¬ (97 ≤ bits .or .u8 c 32 ∧ bits .or .u8 c 32 ≤ 122) → low c = c ∧ low (bits .xor .u8 c 32) = bits .xor .u8 c 32)

theorem pairLaw_fin : ∀ n : Fin 256, PairLaw (n.val : Int) := by
  unfold PairLaw low
  decide +kernel

theorem pairLaw (c : Int) (h0 : 0 ≤ c) (h1 : c ≤ 255) : PairLaw c := by
  obtain ⟨n, rfl⟩ := Int.eq_ofNat_of_zero_le h0
  exact pairLaw_fin ⟨n, by omega⟩

theorem pair_walk (c : Int) (w : World) (h0 : 0 ≤ c) (h1 : c ≤ 255) : Calls Try.prog 3 #[.int .u8 c] w fun e w' => e = .returned (.bool true) ∧ w = w' := by
  obtain ⟨⟨p0, p1⟩, ⟨q0, q1⟩, hyes, hno⟩ := pairLaw c h0 h1
  by_cases hq : 97 ≤ bits .or .u8 c 32 ∧ bits .or .u8 c 32 ≤ 122
  · obtain ⟨e1, e2, e3⟩ := hyes hq
    obtain ⟨g1, g2⟩ := hq
    clear hyes hno
    go_enter Try.func3, Try.ntmps3
    go_wp2_with fail
    refine (lower5 _ _ h0 h1).mono ?_
    rintro e w' ⟨rfl, rfl⟩
    go_wp2_with fail
    refine (lower5 _ _ p0 p1).mono ?_
    rintro e w' ⟨rfl, rfl⟩
    go_wp2_with fail
    refine (lower5 _ _ q0 q1).mono ?_
    rintro e w' ⟨rfl, rfl⟩
    go_wp2
    go_ret
    exact ⟨rfl, rfl⟩
  · obtain ⟨e1, e2⟩ := hno hq
    clear hyes hno
    by_cases g1 : 97 ≤ bits .or .u8 c 32
    · have g2 : ¬ bits .or .u8 c 32 ≤ 122 := fun g => hq ⟨g1, g⟩
      clear hq
      go_enter Try.func3, Try.ntmps3
      go_wp2_with fail
      refine (lower5 _ _ h0 h1).mono ?_
      rintro e w' ⟨rfl, rfl⟩
      go_wp2_with fail
      refine (lower5 _ _ p0 p1).mono ?_
      rintro e w' ⟨rfl, rfl⟩
      go_wp2_with fail
      refine (lower5 _ _ h0 h1).mono ?_
      rintro e w' ⟨rfl, rfl⟩
      go_wp2
      go_ret
      exact ⟨rfl, rfl⟩
    · clear hq
      go_enter Try.func3, Try.ntmps3
      go_wp2_with fail
      refine (lower5 _ _ h0 h1).mono ?_
      rintro e w' ⟨rfl, rfl⟩
      go_wp2_with fail
      refine (lower5 _ _ p0 p1).mono ?_
      rintro e w' ⟨rfl, rfl⟩
      go_wp2_with fail
      refine (lower5 _ _ h0 h1).mono ?_
      rintro e w' ⟨rfl, rfl⟩
      go_wp2
      go_ret
      exact ⟨rfl, rfl⟩
end Go.Proofs.Qxb6617271a
