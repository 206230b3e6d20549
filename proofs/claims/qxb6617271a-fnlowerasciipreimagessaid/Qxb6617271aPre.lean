/-
  THE WALK OF FnLowerASCIIPreimages (4).
-/
import Derived.Test.Qxb6617271aLower
namespace Go.Proofs.Qxb6617271a
open Go.RowKit

/-- How many of the bytes below k fold to c. -/
def cnt (c : Int) : Nat → Int
  | 0 => 0
  | k + 1 => cnt c k + (if low (k : Int) = c then 1 else 0)

theorem cnt_bound (c : Int) : ∀ k, 0 ≤ cnt c k ∧ cnt c k ≤ k
  | 0 => ⟨Int.le_refl _, Int.le_refl _⟩
  | k + 1 => by
    have h := cnt_bound c k
    unfold cnt
    split <;> constructor <;> omega

theorem cnt_hit {c : Int} {k : Nat} (h : low (k : Int) = c) : cnt c (k + 1) = cnt c k + 1 := by
  show cnt c k + _ = _
  rw [if_pos h]
theorem cnt_miss {c : Int} {k : Nat} (h : ¬ low (k : Int) = c) : cnt c (k + 1) = cnt c k := by
  show cnt c k + _ = _
  rw [if_neg h, Int.add_zero]

/-- The plain law, at every byte. -/
def PreLaw (c : Int) : Prop := cnt c 256 = if 97 ≤ c ∧ c ≤ 122 then 2 else if 65 ≤ c ∧ c ≤ 90 then 0 else 1

theorem preLaw_fin : ∀ n : Fin 256, cnt (n.val : Int) 256 = if 97 ≤ (n.val : Int) ∧ (n.val : Int) ≤ 122 then 2 else if 65 ≤ (n.val : Int) ∧ (n.val : Int) ≤ 90 then 0 else 1 := by
  decide +kernel

theorem preLaw (c : Int) (h0 : 0 ≤ c) (h1 : c ≤ 255) : PreLaw c := by
  obtain ⟨n, rfl⟩ := Int.eq_ofNat_of_zero_le h0
  exact preLaw_fin ⟨n, by omega⟩

set_option maxRecDepth 100000 in
theorem pre_walk (c : Int) (w : World) (h0 : 0 ≤ c) (h1 : c ≤ 255) : Calls Try.prog 4 #[.int .u8 c] w fun e w' => e = .returned (.bool true) ∧ w = w' := by
  go_enter Try.func4, Try.ntmps4
  go_wp2
  go_loop [3, 4] (fun n i => ∃ k : Nat, k ≤ 256 ∧ i = .int .i64 k ∧ n = .int .i64 (cnt c k)) (fun _ i => 256 - (intOf i).toNat)
  case atStart => exact ⟨0, Nat.zero_le _, rfl, rfl⟩
  case round =>
    obtain ⟨k, hk, rfl, rfl⟩ := hrel
    have hb := cnt_bound c k
    obtain ⟨b0, b1⟩ := hb
    by_cases hlt : k < 256
    · have k0 : (0 : Int) ≤ (k : Int) := by omega
      have k1 : (k : Int) ≤ 255 := by omega
      by_cases hc : low (k : Int) = c
      · have HC : Hid (cnt c (k + 1) = cnt c k + 1) := cnt_hit hc
        have hB : (low (k : Int) == c) = true := by rw [hc]; exact beq_self_eq_true c
        clear hc
        go_wp2_with fail
        refine (lower5 _ _ k0 k1).mono ?_
        rintro e w' ⟨rfl, rfl⟩
        go_wp2
        go_round
        case rel => exact ⟨k + 1, by omega, by go_num, by rw [HC.out]⟩
        case measure => simp [intOf]; omega
      · have HC : Hid (cnt c (k + 1) = cnt c k) := cnt_miss hc
        have hB : (low (k : Int) == c) = false := beq_eq_false_iff_ne.2 hc
        clear hc
        go_wp2_with fail
        refine (lower5 _ _ k0 k1).mono ?_
        rintro e w' ⟨rfl, rfl⟩
        go_wp2
        go_round
        case rel => exact ⟨k + 1, by omega, by go_num, by rw [HC.out]⟩
        case measure => simp [intOf]; omega
    · have e256 : k = 256 := by omega
      subst e256
      clear hk hlt b0 b1
      have hp := preLaw c h0 h1
      unfold PreLaw at hp
      by_cases g1 : 97 ≤ c
      · by_cases g2 : c ≤ 122
        · rw [if_pos ⟨g1, g2⟩] at hp
          rw [hp]
          clear hp
          go_wp2
          go_ret
          exact ⟨rfl, rfl⟩
        · rw [if_neg (by omega), if_neg (by omega)] at hp
          rw [hp]
          clear hp
          have g3 : ¬ c ≤ 90 := by omega
          have g4 : 65 ≤ c := by omega
          go_wp2
          go_ret
          exact ⟨rfl, rfl⟩
      · by_cases g2 : 65 ≤ c
        · by_cases g3 : c ≤ 90
          · rw [if_neg (by omega), if_pos ⟨g2, g3⟩] at hp
            rw [hp]
            clear hp
            go_wp2
            go_ret
            exact ⟨rfl, rfl⟩
          · rw [if_neg (by omega), if_neg (by omega)] at hp
            rw [hp]
            clear hp
            go_wp2
            go_ret
            exact ⟨rfl, rfl⟩
        · rw [if_neg (by omega), if_neg (by omega)] at hp
          rw [hp]
          clear hp
          go_wp2
          go_ret
          exact ⟨rfl, rfl⟩
end Go.Proofs.Qxb6617271a
