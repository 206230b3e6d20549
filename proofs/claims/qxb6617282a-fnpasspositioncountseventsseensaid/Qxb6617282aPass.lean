/-
  THE CONTRACT OF (*Position).Pass (11), and of the two zzBytes of the Pass laws (10, 12).
-/
import Derived.Test.Qxb6617282aRows
import Derived.WalkKit
import Derived.ProofKit
import Derived.OpenShut
import Derived.WalkSpells
import Derived.WalkLawsBesides
import Derived.Below
import Derived.Outline
namespace Go.Proofs.Qxb6617282a
open Go.RowKit

/-- The position that lies in block b. -/
def Pos (w : World) (b : Nat) (A S : Int) : Prop :=
  w.cell? ⟨b, 0, none⟩ = some (.int .u64 A) ∧ w.cell? ⟨b, 1, none⟩ = some (.int .i64 S) ∧ w.frozen? ⟨b, 0, none⟩ = false ∧ w.frozen? ⟨b, 1, none⟩ = false

/-- One more, one less, as a uint64. -/
def up (A : Int) : Int := IntKind.u64.wrap (A + 1)
def down (v : Int) : Int := IntKind.u64.wrap (v - 1)

/-- What Pass does to the two fields. -/
def passA (A v : Int) : Int := if v = up A then A else down v
def passS (A S v : Int) : Int := if v = up A then wrap64 (S + 1) else 1

theorem pass_any (b : Nat) (A S v : Int) (w : World) (hp : Pos w b A S) :
    Calls Try.prog 11 #[.pointer (some ⟨b, 0, none⟩), .int .u64 v] w fun e w' => e = .returned (.tuple #[]) ∧ Pos w' b (passA A v) (passS A S v) ∧ Below b w w' := by
  obtain ⟨hA, hS, fA, fS⟩ := hp
  by_cases h : v = up A
  · have e1 : passA A v = A := if_pos h
    have e2 : passS A S v = wrap64 (S + 1) := if_pos h
    have hB : (v == IntKind.u64.wrap (A + 1)) = true := by rw [h]; exact beq_self_eq_true _
    have H : Hid (Pos (w.setCell ⟨b, 1, none⟩ (.int .i64 (wrap64 (S + 1)))) b (passA A v) (passS A S v)) := by
      rw [e1, e2]
      exact ⟨(World.cell?_setCell_other _ _ _ _ (by simp)).trans hA, World.cell?_setCell_same _ _ _ hS, by simpa using fA, by simpa using fS⟩
    clear h e1 e2
    go_enter Try.func11, Try.ntmps11
    go_wp2
    refine bodyPost_ret (results_none rfl _ _ _) rfl ?_
    exact ⟨rfl, H.out, (Below.refl b w).setCell (p := ⟨b, 1, none⟩) (Nat.le_refl _) _⟩
  · have e1 : passA A v = down v := if_neg h
    have e2 : passS A S v = 1 := if_neg h
    have hB : (v == IntKind.u64.wrap (A + 1)) = false := beq_eq_false_iff_ne.2 h
    have H : Hid (Pos ((w.setCell ⟨b, 0, none⟩ (.int .u64 (IntKind.u64.wrap (v - 1)))).setCell ⟨b, 1, none⟩ (.int .i64 1)) b (passA A v) (passS A S v)) := by
      rw [e1, e2]
      exact ⟨(World.cell?_setCell_other _ _ _ _ (by simp)).trans (World.cell?_setCell_same _ _ _ hA), World.cell?_setCell_same _ _ _ ((World.cell?_setCell_other _ _ _ _ (by simp)).trans hS), by simpa using fA, by simpa using fS⟩
    clear h e1 e2
    go_enter Try.func11, Try.ntmps11
    go_wp2
    go_end0
    exact ⟨rfl, H.out, ((Below.refl b w).setCell (p := ⟨b, 0, none⟩) (Nat.le_refl _) _).setCell (p := ⟨b, 1, none⟩) (Nat.le_refl _) _⟩

/-- zzBytes_FnPassScriptEndsOnLastRun answers some bool. -/
theorem bytes10 (A S : Int) (a : Option Addr) (len cap : Nat) (w : World) (hl : len ≤ maxLen) :
    Calls Try.prog 10 #[.int .u64 A, .int .i64 S, .slice a len cap] w fun e w' => ∃ r : Bool, e = .returned (.bool r) ∧ w = w' := by
  unfold maxLen at hl
  go_enter Try.func10, Try.ntmps10
  go_wp2
  all_goals (go_ret; exact ⟨_, rfl, rfl⟩)

/-- zzBytes_FnPassPositionCountsEventsSeen answers some bool. -/
theorem bytes12 (a : Option Addr) (len cap : Nat) (m : Int) (w : World) (hl : len ≤ maxLen) :
    Calls Try.prog 12 #[.slice a len cap, .int .i64 m] w fun e w' => ∃ r : Bool, e = .returned (.bool r) ∧ w = w' := by
  unfold maxLen at hl
  go_enter Try.func12, Try.ntmps12
  go_wp2
  all_goals (go_ret; exact ⟨_, rfl, rfl⟩)
end Go.Proofs.Qxb6617282a
