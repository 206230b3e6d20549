/-
  WHAT THE WALK IS TOLD OF THE TWO ARGUMENTS THAT LEAD TO MEMORY; THE CONTRACT OF zzBytes_FnHeldOnSplitsAtAnyCut (6).
-/
import Derived.Test.Qxb6617282aHeld
namespace Go.Proofs.Qxb6617282a
open Go.RowKit

def ZH.ok (z : ZH) : Prop := z.txn.size ≤ maxLen ∧ z.opid.size ≤ maxLen ∧ z.fin.size ≤ maxLen

/-- The seven cells lie in block b from offset o on. -/
def At7 (w : World) (b o : Nat) (z : ZH) : Prop :=
  w.cell? ⟨b, o, none⟩ = some (.string z.txn) ∧ w.cell? ⟨b, o + 1, none⟩ = some (.int .u64 z.term) ∧ w.cell? ⟨b, o + 2, none⟩ = some (.int .u64 z.round) ∧ w.cell? ⟨b, o + 3, none⟩ = some (.string z.opid) ∧
  w.cell? ⟨b, o + 4, none⟩ = some (.string z.fin) ∧ w.cell? ⟨b, o + 5, none⟩ = some (.bool z.defd) ∧ w.cell? ⟨b, o + 6, none⟩ = some (.int .i64 z.quor)

theorem At7.below {B : Nat} {w w' : World} {b o : Nat} {z : ZH} (h : At7 w b o z) (hb : Below B w w') (hB : w.heap.size ≤ B) : At7 w' b o z := by
  have hl : b < B := Nat.lt_of_lt_of_le (World.block_lt_of_cell? w _ h.1) hB
  exact ⟨(hb.cell (by exact hl)).trans h.1, (hb.cell (by exact hl)).trans h.2.1, (hb.cell (by exact hl)).trans h.2.2.1, (hb.cell (by exact hl)).trans h.2.2.2.1, (hb.cell (by exact hl)).trans h.2.2.2.2.1, (hb.cell (by exact hl)).trans h.2.2.2.2.2.1, (hb.cell (by exact hl)).trans h.2.2.2.2.2.2⟩

/-- The pointer: nil, or it leads to a held write. -/
def HeldArg (w : World) (p : Option Addr) : Prop := p = none ∨ ∃ b o z, p = some ⟨b, o, none⟩ ∧ ZH.ok z ∧ At7 w b o z

/-- The elements of the slice: each version, and the seven cells behind it. -/
def KeptAt (w : World) (kb ko len : Nat) (vs : List Int) (Z : Nat → ZH) : Prop :=
  ∀ i, i < len → w.cell? ⟨kb, ko + i * 8, none⟩ = some (.int .u64 (vs.getD i 0)) ∧ ZH.ok (Z i) ∧ At7 w kb (ko + i * 8 + 1) (Z i)

def BoolPost (len : Nat) (w : World) (e : Ending) (w' : World) : Prop := ∃ r : Bool, e = .returned (.bool r) ∧ w = w' ∧ (r = true → len ≤ 1048576)

/- zzBytes, over a slice with elements; the pointer nil. -/
set_option maxRecDepth 100000 in
theorem bytes6_nil (V : Int) (a : Option Addr) (kb ko len cap : Nat) (vs : List Int) (Z : Nat → ZH) (cut q : Int) (w : World) (hl : len ≤ maxLen) (ha : 0 < len → a = some ⟨kb, ko, none⟩) (hk : KeptAt w kb ko len vs Z) :
    Calls Try.prog 6 #[.int .u64 V, .pointer none, .slice a len cap, .int .i64 cut, .int .u64 q] w fun e w' => BoolPost len w e w' := by
  unfold maxLen at hl
  by_cases c1 : (1048576 : Int) < len
  · go_enter Try.func6, Try.ntmps6
    go_wp2
    go_ret
    exact ⟨false, rfl, rfl, fun h => by cases h⟩
  · go_enter Try.func6, Try.ntmps6
    go_wp2
    go_loop [11, 12] (fun z i => ∃ (k : Nat) (n : Int), k ≤ len ∧ i = .int .i64 k ∧ z = .int .i64 n ∧ 0 ≤ n ∧ n ≤ 1048576) (fun _ i => len - (intOf i).toNat)
    case atStart => exact ⟨0, _, Nat.zero_le _, rfl, rfl, by omega, by omega⟩
    case round =>
      obtain ⟨k, n, hkl, rfl, rfl, hn0, hn1⟩ := hrel
      by_cases hlt : k < len
      · have ea := ha (by omega)
        subst ea
        obtain ⟨_, ⟨k1, k2, k3⟩, c0, _, _, c3, c4, _, _⟩ := hk k hlt
        unfold maxLen at k1 k2 k3
        generalize (Z k).txn = txn at k1 c0
        generalize (Z k).opid = opid at k2 c3
        generalize (Z k).fin = fin at k3 c4
        have d0 : (0 : Int) ≤ (k : Int) := by omega
        have d1 : (k : Int) < (len : Int) := by omega
        go_wp2
        all_goals first
          | (go_ret; exact ⟨_, rfl, rfl, fun _ => by omega⟩)
          | skip
        go_round
        case rel => exact ⟨k + 1, _, by omega, by go_num, rfl, by omega, by omega⟩
        case measure => simp [intOf]; omega
      · go_wp2
        go_ret
        exact ⟨_, rfl, rfl, fun _ => by omega⟩

/- zzBytes, over a slice with elements; the pointer not nil. -/
set_option maxRecDepth 100000 in
theorem bytes6_some (V : Int) (hb ho : Nat) (z : ZH) (a : Option Addr) (kb ko len cap : Nat) (vs : List Int) (Z : Nat → ZH) (cut q : Int) (w : World) (hl : len ≤ maxLen) (ha : 0 < len → a = some ⟨kb, ko, none⟩) (hz : ZH.ok z) (hA : At7 w hb ho z) (hk : KeptAt w kb ko len vs Z) :
    Calls Try.prog 6 #[.int .u64 V, .pointer (some ⟨hb, ho, none⟩), .slice a len cap, .int .i64 cut, .int .u64 q] w fun e w' => BoolPost len w e w' := by
  obtain ⟨z1, z2, z3⟩ := hz
  obtain ⟨e0, _, _, e3, e4, _, _⟩ := hA
  unfold maxLen at hl z1 z2 z3
  generalize z.txn = ztxn at *
  generalize z.opid = zopid at *
  generalize z.fin = zfin at *
  by_cases c1 : (1048576 : Int) < len
  · go_enter Try.func6, Try.ntmps6
    go_wp2
    all_goals (go_ret; exact ⟨false, rfl, rfl, fun h => by cases h⟩)
  · go_enter Try.func6, Try.ntmps6
    go_wp2
    all_goals first
      | (go_ret; exact ⟨_, rfl, rfl, fun _ => by omega⟩)
      | skip
    go_loop [11, 12] (fun z i => ∃ (k : Nat) (n : Int), k ≤ len ∧ i = .int .i64 k ∧ z = .int .i64 n ∧ 0 ≤ n ∧ n ≤ 1048576) (fun _ i => len - (intOf i).toNat)
    case atStart => exact ⟨0, _, Nat.zero_le _, rfl, rfl, by omega, by omega⟩
    case round =>
      obtain ⟨k, n, hkl, rfl, rfl, hn0, hn1⟩ := hrel
      by_cases hlt : k < len
      · have ea := ha (by omega)
        subst ea
        obtain ⟨_, ⟨k1, k2, k3⟩, c0, _, _, c3, c4, _, _⟩ := hk k hlt
        unfold maxLen at k1 k2 k3
        generalize (Z k).txn = txn at k1 c0
        generalize (Z k).opid = opid at k2 c3
        generalize (Z k).fin = fin at k3 c4
        have d0 : (0 : Int) ≤ (k : Int) := by omega
        have d1 : (k : Int) < (len : Int) := by omega
        go_wp2
        all_goals first
          | (go_ret; exact ⟨_, rfl, rfl, fun _ => by omega⟩)
          | skip
        go_round
        case rel => exact ⟨k + 1, _, by omega, by go_num, rfl, by omega, by omega⟩
        case measure => simp [intOf]; omega
      · go_wp2
        go_ret
        exact ⟨_, rfl, rfl, fun _ => by omega⟩

end Go.Proofs.Qxb6617282a
