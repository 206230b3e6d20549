/-
  THE CONTRACTS OF zzHeldBytes (7), zzHeld (8) AND (ReadAnswer).HeldOn (9) over this seat's translation.
-/
import Derived.Test.Qxb6617282aRows
import Derived.WalkKit
import Derived.ProofKit
import Derived.OpenShut
import Derived.WalkSpells
import Derived.WalkLawsBesides
import Derived.Below
import Derived.Outline
namespace Go.Proofs.Qxb6617282a
open Go.RowKit

/-- A held write as the law is handed it. -/
structure ZH where
  txn : ByteArray
  term : Int
  round : Int
  opid : ByteArray
  fin : ByteArray
  defd : Bool
  quor : Int

/-- Its seven cells. -/
def ZH.agg (z : ZH) : Value := .agg #[.string z.txn, .int .u64 z.term, .int .u64 z.round, .string z.opid, .string z.fin, .bool z.defd, .int .i64 z.quor]

/-- The api.Held that zzHeld makes of it: fourteen cells. -/
def ZH.held (z : ZH) : Array Value := #[.string z.txn, .int .u64 z.term, .int .u64 z.round, .string z.opid, .slice none 0 0, .slice none 0 0, .pointer none, .pointer none, .string ByteArray.empty, .pointer none, .slice none 0 0, .string z.fin, .bool z.defd, .int .i64 z.quor]

def BytesPost (w : World) (e : Ending) (w' : World) : Prop := ∃ n : Int, e = .returned (.int .i64 n) ∧ 0 ≤ n ∧ n ≤ 4194304 ∧ Below w.heap.size w w'

/-- zzHeldBytes: some number that is no larger than 2^22. -/
theorem heldBytes (z : ZH) (w : World) (h1 : z.txn.size ≤ maxLen) (h2 : z.opid.size ≤ maxLen) (h3 : z.fin.size ≤ maxLen) :
    Calls Try.prog 7 #[z.agg] w fun e w' => BytesPost w e w' := by
  obtain ⟨txn, term, round, opid, fin, defd, quor⟩ := z
  unfold ZH.agg
  unfold maxLen at h1 h2 h3
  dsimp only at h1 h2 h3 ⊢
  go_enter Try.func7, Try.ntmps7
  go_wp2
  all_goals (go_ret; exact ⟨_, rfl, by omega, by omega, (Below.refl _ _).alloc (Nat.le_refl _) _⟩)

/-- zzHeld. -/
theorem held8 (z : ZH) (w : World) : Calls Try.prog 8 #[z.agg] w fun e w' => e = .returned (.agg z.held) ∧ Below w.heap.size w w' := by
  obtain ⟨txn, term, round, opid, fin, defd, quor⟩ := z
  unfold ZH.agg ZH.held
  dsimp only
  go_enter Try.func8, Try.ntmps8
  go_wp2
  exact bodyPost_ret (v := .agg #[.string txn, .int .u64 term, .int .u64 round, .string opid, .slice none 0 0, .slice none 0 0, .pointer none, .pointer none, .string ByteArray.empty, .pointer none, .slice none 0 0, .string fin, .bool defd, .int .i64 quor]) (by simp [results, Try.results8, go_sem]; rfl) rfl ⟨rfl, ((Below.refl _ _).alloc (Nat.le_refl _) _).alloc (by simp) _⟩

/-! ### HeldOn -/
/-- The first index among lo, lo + 1, .. (n of them) at which the version is q. -/
def find (vs : List Int) (q : Int) : Nat → Nat → Option Nat
  | _, 0 => none
  | lo, n + 1 => if vs.getD lo 0 = q then some lo else find vs q (lo + 1) n

theorem find_none (vs : List Int) (q : Int) : ∀ (n lo : Nat), (∀ j, j < n → ¬ vs.getD (lo + j) 0 = q) → find vs q lo n = none
  | 0, _, _ => rfl
  | n + 1, lo, h => by
    unfold find
    rw [if_neg (by simpa using h 0 (by omega))]
    exact find_none vs q n (lo + 1) (fun j hj => by have := h (j + 1) (by omega); rwa [show lo + (j + 1) = lo + 1 + j by omega] at this)

theorem find_at (vs : List Int) (q : Int) : ∀ (k n lo : Nat), k < n → (∀ j, j < k → ¬ vs.getD (lo + j) 0 = q) → vs.getD (lo + k) 0 = q → find vs q lo n = some (lo + k)
  | _, 0, _, h, _, _ => absurd h (by omega)
  | 0, n + 1, lo, _, _, e => by
    unfold find
    rw [if_pos (by simpa using e)]
    rfl
  | k + 1, n + 1, lo, h, hne, e => by
    unfold find
    rw [if_neg (by simpa using hne 0 (by omega)), find_at vs q k n (lo + 1) (by omega) (fun j hj => by have := hne (j + 1) (by omega); rwa [show lo + (j + 1) = lo + 1 + j by omega] at this) (by rwa [show lo + 1 + k = lo + (k + 1) by omega])]
    congr 1
    omega

/-- The answer that HeldOn is asked of: seven cells. -/
def answer (V : Int) (hp : Option Addr) (a : Option Addr) (n c : Nat) : Value := .agg #[.int .u64 V, .slice none 0 0, .pointer none, .pointer hp, .slice a n c, .pointer none, .bool false]

/-- HeldOn at the answer's own version. -/
theorem heldOn_own (V : Int) (hp : Option Addr) (a : Option Addr) (n c : Nat) (w : World) :
    Calls Try.prog 9 #[answer V hp a n c, .int .u64 V] w fun e w' => e = .returned (.pointer hp) ∧ Below w.heap.size w w' := by
  unfold answer
  go_enter Try.func9, Try.ntmps9
  go_wp2
  go_ret
  exact ⟨rfl, (Below.refl _ _).alloc (Nat.le_refl _) _⟩

/-- HeldOn at another version, over no Kept. -/
theorem heldOn_nil (V q : Int) (hV : ¬ V = q) (hp : Option Addr) (a : Option Addr) (c : Nat) (w : World) :
    Calls Try.prog 9 #[answer V hp a 0 c, .int .u64 q] w fun e w' => e = .returned (.pointer none) ∧ Below w.heap.size w w' := by
  have hb : (V == q) = false := beq_eq_false_iff_ne.2 hV
  clear hV
  unfold answer
  go_enter Try.func9, Try.ntmps9
  go_wp2
  refine wp_loop_rounds 1 ?_
  rw [rounds_succ]
  go_wp2
  go_ret
  exact ⟨rfl, (Below.refl _ _).alloc (Nat.le_refl _) _⟩

/-- HeldOn at another version, over a Kept. -/
theorem heldOn_some (V q : Int) (hV : ¬ V = q) (hp : Option Addr) (g off lo n c : Nat) (vs : List Int) (w : World) (hn : n ≤ 1048576) (hoff : off = lo * 15)
    (hc : ∀ i, i < n → w.cell? ⟨g, off + i * 15, none⟩ = some (.int .u64 (vs.getD (lo + i) 0))) :
    Calls Try.prog 9 #[answer V hp (some ⟨g, off, none⟩) n c, .int .u64 q] w fun e w' => e = .returned (.pointer ((find vs q lo n).map fun i => ⟨g, i * 15 + 1, none⟩)) ∧ Below w.heap.size w w' := by
  have hb : (V == q) = false := beq_eq_false_iff_ne.2 hV
  have HC : Hid (∀ i, i < n → w.cell? ⟨g, off + i * 15, none⟩ = some (.int .u64 (vs.getD (lo + i) 0))) := hc
  have HO : Hid (off = lo * 15) := hoff
  clear hV hc hoff
  unfold answer
  go_enter Try.func9, Try.ntmps9
  go_wp2
  go_loop [15] (fun i => ∃ k : Nat, k ≤ n ∧ i = .int .i64 k ∧ ∀ j, j < k → ¬ vs.getD (lo + j) 0 = q) (fun i => n - (intOf i).toNat)
  case atStart => exact ⟨0, Nat.zero_le _, rfl, fun j h => absurd h (by omega)⟩
  case round =>
    obtain ⟨k, hk, rfl, hne⟩ := hrel
    have HN : Hid (∀ j, j < k → ¬ vs.getD (lo + j) 0 = q) := hne
    clear hne
    by_cases hlt : k < n
    · obtain ⟨x, hx⟩ : ∃ x, x = vs.getD (lo + k) 0 := ⟨_, rfl⟩
      have hck : w.cell? ⟨g, off + k * 15, none⟩ = some (.int .u64 x) := by rw [hx]; exact HC.out k hlt
      have hg : g < w.heap.size := World.block_lt_of_cell? w _ hck
      have HX : Hid (x = vs.getD (lo + k) 0) := hx
      clear hx
      have d0 : (0 : Int) ≤ (k : Int) := by omega
      have d1 : (k : Int) < (n : Int) := by omega
      by_cases hxq : x = q
      · subst hxq
        go_wp2
        go_ret
        refine ⟨?_, (Below.refl _ _).alloc (Nat.le_refl _) _⟩
        rw [find_at vs x k n lo hlt HN.out HX.out.symm]
        have e : (lo + k) * 15 + 1 = off + k * 15 + 1 := by rw [HO.out]; omega
        show Ending.returned (Value.pointer (some ⟨g, off + k * 15 + 1, none⟩)) = Ending.returned (Value.pointer (some ⟨g, (lo + k) * 15 + 1, none⟩))
        rw [e]
      · have hxb : (x == q) = false := beq_eq_false_iff_ne.2 hxq
        go_wp2
        go_round
        case rel =>
          refine ⟨k + 1, by omega, by go_num, fun j hj => ?_⟩
          by_cases e : j = k
          · subst e; rw [← HX.out]; exact hxq
          · exact HN.out j (by omega)
        case measure => simp [intOf]; omega
    · go_wp2
      go_ret
      refine ⟨?_, (Below.refl _ _).alloc (Nat.le_refl _) _⟩
      rw [find_none vs q n lo (fun j hj => HN.out j (by omega))]
      rfl
end Go.Proofs.Qxb6617282a
