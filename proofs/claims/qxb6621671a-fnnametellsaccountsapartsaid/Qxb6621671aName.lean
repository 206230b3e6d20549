/-
  THE CONTRACTS OF figures.AppendName (8) AND figures.Name (9) over this seat's translation.
-/
import Derived.Test.Qxb6621671aRows
import Derived.WalkKit
import Derived.ProofKit
import Derived.OpenShut
import Derived.ShutString
import Derived.WalkSpells
import Derived.WalkLawsBesides
import Derived.Lib.AppendStr
import Derived.Laws.IdiomStrings
import Derived.Below
namespace Go.Proofs.Qxb6621671a
open Go.RowKit

theorem info5 : (Try.prog.info? 5).map (fun i => (i.zero, i.size, i.bytes)) = some (some (.int .u8 0), 1, 1) := by kernel_rfl

/-- The name, as a list of bytes. -/
def nameL (s y : List UInt8) (b : Bool) : List UInt8 := if b then s ++ 58 :: y else s

/-- AppendName off the lots basis: the buffer, then the schedule. -/
theorem append_off (base : Nat) (v : Value) (n : Nat) (xs : List Value) (s y : ByteArray) (w : World) (hown : w.ownsRow base 5 1 v n xs) (hb : base ≤ w.heap.size)
    (hn : n + s.size ≤ 4294967296) :
    Calls Try.prog 8 #[v, .string s, .string y, .bool false] w fun e w' => ∃ v', e = .returned v' ∧ w'.ownsRow base 5 1 v' (n + s.size) (xs ++ Lib.strCells s) ∧ Below base w w' := by
  obtain ⟨i0, hi, hz0, hz1, hz2⟩ := info_parts info5
  go_enter Try.func8, Try.ntmps8
  go_wp2_with (at_builtin; refine Lib.wpList_append_own_string _ rfl (.tmp 9) (.tmp 10) 22 9 rfl base 5 i0 Try.underlying22 Try.underlying9 hi hz0 hz1 hz2 v n xs rfl hown s rfl (by unfold maxLen; omega) (by omega) hb ?_; intro v1 w1 hown1 hgrow1 _)
  go_ret
  exact ⟨_, rfl, hown1, (Below.refl _ _).grown hgrow1 hb (fun k hk => (hown.lt k hk).1)⟩

/-- AppendName on the lots basis: the buffer, the schedule, a colon, the symbol. -/
theorem append_on (base : Nat) (v : Value) (n : Nat) (xs : List Value) (s y : ByteArray) (w : World) (hown : w.ownsRow base 5 1 v n xs) (hb : base ≤ w.heap.size)
    (hn : n + s.size + 1 + y.size ≤ 4294967296) :
    Calls Try.prog 8 #[v, .string s, .string y, .bool true] w fun e w' => ∃ v', e = .returned v' ∧ w'.ownsRow base 5 1 v' (n + s.size + 1 + y.size) (xs ++ Lib.strCells s ++ [.int .u8 58] ++ Lib.strCells y) ∧ Below base w w' := by
  obtain ⟨i0, hi, hz0, hz1, hz2⟩ := info_parts info5
  go_enter Try.func8, Try.ntmps8
  go_wp2_with (first | (at_builtin; refine Lib.wpList_append_own_string _ rfl (.tmp 9) (.tmp 10) 22 9 rfl base 5 i0 Try.underlying22 Try.underlying9 hi hz0 hz1 hz2 v n xs rfl hown s rfl (by unfold maxLen; omega) (by omega) hb ?_; intro v1 w1 hown1 hgrow1 _) | (at_builtin; refine wpList_append_own _ rfl (.tmp 13) (.tmp 14) 22 rfl base 5 i0 (.int .u8 0) 1 1 Try.underlying22 hi hz0 hz1 hz2 rfl (by decide) v1 (n + s.size) _ rfl (hown1.alloc _) ⟨w1.heap.size, 0, none⟩ 1 1 [.int .u8 58] rfl rfl (cell_one_new _ _ _) (by intro u hu; simp at hu; subst hu; rfl) (by unfold maxLen; omega) (by omega) (by have := hgrow1.size; simp; omega) ?_; intro v2 w2 hown2 hgrow2 _) | (at_builtin; refine Lib.wpList_append_own_string _ rfl (.tmp 15) (.tmp 16) 22 9 rfl base 5 i0 Try.underlying22 Try.underlying9 hi hz0 hz1 hz2 v2 (n + s.size + 1) _ rfl hown2 y rfl (by unfold maxLen; omega) (by omega) (by have := hgrow1.size; have := hgrow2.size; simp at this; omega) ?_; intro v3 w3 hown3 hgrow3 _))
  go_ret
  have s1 := hgrow1.size
  have s2 := hgrow2.size
  have b1 : Below base w w1 := (Below.refl _ _).grown hgrow1 hb (fun k hk => (hown.lt k hk).1)
  have b2 := (b1.alloc (by omega) (Obj.cells #[Value.int IntKind.u8 58] 5)).grown hgrow2 (by simp; omega) (fun k hk => (hown1.lt k hk).1)
  exact ⟨_, rfl, hown3, b2.grown hgrow3 (by simp at s2; omega) (fun k hk => (hown2.lt k hk).1)⟩

/-- 'string(v)' of an owned row of bytes that is not empty. -/
theorem conv_own {w : World} {base : Nat} {v : Value} {n : Nat} {xs : List Value} (l : List UInt8) (hown : w.ownsRow base 5 1 v n xs) (hxs : xs = l.map fun b => Value.int .u8 b.toNat) (hl : 0 < l.length) :
    (convert 22 9 v).run Try.prog w = .ok (.string ⟨l.toArray⟩) w := by
  subst hxs
  have h1 : l.length = n := by simpa using hown.1
  rcases hown.2 with ⟨_, h0⟩ | ⟨g, cap, cur, rfl, _⟩
  · omega
  · subst h1
    refine run_convert_bytes_back w 22 9 5 ⟨g, 0, none⟩ cap l Try.underlying22 Try.underlying5 Try.underlying9 fun j hj => ?_
    exact hown.cells (g := g) rfl j _ (by simp [hj])

theorem strCells_eq (s : ByteArray) : Lib.strCells s = s.data.toList.map fun b => Value.int .u8 b.toNat := rfl

/-- The name. -/
def nameS (s y : ByteArray) (b : Bool) : ByteArray := ⟨(nameL s.data.toList y.data.toList b).toArray⟩

theorem nameS_off (s y : ByteArray) : nameS s y false = s := by simp [nameS, nameL]

/-- Name off the lots basis: the schedule itself. -/
theorem name_off (s y : ByteArray) (w : World) : Calls Try.prog 9 #[.string s, .string y, .bool false] w fun e w' => e = .returned (.string s) ∧ w' = w := by
  go_enter Try.func9, Try.ntmps9
  go_wp2
  go_ret
  exact ⟨rfl, rfl⟩

/-- Name on the lots basis. -/
theorem name_on (s y : ByteArray) (w : World) (hn : s.size + 1 + y.size ≤ 4294967296) :
    Calls Try.prog 9 #[.string s, .string y, .bool true] w fun e w' => e = .returned (.string (nameS s y true)) ∧ Below w.heap.size w w' := by
  go_enter Try.func9, Try.ntmps9
  go_wp2_with (go_at_call 8; refine (append_on w.heap.size (.slice none 0 0) 0 [] s y _ (World.ownsRow_nil _ _ _ _) (Nat.le_refl _) (by omega)).mono ?_; rintro e w1 ⟨v', rfl, hown, hbel⟩; have hcv := conv_own (nameL s.data.toList y.data.toList true) hown (by simp [nameL, strCells_eq]) (by simp [nameL]; omega); clear hown)
  go_ret
  exact ⟨rfl, hbel⟩

/-- Name, either way. -/
theorem name_any (s y : ByteArray) (b : Bool) (w : World) (hn : s.size + 1 + y.size ≤ 4294967296) :
    Calls Try.prog 9 #[.string s, .string y, .bool b] w fun e w' => e = .returned (.string (nameS s y b)) ∧ Below w.heap.size w w' := by
  cases b
  · refine (name_off s y w).mono ?_
    rintro e w' ⟨rfl, rfl⟩
    exact ⟨by rw [nameS_off], Below.refl _ _⟩
  · exact name_on s y w hn
end Go.Proofs.Qxb6621671a
