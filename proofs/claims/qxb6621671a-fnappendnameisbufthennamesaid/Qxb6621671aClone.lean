/-
  THE CONTRACT OF zzCloneBytesB1 (7): a fresh copy.
-/
import Derived.Test.Qxb6621671aName
import Derived.Lib.SliceRun
import Derived.Outline
namespace Go.Proofs.Qxb6621671a
open Go.RowKit

/-- A slice of bytes that can be read: nil, or 'len' bytes behind an address. -/
def Row8 (w : World) (v : Value) (len : Nat) (zs : List Int) : Prop :=
  (v = .slice none 0 0 ∧ len = 0 ∧ zs = []) ∨ ∃ x cap, v = .slice (some x) len cap ∧ zs.length = len ∧ ∀ i, i < len → w.cell? (x.add i) = some (.int .u8 (zs.getD i 0))

/-- What the copy holds behind k rounds. -/
def part (zs : List Int) (len k : Nat) : List Value := (zs.take k).map (Value.int .u8) ++ List.replicate (len - k) (.int .u8 0)

theorem part_length (zs : List Int) (len k : Nat) (h : zs.length = len) (hk : k ≤ len) : (part zs len k).length = len := by
  simp [part]; omega

theorem part_step (zs : List Int) (len k : Nat) (h : zs.length = len) (hk : k < len) : (part zs len k).set k (.int .u8 (zs.getD k 0)) = part zs len (k + 1) := by
  obtain ⟨r, hr⟩ : ∃ r, len - k = r + 1 := ⟨len - k - 1, by omega⟩
  have hr' : len - (k + 1) = r := by omega
  have hkl : k < zs.length := by omega
  unfold part
  rw [hr, hr', List.replicate_succ, List.set_append_right _ _ (by simp; omega)]
  simp only [List.length_map, List.length_take, Nat.min_eq_left (Nat.le_of_lt hkl), Nat.sub_self, List.set_cons_zero]
  have e : zs.getD k 0 = zs[k] := by simp [hkl]
  rw [List.take_succ_eq_append_getElem hkl, e]
  simp only [List.map_append, List.map_cons, List.map_nil, List.append_assoc, List.cons_append, List.nil_append]

theorem part_full (zs : List Int) (len : Nat) (h : zs.length = len) : part zs len len = zs.map (Value.int .u8) := by
  simp [part, ← h]

theorem clone_nil (w : World) : Calls Try.prog 7 #[.slice none 0 0] w fun e w' => e = .returned (.slice none 0 0) ∧ w = w' := by
  have q22 : ∀ (w : World) (a : Option Addr) (n c n' c' : Nat), (binOp .eql 22 (.slice a n c) (.slice none n' c')).run Try.prog w = .ok (.bool a.isNone) w := fun w a n c n' c' => Lib.run_eql_slice_nil w _ _ a n c n' c' Try.underlying22
  go_enter Try.func7, Try.ntmps7
  go_wp2
  go_ret
  exact ⟨rfl, rfl⟩

theorem clone_some (x : Addr) (len cap : Nat) (zs : List Int) (w : World) (hz : zs.length = len) (hl : len ≤ 4294967296) (hc : ∀ i, i < len → w.cell? (x.add i) = some (.int .u8 (zs.getD i 0))) :
    Calls Try.prog 7 #[.slice (some x) len cap] w fun e w' => ∃ v', e = .returned v' ∧ w'.ownsRow w.heap.size 5 1 v' len (zs.map (Value.int .u8)) ∧ Below w.heap.size w w' := by
  obtain ⟨i0, hi, hz0, hz1, hz2⟩ := info_parts info5
  have q22 : ∀ (w : World) (a : Option Addr) (n c n' c' : Nat), (binOp .eql 22 (.slice a n c) (.slice none n' c')).run Try.prog w = .ok (.bool a.isNone) w := fun w a n c n' c' => Lib.run_eql_slice_nil w _ _ a n c n' c' Try.underlying22
  go_enter Try.func7, Try.ntmps7
  go_wp2_with (at_make; refine wpList_make_full _ rfl _ _ 22 rfl w.heap.size 5 i0 (.int .u8 0) 1 Try.underlying22 hi hz0 hz1 _ _ _ _ len rfl rfl rfl rfl (by rw [hz2]; omega) (by unfold maxLen; omega) (Nat.le_refl _) ?_; intro w1 hown1 hgrow1)
  have hown : w1.ownsRow w.heap.size 5 1 (.slice (some ⟨w.heap.size, 0, none⟩) len len) len (part zs len 0) := by
    have e : (madeCells (Value.int IntKind.u8 0).cells (len * 1)).toList = part zs len 0 := by
      rw [Nat.mul_one]
      show (madeCells #[Value.int IntKind.u8 0] len).toList = _
      rw [toList_madeCells_one]
      simp [part]
    rw [← e]
    exact hown1
  have hbel : Below w.heap.size w w1 := (Below.refl _ _).grown hgrow1 (Nat.le_refl _) (fun k hk => by cases hk)
  clear hown1 hgrow1 q22 hi hz0 hz1 hz2
  go_loopw [4] (fun i wr => ∃ k : Nat, k ≤ len ∧ i = .int .i64 k ∧ wr.ownsRow w.heap.size 5 1 (.slice (some ⟨w.heap.size, 0, none⟩) len len) len (part zs len k) ∧ Below w.heap.size w wr) (fun i _ => len - (intOf i).toNat)
  case atStart => exact ⟨0, Nat.zero_le _, rfl, hown, hbel⟩
  case round =>
    obtain ⟨k, hk, rfl, hr, hb⟩ := hrel
    clear hown hbel
    by_cases hlt : k < len
    · obtain ⟨b, off, spot⟩ := x
      have hspot : spot = none := by simpa [Addr.add] using World.cell?_spot (hc 0 (by omega))
      subst hspot
      have hc0 : w.cell? ⟨b, off + k, none⟩ = some (.int .u8 (zs.getD k 0)) := by rw [← WideShapes.add_plain]; exact hc k hlt
      have hbB : b < w.heap.size := World.block_lt_of_cell? w _ hc0
      have hcx : wr.cell? ⟨b, off + k, none⟩ = some (.int .u8 (zs.getD k 0)) := (hb.cell (by exact hbB)).trans hc0
      obtain ⟨u, hu⟩ : ∃ u, wr.cell? ⟨w.heap.size, k, none⟩ = some u := by
        rw [hr.cellAt k (by omega)]
        exact ⟨_, List.getElem?_eq_getElem (by rw [part_length zs len k hz hk]; omega)⟩
      have hfz := hr.frozenAt k
      have hst := hr.stored k (.int .u8 (zs.getD k 0))
      rw [part_step zs len k hz hlt] at hst
      have hB2 : Below w.heap.size w (wr.setCell ⟨w.heap.size, k, none⟩ (.int .u8 (zs.getD k 0))) := hb.setCell (Nat.le_refl _) _
      have HS := hst.1
      have H1 : Hid ((wr.setCell ⟨w.heap.size, k, none⟩ (.int .u8 (zs.getD k 0))).ownsRow w.heap.size 5 1 (.slice (some ⟨w.heap.size, 0, none⟩) len len) len (part zs len (k + 1))) := HS
      have H2 : Hid (Below w.heap.size w (wr.setCell ⟨w.heap.size, k, none⟩ (.int .u8 (zs.getD k 0)))) := hB2
      have hkz : k < zs.length := by omega
      clear HS hst hB2 hc hc0 hr hb
      go_wp2
      go_roundw
      case rel => exact ⟨k + 1, by omega, by go_num, by simpa [hkz] using H1.out, by simpa [hkz] using H2.out⟩
      case measure => simp [intOf]; omega
    · go_wp2
      go_ret
      have e : k = len := by omega
      subst e
      rw [part_full zs k hz] at hr
      exact ⟨_, rfl, hr, hb⟩

/-- zzCloneBytesB1, whatever slice it is handed. -/
theorem clone_any (v : Value) (len : Nat) (zs : List Int) (w : World) (hl : len ≤ 4294967296) (h : Row8 w v len zs) :
    Calls Try.prog 7 #[v] w fun e w' => ∃ v', e = .returned v' ∧ w'.ownsRow w.heap.size 5 1 v' len (zs.map (Value.int .u8)) ∧ Below w.heap.size w w' := by
  rcases h with ⟨rfl, rfl, rfl⟩ | ⟨x, cap, rfl, hz, hc⟩
  · refine (clone_nil w).mono ?_
    rintro e w' ⟨rfl, rfl⟩
    exact ⟨_, rfl, World.ownsRow_nil _ _ _ _, Below.refl _ _⟩
  · exact clone_some x len cap zs w hz hl hc

theorem row8_of_own {w : World} {base : Nat} {v : Value} {len : Nat} {zs : List Int} (h : w.ownsRow base 5 1 v len (zs.map (Value.int .u8))) : Row8 w v len zs := by
  have hz : zs.length = len := by simpa using h.1
  rcases h.2 with ⟨rfl, h0⟩ | ⟨g, cap, cur, rfl, _⟩
  · subst h0
    exact .inl ⟨rfl, rfl, List.length_eq_zero_iff.1 hz⟩
  · exact .inr ⟨⟨g, 0, none⟩, cap, rfl, hz, fun i hi => h.cells (g := g) rfl i _ (by simp [hz, hi])⟩

theorem Row8.below {B : Nat} {w w' : World} {v : Value} {len : Nat} {zs : List Int} (h : Row8 w v len zs) (hb : Below B w w') (hB : w.heap.size ≤ B) : Row8 w' v len zs := by
  rcases h with h | ⟨x, cap, hv, hz, hc⟩
  · exact .inl h
  · exact .inr ⟨x, cap, hv, hz, fun i hi => (hb.cell (Nat.lt_of_lt_of_le (World.block_lt_of_cell? w _ (hc i hi)) hB)).trans (hc i hi)⟩
end Go.Proofs.Qxb6621671a
