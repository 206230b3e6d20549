import Derived.Test.Qxb6621671aName
import Derived.Deep.RegionWith
import Derived.Deep.RegionHeld3
import Derived.Outline
namespace Go.Proofs.Qxb6621671a
open Go.RowKit

/-- zzBytes_FnNameCutsAtAnyPlace answers some bool. -/
theorem bytes10 (s y : ByteArray) (b : Bool) (i j : Int) (w : World) (hs : s.size ≤ maxLen) (hy : y.size ≤ maxLen) :
    Calls Try.prog 10 #[.string s, .string y, .bool b, .int .i64 i, .int .i64 j] w fun e w' => ∃ r : Bool, e = .returned (.bool r) ∧ w = w' := by
  unfold maxLen at hs hy
  go_enter Try.func10, Try.ntmps10
  go_wp2
  all_goals (go_ret; exact ⟨_, rfl, rfl⟩)

theorem nameS_size (s y : ByteArray) : (nameS s y true).size = s.size + (1 + y.size) := by
  unfold nameS nameL ByteArray.size
  simp
  omega

theorem nameS_size_cut (s y : ByteArray) (i : Nat) : (nameS (s.extract i s.size) y true).size = s.size - i + (1 + y.size) := by
  rw [nameS_size]
  simp

theorem cat_front (s y : ByteArray) (i : Nat) : s.extract 0 i ++ nameS (s.extract i s.size) y true = nameS s y true := by
  apply ByteArray.ext
  apply Array.ext'
  unfold nameS nameL
  have e : s.data.toList.drop i = (s.data.toList.drop i).take (s.size - i) := (List.take_of_length_le (by rw [List.length_drop, Array.length_toList]; exact Nat.le_refl _)).symm
  simp only [ByteArray.data_append, ByteArray.data_extract]
  simp only [Array.toList_append, Array.toList_extract, if_true, List.extract_eq_take_drop, Nat.sub_zero, List.drop_zero]
  rw [← e, ← List.append_assoc, List.take_append_drop]

theorem cat_back (s y : ByteArray) (j : Nat) : nameS s (y.extract 0 j) true ++ y.extract j y.size = nameS s y true := by
  apply ByteArray.ext
  apply Array.ext'
  unfold nameS nameL
  have e : y.data.toList.drop j = (y.data.toList.drop j).take (y.size - j) := (List.take_of_length_le (by rw [List.length_drop, Array.length_toList]; exact Nat.le_refl _)).symm
  simp only [ByteArray.data_append, ByteArray.data_extract]
  simp only [Array.toList_append, Array.toList_extract, if_true, List.extract_eq_take_drop, Nat.sub_zero, List.drop_zero]
  rw [← e, List.append_assoc, List.cons_append, List.take_append_drop]

theorem nameS_size_pre (s y : ByteArray) (j : Nat) (hj : j ≤ y.size) : (nameS s (y.extract 0 j) true).size = s.size + (1 + j) := by
  rw [nameS_size]
  simp
  omega

theorem cuts_on (s y : ByteArray) (i j : Nat) (hs : s.size ≤ 262144) (hy : y.size ≤ 262144) (hi : i ≤ s.size) (hj : j ≤ y.size) (w : World) :
    Calls Try.prog 4 #[.string s, .string y, .bool true, .int .i64 i, .int .i64 j] w fun e w' => e = .returned (.bool true) ∧ Below w.heap.size w w' := by
  have hi0 : (0 : Int) ≤ (i : Int) := by omega
  have hj0 : (0 : Int) ≤ (j : Int) := by omega
  have hi1 : (i : Int) ≤ (s.size : Int) := by omega
  have hj1 : (j : Int) ≤ (y.size : Int) := by omega
  have hsz := nameS_size s y
  have hsz2 := nameS_size_cut s y i
  have hcat := cat_front s y i
  have hsz3 := nameS_size_pre s y j hj
  have hcat2 := cat_back s y j
  go_enter Try.func4, Try.ntmps4
  go_wp2_with (go_at_call 10; refine (bytes10 _ _ _ _ _ _ (by unfold maxLen; omega) (by unfold maxLen; omega)).mono ?_; rintro e w' ⟨r, rfl, rfl⟩)
  · go_ret
    exact ⟨rfl, Below.refl _ _⟩
  · refine (name_any _ _ _ _ (by omega)).mono ?_
    rintro e w1 ⟨rfl, hb1⟩
    go_wp2_with fail
    have s1 := hb1.size
    go_region_with (go_at_call 9; refine (name_any _ _ _ _ (by simp; omega)).mono ?_; rintro e w2 ⟨rfl, hb2⟩)
    go_wp2_with fail
    refine (name_any _ _ _ _ (by simp; omega)).mono ?_
    rintro e w3 ⟨rfl, hb3⟩
    go_wp2
    go_ret
    have s2 : w1.heap.size ≤ w2.heap.size := hb2.size
    exact ⟨rfl, (hb1.drew.trans (hb2.mono s1)).trans (hb3.mono (by omega))⟩

theorem cat_whole (s : ByteArray) (i : Nat) : s.extract 0 i ++ s.extract i s.size = s := by
  apply ByteArray.ext
  apply Array.ext'
  have e : s.data.toList.drop i = (s.data.toList.drop i).take (s.size - i) := (List.take_of_length_le (by rw [List.length_drop, Array.length_toList]; exact Nat.le_refl _)).symm
  simp only [ByteArray.data_append, ByteArray.data_extract]
  simp only [Array.toList_append, Array.toList_extract, List.extract_eq_take_drop, Nat.sub_zero, List.drop_zero]
  rw [← e, List.take_append_drop]

theorem cuts_off (s y : ByteArray) (i j : Nat) (hs : s.size ≤ 262144) (hy : y.size ≤ 262144) (hi : i ≤ s.size) (hj : j ≤ y.size) (w : World) :
    Calls Try.prog 4 #[.string s, .string y, .bool false, .int .i64 i, .int .i64 j] w fun e w' => e = .returned (.bool true) ∧ Below w.heap.size w w' := by
  have hi0 : (0 : Int) ≤ (i : Int) := by omega
  have hj0 : (0 : Int) ≤ (j : Int) := by omega
  have hi1 : (i : Int) ≤ (s.size : Int) := by omega
  have hj1 : (j : Int) ≤ (y.size : Int) := by omega
  have hcat := cat_whole s i
  go_enter Try.func4, Try.ntmps4
  go_wp2_with (go_at_call 10; refine (bytes10 _ _ _ _ _ _ (by unfold maxLen; omega) (by unfold maxLen; omega)).mono ?_; rintro e w' ⟨r, rfl, rfl⟩)
  · go_ret
    exact ⟨rfl, Below.refl _ _⟩
  · refine (name_off _ _ _).mono ?_
    rintro e w1 ⟨rfl, rfl⟩
    go_wp2_with fail
    go_region_with (go_at_call 9; refine (name_off _ _ _).mono ?_; rintro e w2 ⟨rfl, rfl⟩)
    go_wp2_with fail
    refine (name_off _ _ _).mono ?_
    rintro e w3 ⟨rfl, rfl⟩
    go_wp2
    go_ret
    exact ⟨rfl, (Below.refl _ _).drew⟩

/-- Beyond the bounds: it answers true at once. -/
theorem cuts_early (s y : ByteArray) (b : Bool) (i j : Int) (hs : s.size ≤ maxLen) (hy : y.size ≤ maxLen) (w : World)
    (h : 262144 < s.size ∨ 262144 < y.size ∨ i < 0 ∨ (s.size : Int) < i ∨ j < 0 ∨ (y.size : Int) < j) :
    Calls Try.prog 4 #[.string s, .string y, .bool b, .int .i64 i, .int .i64 j] w fun e w' => e = .returned (.bool true) ∧ Below w.heap.size w w' := by
  unfold maxLen at hs hy
  have hb10 := bytes10 s y b i j
  unfold maxLen at hb10
  have H : Hid (∀ w, Calls Try.prog 10 #[.string s, .string y, .bool b, .int .i64 i, .int .i64 j] w fun e w' => ∃ r : Bool, e = .returned (.bool r) ∧ w = w') := fun w => hb10 w hs hy
  clear hb10
  by_cases c1 : (262144 : Int) < s.size
  · go_enter Try.func4, Try.ntmps4
    go_wp2_with (go_at_call 10; refine (H.out _).mono ?_; rintro e w' ⟨r, rfl, rfl⟩)
    all_goals (go_ret; exact ⟨rfl, Below.refl _ _⟩)
  by_cases c2 : (262144 : Int) < y.size
  · go_enter Try.func4, Try.ntmps4
    go_wp2_with (go_at_call 10; refine (H.out _).mono ?_; rintro e w' ⟨r, rfl, rfl⟩)
    all_goals (go_ret; exact ⟨rfl, Below.refl _ _⟩)
  by_cases c3 : i < 0
  · go_enter Try.func4, Try.ntmps4
    go_wp2_with (go_at_call 10; refine (H.out _).mono ?_; rintro e w' ⟨r, rfl, rfl⟩)
    all_goals (go_ret; exact ⟨rfl, Below.refl _ _⟩)
  by_cases c4 : (s.size : Int) < i
  · go_enter Try.func4, Try.ntmps4
    go_wp2_with (go_at_call 10; refine (H.out _).mono ?_; rintro e w' ⟨r, rfl, rfl⟩)
    all_goals (go_ret; exact ⟨rfl, Below.refl _ _⟩)
  by_cases c5 : j < 0
  · go_enter Try.func4, Try.ntmps4
    go_wp2_with (go_at_call 10; refine (H.out _).mono ?_; rintro e w' ⟨r, rfl, rfl⟩)
    all_goals (go_ret; exact ⟨rfl, Below.refl _ _⟩)
  by_cases c6 : (y.size : Int) < j
  · go_enter Try.func4, Try.ntmps4
    go_wp2_with (go_at_call 10; refine (H.out _).mono ?_; rintro e w' ⟨r, rfl, rfl⟩)
    all_goals (go_ret; exact ⟨rfl, Below.refl _ _⟩)
  · omega
end Go.Proofs.Qxb6621671a
