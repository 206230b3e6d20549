import Derived.Test.Qxb6621671aName
import Derived.Outline
namespace Go.Proofs.Qxb6621671a
open Go.RowKit

/-- zzBytes_FnNameTellsAccountsApart answers some bool. -/
theorem bytes11 (s1 y1 : ByteArray) (b1 : Bool) (s2 y2 : ByteArray) (b2 : Bool) (w : World) (h1 : s1.size ≤ maxLen) (h2 : y1.size ≤ maxLen) (h3 : s2.size ≤ maxLen) (h4 : y2.size ≤ maxLen) :
    Calls Try.prog 11 #[.string s1, .string y1, .bool b1, .string s2, .string y2, .bool b2] w fun e w' => ∃ r : Bool, e = .returned (.bool r) ∧ w = w' := by
  unfold maxLen at h1 h2 h3 h4
  go_enter Try.func11, Try.ntmps11
  go_wp2
  all_goals (go_ret; exact ⟨_, rfl, rfl⟩)

/-- No byte of s is a colon. -/
def NoColon (s : ByteArray) : Prop := ∀ (k : Nat) (h : k < s.size), ¬ (s[k].toNat : Int) = 58

def ColonPost (s : ByteArray) (w : World) (e : Ending) (w' : World) : Prop := ∃ r : Bool, e = .returned (.bool r) ∧ w = w' ∧ (r = true → NoColon s)

/-- zzNoColonB1: where it says yes no byte is a colon. -/
theorem colon12 (s : ByteArray) (w : World) (hs : s.size ≤ maxLen) : Calls Try.prog 12 #[.string s] w fun e w' => ColonPost s w e w' := by
  unfold maxLen at hs
  go_enter Try.func12, Try.ntmps12
  go_wp2
  go_loop [3] (fun i => ∃ k : Nat, k ≤ s.size ∧ i = .int .i64 k ∧ ∀ (j : Nat) (h : j < s.size), j < k → ¬ (s[j].toNat : Int) = 58) (fun i => s.size - (intOf i).toNat)
  case atStart => exact ⟨0, Nat.zero_le _, rfl, fun j _ hj => absurd hj (by omega)⟩
  case round =>
    obtain ⟨k, hk, rfl, hno⟩ := hrel
    have HN : Hid (∀ (j : Nat) (h : j < s.size), j < k → ¬ (s[j].toNat : Int) = 58) := hno
    clear hno
    by_cases hlt : k < s.size
    · by_cases hc : (s[k].toNat : Int) = 58
      · go_wp2
        go_ret
        exact ⟨false, rfl, rfl, fun h => by cases h⟩
      · go_wp2
        go_round
        case rel =>
          refine ⟨k + 1, by omega, by go_num, fun j h hj => ?_⟩
          by_cases e : j = k
          · subst e; exact hc
          · exact HN.out j h (by omega)
        case measure => simp [intOf]; omega
    · go_wp2
      go_ret
      exact ⟨true, rfl, rfl, fun _ j h => HN.out j h (by omega)⟩

theorem noColon_mem {s : ByteArray} (h : NoColon s) : (58 : UInt8) ∉ s.data.toList := by
  intro hm
  obtain ⟨k, hk, e⟩ := List.getElem_of_mem hm
  refine h k hk ?_
  have e' : s[k]'hk = 58 := by
    rw [← e]
    exact (Array.getElem_toList _).symm
  rw [e']
  rfl

theorem split_eq : ∀ (s1 s2 y1 y2 : List UInt8), (58 : UInt8) ∉ s1 → (58 : UInt8) ∉ s2 → s1 ++ 58 :: y1 = s2 ++ 58 :: y2 → s1 = s2 ∧ y1 = y2
  | [], [], _, _, _, _, h => by simpa using h
  | [], c :: s2, _, _, _, h2, h => by
    simp at h
    exact absurd (h.1 ▸ List.mem_cons_self) h2
  | c :: s1, [], _, _, h1, _, h => by
    simp at h
    exact absurd (h.1 ▸ List.mem_cons_self) h1
  | c :: s1, d :: s2, y1, y2, h1, h2, h => by
    simp only [List.cons_append, List.cons.injEq] at h
    have r := split_eq s1 s2 y1 y2 (fun m => h1 (List.mem_cons_of_mem _ m)) (fun m => h2 (List.mem_cons_of_mem _ m)) h.2
    exact ⟨by rw [h.1, r.1], r.2⟩

theorem name_eq (s1 y1 s2 y2 : List UInt8) (b1 b2 : Bool) (h1 : (58 : UInt8) ∉ s1) (h2 : (58 : UInt8) ∉ s2) :
    nameL s1 y1 b1 = nameL s2 y2 b2 ↔ s1 = s2 ∧ b1 = b2 ∧ (b1 = true → y1 = y2) := by
  cases b1 <;> cases b2 <;> simp [nameL]
  · intro e
    exact absurd (e ▸ List.mem_append_right _ List.mem_cons_self) h1
  · intro e
    exact absurd (e ▸ List.mem_append_right _ List.mem_cons_self) h2
  · exact ⟨split_eq s1 s2 y1 y2 h1 h2, fun ⟨e1, e2⟩ => by rw [e1, e2]⟩

theorem nameS_toList (s y : ByteArray) (b : Bool) : (nameS s y b).toList = nameL s.toList y.toList b := by
  simp [nameS, ByteArray.toList_eq]

theorem nameS_ge (s y : ByteArray) (b : Bool) : s.size ≤ (nameS s y b).size := by
  unfold nameS nameL ByteArray.size
  cases b <;> simp

theorem nameS_pre (s y : ByteArray) (b : Bool) : (nameS s y b).extract 0 s.size = s := by
  apply ByteArray.ext
  apply Array.ext'
  have e : s.data.toList.length = s.size := rfl
  simp only [ByteArray.data_extract, Array.toList_extract, List.extract_eq_take_drop, Nat.sub_zero, List.drop_zero, nameS]
  cases b
  · simp only [nameL, Bool.false_eq_true, if_false]
    rw [List.take_of_length_le (by rw [e]; exact Nat.le_refl _)]
  · simp only [nameL, if_true]
    rw [List.take_append_of_le_length (by rw [e]; exact Nat.le_refl _), List.take_of_length_le (by rw [e]; exact Nat.le_refl _)]

theorem ret_true {a : Bool} (h : a = true) : Ending.returned (.bool a) = .returned (.bool true) := by rw [h]

theorem same_on (s1 y1 s2 y2 : ByteArray) (h1 : NoColon s1) (h2 : NoColon s2) (e : s1.toList = s2.toList) : (((nameS s1 y1 true).toList == (nameS s2 y2 true).toList) == (y1.toList == y2.toList)) = true := by
  rw [nameS_toList, nameS_toList]
  have h := name_eq s1.toList y1.toList s2.toList y2.toList true true (by rw [ByteArray.toList_eq]; exact noColon_mem h1) (by rw [ByteArray.toList_eq]; exact noColon_mem h2)
  by_cases hy : y1.toList = y2.toList
  · simp [e, hy]
  · have hn : ¬ nameL s1.toList y1.toList true = nameL s2.toList y2.toList true := fun q => hy ((h.1 q).2.2 rfl)
    simp [beq_eq_false_iff_ne.2 hn, beq_eq_false_iff_ne.2 hy]

theorem same_off (s1 y1 s2 y2 : ByteArray) (e : s1.toList = s2.toList) : ((nameS s1 y1 false).toList == (nameS s2 y2 false).toList) = true := by
  rw [nameS_toList, nameS_toList]
  simp [nameL, e]

theorem other (s1 y1 s2 y2 : ByteArray) (b1 b2 : Bool) (h1 : NoColon s1) (h2 : NoColon s2) (e : ¬ (s1.toList = s2.toList ∧ b1 = b2)) : ((nameS s1 y1 b1).toList == (nameS s2 y2 b2).toList) = false := by
  rw [nameS_toList, nameS_toList]
  have h := name_eq s1.toList y1.toList s2.toList y2.toList b1 b2 (by rw [ByteArray.toList_eq]; exact noColon_mem h1) (by rw [ByteArray.toList_eq]; exact noColon_mem h2)
  exact beq_eq_false_iff_ne.2 (fun q => e ⟨(h.1 q).1, (h.1 q).2.1⟩)

theorem apart_main (s1 y1 : ByteArray) (b1 : Bool) (s2 y2 : ByteArray) (b2 : Bool) (w : World) (h1 : s1.size ≤ 262144) (h2 : y1.size ≤ 262144) (h3 : s2.size ≤ 262144) (h4 : y2.size ≤ 262144) :
    Calls Try.prog 5 #[.string s1, .string y1, .bool b1, .string s2, .string y2, .bool b2] w fun e w' => e = .returned (.bool true) ∧ Below w.heap.size w w' := by
  have g1 := nameS_ge s1 y1 b1
  have g2 := nameS_pre s1 y1 b1
  go_enter Try.func5, Try.ntmps5
  go_wp2_with (first | (go_at_call 11; refine (bytes11 _ _ _ _ _ _ _ (by unfold maxLen; omega) (by unfold maxLen; omega) (by unfold maxLen; omega) (by unfold maxLen; omega)).mono ?_; rintro e w' ⟨r, rfl, rfl⟩) | (go_at_call 12; refine (colon12 _ _ (by unfold maxLen; omega)).mono ?_; rintro e w' ⟨r, rfl, rfl, hr⟩))
  · go_ret
    exact ⟨rfl, Below.refl _ _⟩
  · go_ret
    exact ⟨rfl, Below.refl _ _⟩
  · refine (name_any _ _ _ _ (by omega)).mono ?_
    rintro e w1 ⟨rfl, hb1⟩
    go_wp2_with fail
    refine (name_any _ _ _ _ (by omega)).mono ?_
    rintro e w2 ⟨rfl, hb2⟩
    go_wp2
    all_goals go_ret
    all_goals have hn1 : NoColon s1 := ‹_ → NoColon s1› ‹_›
    all_goals have hn2 : NoColon s2 := hr (by simpa using ‹(!r) = false›)
    all_goals have hB : Below w.heap.size w w2 := hb1.trans (hb2.mono hb1.size)
    · exact ⟨ret_true (same_on s1 y1 s2 y2 hn1 hn2 ‹_›), hB⟩
    · exact ⟨ret_true (same_off s1 y1 s2 y2 ‹_›), hB⟩
    · exact ⟨ret_true (by simp only [other s1 y1 s2 y2 b1 b2 hn1 hn2 (fun q => ‹¬ b1 = b2› q.2)]; rfl), hB⟩
    · exact ⟨ret_true (by simp only [other s1 y1 s2 y2 b1 b2 hn1 hn2 (fun q => ‹¬ s1.toList = s2.toList› q.1)]; rfl), hB⟩
  · go_ret
    exact ⟨rfl, Below.refl _ _⟩

/-- Beyond the bounds: it answers true at once. -/
theorem apart_early (s1 y1 : ByteArray) (b1 : Bool) (s2 y2 : ByteArray) (b2 : Bool) (w : World) (h1 : s1.size ≤ maxLen) (h2 : y1.size ≤ maxLen) (h3 : s2.size ≤ maxLen) (h4 : y2.size ≤ maxLen)
    (h : 262144 < s1.size ∨ 262144 < y1.size ∨ 262144 < s2.size ∨ 262144 < y2.size) :
    Calls Try.prog 5 #[.string s1, .string y1, .bool b1, .string s2, .string y2, .bool b2] w fun e w' => e = .returned (.bool true) ∧ Below w.heap.size w w' := by
  have H : Hid (∀ w, Calls Try.prog 11 #[.string s1, .string y1, .bool b1, .string s2, .string y2, .bool b2] w fun e w' => ∃ r : Bool, e = .returned (.bool r) ∧ w = w') := fun w => bytes11 s1 y1 b1 s2 y2 b2 w h1 h2 h3 h4
  unfold maxLen at h1 h2 h3 h4
  by_cases c1 : (262144 : Int) < s1.size
  · go_enter Try.func5, Try.ntmps5
    go_wp2_with (go_at_call 11; refine (H.out _).mono ?_; rintro e w' ⟨r, rfl, rfl⟩)
    all_goals (go_ret; exact ⟨rfl, Below.refl _ _⟩)
  by_cases c2 : (262144 : Int) < y1.size
  · go_enter Try.func5, Try.ntmps5
    go_wp2_with (go_at_call 11; refine (H.out _).mono ?_; rintro e w' ⟨r, rfl, rfl⟩)
    all_goals (go_ret; exact ⟨rfl, Below.refl _ _⟩)
  by_cases c3 : (262144 : Int) < s2.size
  · go_enter Try.func5, Try.ntmps5
    go_wp2_with (go_at_call 11; refine (H.out _).mono ?_; rintro e w' ⟨r, rfl, rfl⟩)
    all_goals (go_ret; exact ⟨rfl, Below.refl _ _⟩)
  by_cases c4 : (262144 : Int) < y2.size
  · go_enter Try.func5, Try.ntmps5
    go_wp2_with (go_at_call 11; refine (H.out _).mono ?_; rintro e w' ⟨r, rfl, rfl⟩)
    all_goals (go_ret; exact ⟨rfl, Below.refl _ _⟩)
  · omega
end Go.Proofs.Qxb6621671a
