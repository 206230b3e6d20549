/-
  THE WALK OF FnPassScriptEndsOnLastRun (4).
-/
import Derived.Test.Qxb6617282aPlain
namespace Go.Proofs.Qxb6617282a
open Go.RowKit

/-- The new position, in the block that '&Position{..}' lays. -/
theorem pos_new (w : World) (A S : Int) : Pos (w.alloc (.cells #[.int .u64 A, .int .i64 S] 55)) w.heap.size A S := by
  refine ⟨by simp [go_sem], by simp [go_sem], by simp [go_sem], by simp [go_sem]⟩

theorem bytes10_yes (A S : Int) (a : Option Addr) (len cap : Nat) (w : World) (hl : len ≤ 131072) :
    Calls Try.prog 10 #[.int .u64 A, .int .i64 S, .slice a len cap] w fun e w' => e = .returned (.bool true) ∧ w = w' := by
  go_enter Try.func10, Try.ntmps10
  go_wp2
  go_ret
  exact ⟨rfl, rfl⟩

set_option maxRecDepth 100000 in
theorem script_some (A S : Int) (bb off len cap : Nat) (vs : List Int) (w : World) (hm : len ≤ 131072) (hpos : 0 < len) (hS : wrap64 S = S) (hvs : vs.length = len) (hu : ∀ v ∈ vs, U64 v) (hbb : bb < w.heap.size)
    (hc : ∀ i, i < len → w.cell? ⟨bb, off + i, none⟩ = some (.int .u64 (vs.getD i 0))) :
    Calls Try.prog 4 #[.int .u64 A, .int .i64 S, .slice (some ⟨bb, off, none⟩) len cap] w fun e w' => e = .returned (.bool true) ∧ Below w.heap.size w w' := by
  have HC : Hid (∀ i, i < len → w.cell? ⟨bb, off + i, none⟩ = some (.int .u64 (vs.getD i 0))) := hc
  have HS : Hid (wrap64 S = S) := hS
  have HV : Hid (vs.length = len) := hvs
  clear hc hS hvs
  have hmI : (len : Int) ≤ 131072 := by omega
  go_enter Try.func4, Try.ntmps4
  go_wp2_with (go_at_call 10; refine (bytes10_yes _ _ _ _ _ _ hm).mono ?_; rintro e w' ⟨rfl, rfl⟩)
  · have hp0 := pos_new w A S
    have hB0 : Below w.heap.size w (w.alloc (.cells #[.int .u64 A, .int .i64 S] 55)) := (Below.refl _ _).alloc (Nat.le_refl _) _
    go_loopw [8] (fun i wr => ∃ k : Nat, k ≤ len ∧ i = .int .i64 k ∧ Pos wr w.heap.size (runs A S (vs.take k)).1 (runs A S (vs.take k)).2 ∧ Below w.heap.size w wr) (fun i _ => len - (intOf i).toNat)
    case atStart => exact ⟨0, Nat.zero_le _, rfl, hp0, hB0⟩
    case round =>
      obtain ⟨k, hk, rfl, hp, hb⟩ := hrel
      clear hp0 hB0
      by_cases hlt : k < len
      · have hck : wr.cell? ⟨bb, off + k, none⟩ = some (.int .u64 (vs.getD k 0)) := (hb.cell hbb).trans (HC.out k hlt)
        go_wp2_with fail
        refine (pass_any w.heap.size _ _ _ wr hp).mono ?_
        rintro e w1 ⟨rfl, hp1, hb1⟩
        have HR : Hid ((runs A S (vs.take (k + 1))).1 = passA (runs A S (vs.take k)).1 (vs.getD k 0) ∧ (runs A S (vs.take (k + 1))).2 = passS (runs A S (vs.take k)).1 (runs A S (vs.take k)).2 (vs.getD k 0)) := runs_take A S vs k (by rw [HV.out]; exact hlt)
        go_wp2
        go_roundw
        case rel => exact ⟨k + 1, by omega, by go_num, by rw [HR.out.1, HR.out.2]; exact hp1, hb.trans hb1⟩
        case measure => simp [intOf]; omega
      · have e : k = len := by omega
        subst e
        have ht : vs.take k = vs := List.take_of_length_le (by rw [HV.out]; exact Nat.le_refl _)
        rw [ht] at hp
        clear ht hk hlt
        obtain ⟨last, hlast⟩ : ∃ last, last = vs.getD (k - 1) 0 := ⟨_, rfl⟩
        have hck : wr.cell? ⟨bb, off + (k - 1), none⟩ = some (.int .u64 last) := by rw [hlast]; exact (hb.cell hbb).trans (HC.out (k - 1) (by omega))
        have HL : Hid (last = vs.getD (k - 1) 0) := hlast
        clear hlast
        have b0 : (0 : Int) ≤ (k : Int) - 1 := by omega
        have b1 : (k : Int) - 1 < (k : Int) := by omega
        have b2 : ((k : Int) == 0) = false := beq_eq_false_iff_ne.2 (by omega)
        go_wp2
        go_loop [11] (fun i => ∃ j : Nat, j ≤ k ∧ i = .int .i64 j ∧ ∀ t, t < j → vs.getD (k - 1 - t) 0 = last) (fun i => k - (intOf i).toNat)
        case atStart => exact ⟨0, Nat.zero_le _, rfl, fun t h => absurd h (by omega)⟩
        case round =>
          obtain ⟨j, hj, rfl, hrun⟩ := hrel
          have HRUN : Hid (∀ t, t < j → vs.getD (k - 1 - t) 0 = last) := hrun
          clear hrun
          by_cases hjk : j < k
          · obtain ⟨x, hx⟩ : ∃ x, x = vs.getD (k - 1 - j) 0 := ⟨_, rfl⟩
            have hcj : wr.cell? ⟨bb, off + (k - 1 - j), none⟩ = some (.int .u64 x) := by rw [hx]; exact (hb.cell hbb).trans (HC.out (k - 1 - j) (by omega))
            have HX : Hid (x = vs.getD (k - 1 - j) 0) := hx
            clear hx
            have d0 : (0 : Int) ≤ (k : Int) - 1 - (j : Int) := by omega
            have d1 : (k : Int) - 1 - (j : Int) < (k : Int) := by omega
            by_cases hxl : x = last
            · subst hxl
              go_wp2
              go_round
              case rel =>
                refine ⟨j + 1, by omega, by go_num, fun t ht => ?_⟩
                by_cases e : t = j
                · subst e; exact HX.out.symm
                · exact HRUN.out t (by omega)
              case measure => simp [intOf]; omega
            · have hxb : (x == last) = false := beq_eq_false_iff_ne.2 hxl
              have hj1 : 1 ≤ j := by
                by_cases e : j = 0
                · subst e; exact absurd (HX.out.trans HL.out.symm) hxl
                · omega
              have er := runs_last A S vs j last hu HS.out (by rw [HV.out]; omega) (by rw [HV.out]; omega) hj1 (by rw [HV.out]; exact HRUN.out) (.inr (by rw [HV.out, ← HX.out]; exact hxl))
              rw [if_neg (by rw [HV.out]; omega)] at er
              rw [er] at hp
              have h0 : wr.cell? ⟨w.heap.size, 0, none⟩ = some (.int .u64 (IntKind.u64.wrap (last - 1))) := hp.1
              have h1 : wr.cell? ⟨w.heap.size, 1, none⟩ = some (.int .i64 (j : Int)) := hp.2.1
              have hjb : ((j : Int) == (k : Int)) = false := beq_eq_false_iff_ne.2 (by omega)
              clear er hp hxl
              go_wp2
              go_ret
              exact ⟨rfl, hb⟩
          · have e : j = k := by omega
            subst e
            have er := runs_last A S vs j last hu HS.out (by rw [HV.out]; omega) (by rw [HV.out]; omega) (by omega) (by rw [HV.out]; exact HRUN.out) (.inl HV.out.symm)
            by_cases hA : last = up A
            · rw [if_pos ⟨HV.out.symm, hA⟩] at er
              rw [er] at hp
              have h0 : wr.cell? ⟨w.heap.size, 0, none⟩ = some (.int .u64 A) := hp.1
              have h1 : wr.cell? ⟨w.heap.size, 1, none⟩ = some (.int .i64 (wrap64 (S + (j : Int)))) := hp.2.1
              have hlb : (last == IntKind.u64.wrap (A + 1)) = true := by rw [hA]; exact beq_self_eq_true _
              clear er hp hA
              go_wp2
              go_ret
              exact ⟨rfl, hb⟩
            · rw [if_neg (fun q => hA q.2)] at er
              rw [er] at hp
              have h0 : wr.cell? ⟨w.heap.size, 0, none⟩ = some (.int .u64 (IntKind.u64.wrap (last - 1))) := hp.1
              have h1 : wr.cell? ⟨w.heap.size, 1, none⟩ = some (.int .i64 (j : Int)) := hp.2.1
              have hlb : (last == IntKind.u64.wrap (A + 1)) = false := beq_eq_false_iff_ne.2 hA
              clear er hp hA
              go_wp2
              go_ret
              exact ⟨rfl, hb⟩

/-- No version at all. -/
theorem script_none (A S : Int) (a : Option Addr) (cap : Nat) (w : World) :
    Calls Try.prog 4 #[.int .u64 A, .int .i64 S, .slice a 0 cap] w fun e w' => e = .returned (.bool true) ∧ Below w.heap.size w w' := by
  go_enter Try.func4, Try.ntmps4
  go_wp2_with (go_at_call 10; refine (bytes10_yes _ _ _ 0 _ _ (by omega)).mono ?_; rintro e w' ⟨rfl, rfl⟩)
  refine wp_loop_rounds 1 ?_
  rw [rounds_succ]
  go_wp2
  go_ret
  exact ⟨rfl, (Below.refl _ _).alloc (Nat.le_refl _) _⟩

/-- Beyond the bounds: it answers true at once. -/
theorem script_early (A S : Int) (a : Option Addr) (len cap : Nat) (w : World) (hl : len ≤ maxLen) (h : (131072 : Int) < len) :
    Calls Try.prog 4 #[.int .u64 A, .int .i64 S, .slice a len cap] w fun e w' => e = .returned (.bool true) ∧ Below w.heap.size w w' := by
  have H : Hid (∀ w, Calls Try.prog 10 #[.int .u64 A, .int .i64 S, .slice a len cap] w fun e w' => ∃ r : Bool, e = .returned (.bool r) ∧ w = w') := fun w => bytes10 A S a len cap w hl
  unfold maxLen at hl
  go_enter Try.func4, Try.ntmps4
  go_wp2_with (go_at_call 10; refine (H.out _).mono ?_; rintro e w' ⟨r, rfl, rfl⟩)
  all_goals (go_ret; exact ⟨rfl, Below.refl _ _⟩)
end Go.Proofs.Qxb6617282a
