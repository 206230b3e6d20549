/-
  THE WALK OF FnPassPositionCountsEventsSeen (5).
-/
import Derived.Test.Qxb6617282aCount
import Derived.Deep.QuietTactic
import Derived.BigQuiet
namespace Go.Proofs.Qxb6617282a
open Go.RowKit

/-- The zero position, in the block that '&Position{}' lays. -/
theorem pos_zero (w : World) : Pos (w.alloc (.cells #[.int .u64 0, .int .i64 0] 55)) w.heap.size 0 0 := by
  refine ⟨by simp [go_sem], by simp [go_sem], by simp [go_sem], by simp [go_sem]⟩

theorem Pos.drewN {w : World} {b : Nat} {A S : Int} (h : Pos w b A S) (n : Nat) : Pos (w.drewN n) b A S := by
  induction n with
  | zero => exact h
  | succ n ih => exact ⟨by simpa using ih.1, by simpa using ih.2.1, by simpa using ih.2.2.1, by simpa using ih.2.2.2⟩

theorem below_drewN' {B : Nat} {a w : World} (h : Below B a w) (n : Nat) : Below B a (w.drewN n) := by
  induction n with
  | zero => exact h
  | succ n ih => exact ih.drew

theorem bytes12_yes (a : Option Addr) (len cap : Nat) (m : Int) (w : World) (hl : len ≤ 131072) :
    Calls Try.prog 12 #[.slice a len cap, .int .i64 m] w fun e w' => e = .returned (.bool true) ∧ w = w' := by
  go_enter Try.func12, Try.ntmps12
  go_wp2
  go_ret
  exact ⟨rfl, rfl⟩

set_option maxRecDepth 100000 in
theorem seen_some (bb off len cap m : Nat) (vs : List Int) (w : World) (hl : len ≤ 131072) (hpos : 0 < len) (hm : m ≤ len) (hvs : vs.length = len) (hu : ∀ v ∈ vs, U64 v) (hbb : bb < w.heap.size)
    (hc : ∀ i, i < len → w.cell? ⟨bb, off + i, none⟩ = some (.int .u64 (vs.getD i 0))) :
    Calls Try.prog 5 #[.slice (some ⟨bb, off, none⟩) len cap, .int .i64 m] w fun e w' => e = .returned (.bool true) ∧ Below w.heap.size w w' := by
  have HC : Hid (∀ i, i < len → w.cell? ⟨bb, off + i, none⟩ = some (.int .u64 (vs.getD i 0))) := hc
  have HV : Hid (vs.length = len) := hvs
  have HU : Hid (∀ v ∈ vs, U64 v) := hu
  clear hc hvs hu
  have hlI : (len : Int) ≤ 131072 := by omega
  have hmI : (m : Int) ≤ (len : Int) := by omega
  have hm0 : (0 : Int) ≤ (m : Int) := by omega
  have hd1 : decide (len < m) = false := decide_eq_false (by omega)
  have hd2 : decide ((m : Int) < 0) = false := decide_eq_false (by omega)
  go_enter Try.func5, Try.ntmps5
  go_wp2_with (go_at_call 12; refine (bytes12_yes _ _ _ _ _ hl).mono ?_; rintro e w' ⟨rfl, rfl⟩)
  go_loopw [5] (fun i wr => ∃ k : Nat, k ≤ len ∧ i = .int .i64 k ∧ Below w.heap.size w wr ∧ (∀ t, t < k → 1 ≤ vs.getD t 0) ∧ (∀ t, t + 1 < k → vs.getD t 0 ≤ vs.getD (t + 1) 0)) (fun i _ => len - (intOf i).toNat)
  case atStart => exact ⟨0, Nat.zero_le _, rfl, Below.refl _ _, fun t h => absurd h (by omega), fun t h => absurd h (by omega)⟩
  case round =>
    obtain ⟨k, hk, rfl, hb, hp, hmo⟩ := hrel
    have HP : Hid (∀ t, t < k → 1 ≤ vs.getD t 0) := hp
    have HM : Hid (∀ t, t + 1 < k → vs.getD t 0 ≤ vs.getD (t + 1) 0) := hmo
    clear hp hmo
    by_cases hlt : k < len
    · obtain ⟨x, hx⟩ : ∃ x, x = vs.getD k 0 := ⟨_, rfl⟩
      have hck : wr.cell? ⟨bb, off + k, none⟩ = some (.int .u64 x) := by rw [hx]; exact (hb.cell hbb).trans (HC.out k hlt)
      have hxu : U64 x := by rw [hx]; exact HU.out _ (by rw [List.getD_eq_getElem?_getD, List.getElem?_eq_getElem (by rw [HV.out]; exact hlt)]; exact List.getElem_mem _)
      obtain ⟨x0, x1⟩ := hxu
      have HX : Hid (x = vs.getD k 0) := hx
      clear hx
      have d0 : (0 : Int) ≤ (k : Int) := by omega
      have d1 : (k : Int) < (len : Int) := by omega
      by_cases hz : x = 0
      · subst hz
        go_wp2
        go_ret
        exact ⟨rfl, hb⟩
      · have hzb : (x == 0) = false := beq_eq_false_iff_ne.2 hz
        by_cases hk0 : k = 0
        · subst hk0
          have hck0 : wr.cell? ⟨bb, off, none⟩ = some (.int .u64 x) := by simpa using hck
          clear hck
          go_wp2
          go_quiet (fail)
          go_wp2
          go_roundw
          case rel =>
            refine ⟨1, by omega, by go_num, below_drewN' hb _, fun t ht => ?_, fun t ht => absurd ht (by omega)⟩
            obtain rfl : t = 0 := by omega
            rw [← HX.out]
            omega
          case measure => simp [intOf]; omega
        · obtain ⟨y, hy⟩ : ∃ y, y = vs.getD (k - 1) 0 := ⟨_, rfl⟩
          have hcy : wr.cell? ⟨bb, off + (k - 1), none⟩ = some (.int .u64 y) := by rw [hy]; exact (hb.cell hbb).trans (HC.out (k - 1) (by omega))
          have HY : Hid (y = vs.getD (k - 1) 0) := hy
          clear hy
          have e0 : (0 : Int) < (k : Int) := by omega
          have e00 : 0 < k := by omega
          have e1 : (0 : Int) ≤ (k : Int) - 1 := by omega
          have e2 : (k : Int) - 1 < (len : Int) := by omega
          by_cases hxy : x < y
          · go_wp2
            go_quiet (fail)
            go_wp2
            go_ret
            exact ⟨rfl, below_drewN' hb _⟩
          · go_wp2
            go_quiet (fail)
            go_wp2
            go_roundw
            case rel =>
              refine ⟨k + 1, by omega, by go_num, below_drewN' hb _, fun t ht => ?_, fun t ht => ?_⟩
              · by_cases e : t = k
                · subst e; rw [← HX.out]; omega
                · exact HP.out t (by omega)
              · by_cases e : t + 1 = k
                · have e3 : k - 1 = t := by omega
                  have hy' := HY.out
                  have hx' := HX.out
                  rw [e3] at hy'
                  rw [e, ← hx', ← hy']
                  omega
                · exact HM.out t (by omega)
            case measure => simp [intOf]; omega
    · have ek : k = len := by omega
      have HH : Hid (Hist vs len) := by
        subst ek
        refine ⟨HV.out, HP.out, fun i hi => ?_, HM.out⟩
        have e : vs.getD i 0 = vs[i]'(by rw [HV.out]; exact hi) := by
          rw [List.getD_eq_getElem?_getD, List.getElem?_eq_getElem (by rw [HV.out]; exact hi)]
          rfl
        rw [e]
        exact (HU.out _ (List.getElem_mem _)).2
      clear HP HM HU HV ek
      go_wp2
      have hp0 := pos_zero wr
      have hB0 : Below w.heap.size w (wr.alloc (.cells #[.int .u64 0, .int .i64 0] 55)) := hb.alloc hb.size _
      have hwB : w.heap.size ≤ wr.heap.size := hb.size
      generalize wr.heap.size = B at *
      clear hb
      go_loopw [7] (fun i wr => ∃ k : Nat, k ≤ m ∧ i = .int .i64 k ∧ Pos wr B (runs 0 0 (vs.take k)).1 (runs 0 0 (vs.take k)).2 ∧ Below w.heap.size w wr) (fun i _ => m - (intOf i).toNat)
      case atStart => exact ⟨0, Nat.zero_le _, rfl, hp0, hB0⟩
      case round =>
        obtain ⟨q, hq, rfl, hp, hb⟩ := hrel
        clear hp0 hB0
        by_cases hqm : q < m
        · have hck : wr.cell? ⟨bb, off + q, none⟩ = some (.int .u64 (vs.getD q 0)) := (hb.cell hbb).trans (HC.out q (by omega))
          have d1 : (q : Int) < (len : Int) := by omega
          go_wp2_with fail
          refine (pass_any B _ _ _ _ hp).mono ?_
          rintro e w1 ⟨rfl, hp1, hb1⟩
          have HR : Hid ((runs 0 0 (vs.take (q + 1))).1 = passA (runs 0 0 (vs.take q)).1 (vs.getD q 0) ∧ (runs 0 0 (vs.take (q + 1))).2 = passS (runs 0 0 (vs.take q)).1 (runs 0 0 (vs.take q)).2 (vs.getD q 0)) := runs_take 0 0 vs q (by rw [HH.out.len]; omega)
          go_wp2
          go_roundw
          case rel => exact ⟨q + 1, by omega, by go_num, by rw [HR.out.1, HR.out.2]; exact hp1, hb.trans (hb1.mono hwB)⟩
          case measure => simp [intOf]; omega
        · have eq : m = q := by omega
          subst eq
          have I := inv_runs HH.out (by omega) m hm
          clear hq hqm
          generalize (runs 0 0 (vs.take m)).1 = A at *
          generalize (runs 0 0 (vs.take m)).2 = S at *
          have HI : Hid (Inv vs m A S) := I
          have i3 := I.2.2.2.1
          have i4 := I.2.2.2.2
          clear I
          go_wp2
          go_loopw [8, 9] (fun n i wr => ∃ k : Nat, k ≤ len ∧ i = .int .i64 k ∧ n = .int .i64 (cle vs A k) ∧ Pos wr B A S ∧ Below w.heap.size w wr) (fun _ i _ => len - (intOf i).toNat)
          case atStart => exact ⟨0, Nat.zero_le _, rfl, rfl, hp, hb⟩
          case round =>
            obtain ⟨u, hul, rfl, rfl, hp, hb⟩ := hrel
            obtain ⟨c0, c1⟩ := cle_bound vs A u
            by_cases hlu : u < len
            · obtain ⟨x, hx⟩ : ∃ x, x = vs.getD u 0 := ⟨_, rfl⟩
              have hck : wr.cell? ⟨bb, off + u, none⟩ = some (.int .u64 x) := by rw [hx]; exact (hb.cell hbb).trans (HC.out u hlu)
              have hcA : wr.cell? ⟨B, 0, none⟩ = some (.int .u64 A) := hp.1
              have d0 : (0 : Int) ≤ (u : Int) := by omega
              have d1 : (u : Int) < (len : Int) := by omega
              by_cases hxA : x ≤ A
              · have HQ : Hid (cle vs A (u + 1) = cle vs A u + 1) := cle_hit (by rw [← hx]; exact hxA)
                clear hx
                go_wp2
                go_quiet (fail)
                go_wp2
                go_roundw
                case rel => exact ⟨u + 1, by omega, by go_num, by rw [HQ.out], hp.drewN _, below_drewN' hb _⟩
                case measure => simp [intOf]; omega
              · have HQ : Hid (cle vs A (u + 1) = cle vs A u) := cle_miss (by rw [← hx]; exact hxA)
                clear hx
                go_wp2
                go_quiet (fail)
                go_wp2
                go_roundw
                case rel => exact ⟨u + 1, by omega, by go_num, by rw [HQ.out], hp.drewN _, below_drewN' hb _⟩
                case measure => simp [intOf]; omega
            · have eu : u = len := by omega
              rw [eu] at c0 c1 ⊢
              clear eu hul hlu
              obtain ⟨l1, l2, l3⟩ := count_law HH.out m hm A S HI.out
              have hcA : wr.cell? ⟨B, 0, none⟩ = some (.int .u64 A) := hp.1
              have hcS : wr.cell? ⟨B, 1, none⟩ = some (.int .i64 S) := hp.2.1
              by_cases hm1 : m = 0
              · obtain ⟨z1, z2⟩ := l2 hm1
                have hmb : ((m : Int) == 0) = true := beq_iff_eq.2 (by omega)
                have ha : (A == 0) = true := beq_iff_eq.2 z1
                have hs : (S == 0) = true := beq_iff_eq.2 z2
                clear l2 l3 z1 z2 hm1
                go_wp2
                go_ret
                exact ⟨rfl, hb⟩
              · have hy := l3 (by omega)
                have hcy : wr.cell? ⟨bb, off + (m - 1), none⟩ = some (.int .u64 (IntKind.u64.wrap (A + 1))) := by
                  have e := (hb.cell hbb).trans (HC.out (m - 1) (by omega))
                  rw [hy] at e
                  exact e
                have hmb : ((m : Int) == 0) = false := beq_eq_false_iff_ne.2 (by omega)
                have f0 : (0 : Int) ≤ (m : Int) - 1 := by omega
                have f1 : (m : Int) - 1 < (len : Int) := by omega
                clear l2 l3 hy
                go_wp2
                go_quiet (fail)
                go_wp2
                go_ret
                exact ⟨rfl, below_drewN' hb _⟩

/-- No event at all. -/
theorem seen_none (a : Option Addr) (cap : Nat) (w : World) :
    Calls Try.prog 5 #[.slice a 0 cap, .int .i64 0] w fun e w' => e = .returned (.bool true) ∧ Below w.heap.size w w' := by
  go_enter Try.func5, Try.ntmps5
  go_wp2_with (go_at_call 12; refine (bytes12_yes _ 0 _ _ _ (by omega)).mono ?_; rintro e w' ⟨rfl, rfl⟩)
  refine wp_loop_rounds 1 ?_
  rw [rounds_succ]
  go_wp2
  refine wp_loop_rounds 1 ?_
  rw [rounds_succ]
  go_wp2
  refine wp_loop_rounds 1 ?_
  rw [rounds_succ]
  go_wp2
  go_ret
  exact ⟨rfl, (Below.refl _ _).alloc (Nat.le_refl _) _⟩

/-- Beyond the bounds: it answers true at once. -/
theorem seen_early (a : Option Addr) (len cap : Nat) (m : Int) (w : World) (hl : len ≤ maxLen) (h : (131072 : Int) < len ∨ m < 0 ∨ (len : Int) < m) :
    Calls Try.prog 5 #[.slice a len cap, .int .i64 m] w fun e w' => e = .returned (.bool true) ∧ Below w.heap.size w w' := by
  have H : Hid (∀ w, Calls Try.prog 12 #[.slice a len cap, .int .i64 m] w fun e w' => ∃ r : Bool, e = .returned (.bool r) ∧ w = w') := fun w => bytes12 a len cap m w hl
  unfold maxLen at hl
  by_cases c1 : (131072 : Int) < len
  · go_enter Try.func5, Try.ntmps5
    go_wp2_with (go_at_call 12; refine (H.out _).mono ?_; rintro e w' ⟨r, rfl, rfl⟩)
    all_goals (go_ret; exact ⟨rfl, Below.refl _ _⟩)
  by_cases c2 : m < 0
  · go_enter Try.func5, Try.ntmps5
    go_wp2_with (go_at_call 12; refine (H.out _).mono ?_; rintro e w' ⟨r, rfl, rfl⟩)
    all_goals (go_ret; exact ⟨rfl, Below.refl _ _⟩)
  by_cases c3 : (len : Int) < m
  · go_enter Try.func5, Try.ntmps5
    go_wp2_with (go_at_call 12; refine (H.out _).mono ?_; rintro e w' ⟨r, rfl, rfl⟩)
    all_goals (go_ret; exact ⟨rfl, Below.refl _ _⟩)
  · omega
end Go.Proofs.Qxb6617282a
