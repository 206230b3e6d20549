/-
  THE WALK OF FnHeldOnSplitsAtAnyCut (3).
-/
import Derived.Test.Qxb6617282aKs
import Derived.Deep.RegionWith
import Derived.Deep.QuietTactic
import Derived.Deep.RegionHeld3
import Derived.BigQuiet
namespace Go.Proofs.Qxb6617282a
open Go.RowKit

set_option maxRecDepth 100000 in
set_option maxHeartbeats 4000000 in
theorem split_nil (V : Int) (a : Option Addr) (kb ko len cap : Nat) (vs : List Int) (Z : Nat → ZH) (cut q : Int) (w : World) (hl : len ≤ maxLen) (ha : 0 < len → a = some ⟨kb, ko, none⟩) (hk : KeptAt w kb ko len vs Z) :
    Calls Try.prog 3 #[.int .u64 V, .pointer none, .slice a len cap, .int .i64 cut, .int .u64 q] w fun e w' => e = .returned (.bool true) ∧ Below w.heap.size w w' := by
  have hn31 := neq31
  have he31 := eql31
  go_enter Try.func3, Try.ntmps3
  go_wp2_with fail
  refine (bytes6_nil V a kb ko len cap vs Z cut q _ hl ha hk).mono ?_
  rintro e w' ⟨r, rfl, rfl, hr⟩
  cases r
  · go_wp2
    go_ret
    exact ⟨rfl, Below.refl _ _⟩
  · have hlen : len ≤ 1048576 := hr rfl
    clear hr hl
    go_wp2
    go_loopw [11, 12] (fun z i wr => ∃ (k : Nat) (n : Int), k ≤ len ∧ i = .int .i64 k ∧ z = .int .i64 n ∧ 0 ≤ n ∧ n ≤ 1048576 ∧ Below w.heap.size w wr) (fun _ i _ => len - (intOf i).toNat)
    case atStart => exact ⟨0, _, Nat.zero_le _, rfl, rfl, by omega, by omega, Below.refl _ _⟩
    case round =>
      obtain ⟨k, n, hkl, rfl, rfl, hn0, hn1, hb⟩ := hrel
      by_cases hlt : k < len
      · have ea := ha (by omega)
        subst ea
        obtain ⟨_, ⟨k1, k2, k3⟩, hA⟩ := hk k hlt
        have H7 : Hid (∀ w, Calls Try.prog 7 #[(Z k).agg] w fun e w' => BytesPost w e w') := fun w => heldBytes (Z k) w k1 k2 k3
        obtain ⟨c0, c1, c2, c3, c4, c5, c6⟩ := hA.below hb (Nat.le_refl _)
        clear hA k1 k2 k3
        unfold ZH.agg at H7
        generalize Z k = z at *
        obtain ⟨txn, term, round, opid, fin, defd, quor⟩ := z
        dsimp only at c0 c1 c2 c3 c4 c5 c6 H7
        have d0 : (0 : Int) ≤ (k : Int) := by omega
        have d1 : (k : Int) < (len : Int) := by omega
        go_wp2_with fail
        refine (H7.out _).mono ?_
        rintro e w1 ⟨m, rfl, m0, m1, hb1⟩
        clear c0 c1 c2 c3 c4 c5 c6 H7
        go_wp2
        · go_ret
          exact ⟨rfl, hb.trans (hb1.mono hb.size)⟩
        · go_roundw
          case rel => exact ⟨k + 1, _, by omega, by go_num, rfl, by omega, by omega, hb.trans (hb1.mono hb.size)⟩
          case measure => simp [intOf]; omega
      · by_cases hc1 : cut < 0
        · go_wp2
          go_ret
          exact ⟨rfl, hb⟩
        by_cases hc2 : (len : Int) < cut
        · go_wp2
          go_ret
          exact ⟨rfl, hb⟩
        obtain ⟨c, rfl⟩ := Int.eq_ofNat_of_zero_le (show 0 ≤ cut by omega)
        have hcl : c ≤ len := by omega
        obtain ⟨i0, hi, hz0, hz1, hz2⟩ := info_parts info46
        have sB := hb.size
        go_wp2_with (at_make; refine wpList_make_full _ rfl _ _ 44 rfl wr.heap.size 46 i0 _ 15 Try.underlying44 hi hz0 hz1 _ _ _ _ len rfl rfl rfl rfl (by rw [hz2]; omega) (by unfold maxLen; omega) (Nat.le_refl _) ?_; intro w1 hown1 hgrow1)
        have hKs := ksAt_made vs hown1
        have hB1 : Below w.heap.size w w1 := hb.grown hgrow1 sB (fun k hk => by cases hk)
        have hg1 : wr.heap.size < w1.heap.size := (hown1.lt wr.heap.size rfl).2
        clear hown1 hgrow1 hi hz0 hz1 hz2 hb hc1 hc2 hkl hn0 hn1 hlt
        generalize wr.heap.size = g at *
        go_loopw [16] (fun i wr => ∃ j : Nat, j ≤ len ∧ i = .int .i64 j ∧ KsAt wr g len j vs ∧ Below w.heap.size w wr ∧ g < wr.heap.size) (fun i _ => len - (intOf i).toNat)
        case atStart => exact ⟨0, Nat.zero_le _, rfl, hKs, hB1, hg1⟩
        case round =>
          obtain ⟨j, hj, rfl, hks, hb, hgw⟩ := hrel
          clear hKs hB1 hg1
          by_cases hjl : j < len
          · have ea := ha (by omega)
            subst ea
            obtain ⟨cv, _, hA⟩ := hk j hjl
            have H8 : Hid (∀ w, Calls Try.prog 8 #[(Z j).agg] w fun e w' => e = .returned (.agg (Z j).held) ∧ Below w.heap.size w w') := fun w => held8 (Z j) w
            have hkb : kb < wr.heap.size := Nat.lt_of_lt_of_le (World.block_lt_of_cell? w _ cv) hb.size
            have cV : wr.cell? ⟨kb, ko + j * 8, none⟩ = some (.int .u64 (vs.getD j 0)) := (hb.cell (by exact World.block_lt_of_cell? w _ cv)).trans cv
            obtain ⟨c0, c1, c2, c3, c4, c5, c6⟩ := hA.below hb (Nat.le_refl _)
            clear hA cv
            unfold ZH.agg ZH.held at H8
            generalize Z j = z at *
            obtain ⟨txn, term, round, opid, fin, defd, quor⟩ := z
            dsimp only at c0 c1 c2 c3 c4 c5 c6 H8
            generalize hx : vs.getD j 0 = x at cV
            have HX : Hid (vs.getD j 0 = x) := hx
            clear hx
            have d0 : (0 : Int) ≤ (j : Int) := by omega
            have d1 : (j : Int) < (len : Int) := by omega
            go_wp2
            go_region_with (go_at_call 8; refine (H8.out _).mono ?_; rintro e w1 ⟨rfl, hb8d⟩; have hb8 : Below wr.heap.size wr w1 := below_of_drew hb8d; clear hb8d; have cV1 : w1.cell? ⟨kb, ko + j * 8, none⟩ = some (.int .u64 x) := (hb8.cell (by exact hkb)).trans cV; obtain ⟨u0, u1, u2, u3, u4, u5, u6, u7, u8, u9, u10, u11, u12, u13, u14, e0, e1, e2, e3, e4, e5, e6, e7, e8, e9, e10, e11, e12, e13, e14, f0, f1, f2, f3, f4, f5, f6, f7, f8, f9, f10, f11, f12, f13, f14⟩ := (hks.below hb8 hgw).cells15 hjl)
            all_goals
              clear e0 e1 e2 e3 e4 e5 e6 e7 e8 e9 e10 e11 e12 e13 e14 f0 f1 f2 f3 f4 f5 f6 f7 f8 f9 f10 f11 f12 f13 f14
              go_wp2
              go_roundw
              case rel => exact ⟨j + 1, by omega, by go_num, (hks.below hb8 hgw).store15 hjl (by rw [HX.out]) (hb.trans (hb8.mono hb.size)) sB (Nat.lt_of_lt_of_le hgw hb8.size)⟩
              case measure => simp [intOf]; omega
          · have ej : len = j := by omega
            subst ej
            clear hj hjl
            have hK : KS w g len vs wr := ⟨hks, hb, hgw⟩
            clear hks hb hgw
            by_cases hqV : V = q
            · subst hqV
              go_wp2_with fail
              refine (heldOn_own V _ _ _ _ _).mono ?_
              rintro e w2 ⟨rfl, hb2⟩
              go_wp2
              go_ret
              exact ⟨rfl, ((hK.alloc _).call hb2).2.1⟩
            · have hqb : (q == V) = false := beq_eq_false_iff_ne.2 (fun e => hqV e.symm)
              go_wp2_with fail
              refine (heldOn_any V q hqV _ _ g 0 len _ vs _ hlen (fun _ => by rw [Nat.zero_mul]) ((hK.alloc _).part 0 len (by omega))).mono ?_
              rintro e w2 ⟨rfl, hb2⟩
              have hK2 : KS w g len vs w2 := (hK.alloc _).call hb2
              clear hb2 hK
              by_cases hcc : c < len
              · cases hF : find vs q 0 c with
                | some i =>
                  have hW : find vs q 0 len = some i := by
                    have := find_split vs q c (len - c) 0
                    rw [show c + (len - c) = len by omega, hF] at this
                    exact this
                  rw [hW, Option.map_some]
                  go_wp2_with fail
                  refine (heldOn_any V q hqV _ _ g 0 c _ vs _ (by omega) (fun _ => by rw [Nat.zero_mul]) (((hK2.alloc _).alloc _).part 0 c (by omega))).mono ?_
                  rintro e w3 ⟨rfl, hb3⟩
                  have hKT : KS w g len vs w3 := ((hK2.alloc _).alloc _).call hb3
                  clear hb3 hK2
                  rw [hF, Option.map_some]
                  clear hF hW
                  go_wp2_with fail
                  refine (heldOn_nil V q hqV _ _ _ _).mono ?_
                  rintro e w5 ⟨rfl, hb5⟩
                  have hK5 : KS w g len vs w5 := (hKT.alloc _).call hb5
                  clear hb5 hKT
                  obtain ⟨o, ho⟩ : ∃ o, o = vs.getD c 0 := ⟨_, rfl⟩
                  have HO : Hid (o = vs.getD c 0) := ho
                  have hco : w5.cell? ⟨g, c * 15, none⟩ = some (.int .u64 o) := by rw [ho]; exact hK5.1.2 c hcc
                  clear ho
                  have hg5 : g < w5.heap.size := hK5.2.2
                  have b0 : (0 : Int) ≤ (c : Int) := by omega
                  have b1 : (c : Int) < (len : Int) := by omega
                  by_cases hoV : V = o
                  · subst hoV
                    go_wp2
                    go_quiet (fail)
                    go_wp2_with fail
                    refine (one_other V q hqV _ g c len _ vs w _ ((hK5.alloc _).drewN _) hcc (by rw [← HO.out]; exact hqV)).mono ?_
                    rintro e w6 ⟨rfl, hb6⟩
                    have hK6 := ((hK5.alloc _).drewN _).call hb6
                    go_wp2
                    go_ret
                    exact ⟨rfl, hK6.2.1⟩
                  · have hov : (o != V) = true := bne_iff_ne.2 (fun e => hoV e.symm)
                    go_wp2
                    have hov1 : (o == V) = false := beq_eq_false_iff_ne.2 (fun e => hoV e.symm)
                    go_region_held3 (fun w' => w'.cell? ⟨w5.heap.size, 0, none⟩ = some (.int .u64 V) ∧ w'.cell? ⟨w5.heap.size, 1, none⟩ = some (.slice none 0 0) ∧ w'.cell? ⟨w5.heap.size, 2, none⟩ = some (.pointer none) ∧ w'.cell? ⟨w5.heap.size, 3, none⟩ = some (.pointer none) ∧ w'.cell? ⟨w5.heap.size, 4, none⟩ = some (.slice (some ⟨g, c * 15, none⟩) 1 (len - c)) ∧ w'.cell? ⟨w5.heap.size, 5, none⟩ = some (.pointer none) ∧ w'.cell? ⟨w5.heap.size, 6, none⟩ = some (.bool false)) (first | exact box7 (below_of_drew hb6) (by simp) rfl | simp [go_sem]) ((go_at_call 9; refine (one_own V o hoV _ g c len _ vs w _ (hK5.alloc _).drew hcc HO.out).mono ?_; rintro e w6 ⟨rfl, hb6⟩))
                    obtain ⟨x0, x1, x2, x3, x4, x5, x6⟩ := box7 (b := w5.heap.size) (below_of_drew hb6) (by simp) rfl
                    have hK6 : KS w g len vs w6 := ((hK5.alloc _).drew).call hb6
                    clear hb6 hK5
                    by_cases hoq : o = q
                    · subst hoq
                      go_wp2
                      go_ret
                      exact ⟨rfl, hK6.2.1⟩
                    · have hqo : (q != o) = true := bne_iff_ne.2 (fun e => hoq e.symm)
                      have hqo1 : (q == o) = false := beq_eq_false_iff_ne.2 (fun e => hoq e.symm)
                      go_wp2_with fail
                      refine (one_other V q hqV _ g c len _ vs w _ hK6 hcc (by rw [← HO.out]; exact hoq)).mono ?_
                      rintro e w7 ⟨rfl, hb7⟩
                      have hK7 := hK6.call hb7
                      go_wp2
                      go_ret
                      exact ⟨rfl, hK7.2.1⟩
                | none =>
                  have hW : find vs q 0 len = find vs q c (len - c) := by
                    have := find_split vs q c (len - c) 0
                    rw [show c + (len - c) = len by omega, hF, Nat.zero_add] at this
                    exact this
                  rw [hW]
                  generalize hP : Option.map (fun i => (⟨g, i * 15 + 1, none⟩ : Addr)) (find vs q c (len - c)) = P
                  have HP : Hid (Option.map (fun i => (⟨g, i * 15 + 1, none⟩ : Addr)) (find vs q c (len - c)) = P) := hP
                  clear hP
                  go_wp2_with fail
                  refine (heldOn_any V q hqV _ _ g 0 c _ vs _ (by omega) (fun _ => by rw [Nat.zero_mul]) (((hK2.alloc _).alloc _).part 0 c (by omega))).mono ?_
                  rintro e w3 ⟨rfl, hb3⟩
                  have hK3 : KS w g len vs w3 := ((hK2.alloc _).alloc _).call hb3
                  obtain ⟨x0, x1, x2, x3, x4, x5, x6⟩ := box7 hb3 (by simp) (b := w2.heap.size + 1) (by simp)
                  clear hb3 hK2
                  rw [hF, Option.map_none]
                  clear hF hW
                  go_wp2_with fail
                  refine (heldOn_any V q hqV _ _ g c (len - c) _ vs _ (by omega) (fun _ => rfl) (hK3.part c (len - c) (by omega))).mono ?_
                  rintro e w4 ⟨rfl, hb4⟩
                  have hKT : KS w g len vs w4 := hK3.call hb4
                  clear hb4 hK3 x0 x1 x2 x3 x4 x5 x6
                  rw [HP.out]
                  clear HP
                  go_wp2_with fail
                  refine (heldOn_nil V q hqV _ _ _ _).mono ?_
                  rintro e w5 ⟨rfl, hb5⟩
                  have hK5 : KS w g len vs w5 := (hKT.alloc _).call hb5
                  clear hb5 hKT
                  obtain ⟨o, ho⟩ : ∃ o, o = vs.getD c 0 := ⟨_, rfl⟩
                  have HO : Hid (o = vs.getD c 0) := ho
                  have hco : w5.cell? ⟨g, c * 15, none⟩ = some (.int .u64 o) := by rw [ho]; exact hK5.1.2 c hcc
                  clear ho
                  have hg5 : g < w5.heap.size := hK5.2.2
                  have b0 : (0 : Int) ≤ (c : Int) := by omega
                  have b1 : (c : Int) < (len : Int) := by omega
                  by_cases hoV : V = o
                  · subst hoV
                    go_wp2
                    go_quiet (fail)
                    go_wp2_with fail
                    refine (one_other V q hqV _ g c len _ vs w _ ((hK5.alloc _).drewN _) hcc (by rw [← HO.out]; exact hqV)).mono ?_
                    rintro e w6 ⟨rfl, hb6⟩
                    have hK6 := ((hK5.alloc _).drewN _).call hb6
                    go_wp2
                    go_ret
                    exact ⟨rfl, hK6.2.1⟩
                  · have hov : (o != V) = true := bne_iff_ne.2 (fun e => hoV e.symm)
                    go_wp2
                    have hov1 : (o == V) = false := beq_eq_false_iff_ne.2 (fun e => hoV e.symm)
                    go_region_held3 (fun w' => w'.cell? ⟨w5.heap.size, 0, none⟩ = some (.int .u64 V) ∧ w'.cell? ⟨w5.heap.size, 1, none⟩ = some (.slice none 0 0) ∧ w'.cell? ⟨w5.heap.size, 2, none⟩ = some (.pointer none) ∧ w'.cell? ⟨w5.heap.size, 3, none⟩ = some (.pointer none) ∧ w'.cell? ⟨w5.heap.size, 4, none⟩ = some (.slice (some ⟨g, c * 15, none⟩) 1 (len - c)) ∧ w'.cell? ⟨w5.heap.size, 5, none⟩ = some (.pointer none) ∧ w'.cell? ⟨w5.heap.size, 6, none⟩ = some (.bool false)) (first | exact box7 (below_of_drew hb6) (by simp) rfl | simp [go_sem]) ((go_at_call 9; refine (one_own V o hoV _ g c len _ vs w _ (hK5.alloc _).drew hcc HO.out).mono ?_; rintro e w6 ⟨rfl, hb6⟩))
                    obtain ⟨x0, x1, x2, x3, x4, x5, x6⟩ := box7 (b := w5.heap.size) (below_of_drew hb6) (by simp) rfl
                    have hK6 : KS w g len vs w6 := ((hK5.alloc _).drew).call hb6
                    clear hb6 hK5
                    by_cases hoq : o = q
                    · subst hoq
                      go_wp2
                      go_ret
                      exact ⟨rfl, hK6.2.1⟩
                    · have hqo : (q != o) = true := bne_iff_ne.2 (fun e => hoq e.symm)
                      have hqo1 : (q == o) = false := beq_eq_false_iff_ne.2 (fun e => hoq e.symm)
                      go_wp2_with fail
                      refine (one_other V q hqV _ g c len _ vs w _ hK6 hcc (by rw [← HO.out]; exact hoq)).mono ?_
                      rintro e w7 ⟨rfl, hb7⟩
                      have hK7 := hK6.call hb7
                      go_wp2
                      go_ret
                      exact ⟨rfl, hK7.2.1⟩
              · have ec : len = c := by omega
                subst ec
                cases hF : find vs q 0 len with
                | some i =>
                  rw [Option.map_some]
                  go_wp2_with fail
                  refine (heldOn_any V q hqV _ _ g 0 len _ vs _ hlen (fun _ => by rw [Nat.zero_mul]) (((hK2.alloc _).alloc _).part 0 len (by omega))).mono ?_
                  rintro e w3 ⟨rfl, hb3⟩
                  have hKT : KS w g len vs w3 := ((hK2.alloc _).alloc _).call hb3
                  clear hb3 hK2
                  rw [hF, Option.map_some]
                  clear hF
                  go_wp2_with fail
                  refine (heldOn_nil V q hqV _ _ _ _).mono ?_
                  rintro e w5 ⟨rfl, hb5⟩
                  have hK5 : KS w g len vs w5 := (hKT.alloc _).call hb5
                  go_wp2
                  go_ret
                  exact ⟨rfl, hK5.2.1⟩
                | none =>
                  rw [Option.map_none]
                  go_wp2_with fail
                  refine (heldOn_any V q hqV _ _ g 0 len _ vs _ hlen (fun _ => by rw [Nat.zero_mul]) (((hK2.alloc _).alloc _).part 0 len (by omega))).mono ?_
                  rintro e w3 ⟨rfl, hb3⟩
                  have hK3 : KS w g len vs w3 := ((hK2.alloc _).alloc _).call hb3
                  obtain ⟨x0, x1, x2, x3, x4, x5, x6⟩ := box7 hb3 (by simp) (b := w2.heap.size + 1) (by simp)
                  clear hb3 hK2
                  rw [hF, Option.map_none]
                  clear hF
                  go_wp2_with fail
                  refine (heldOn_nil V q hqV _ _ _ _).mono ?_
                  rintro e w4 ⟨rfl, hb4⟩
                  have hKT : KS w g len vs w4 := hK3.call hb4
                  clear hb4 hK3 x0 x1 x2 x3 x4 x5 x6
                  go_wp2_with fail
                  refine (heldOn_nil V q hqV _ _ _ _).mono ?_
                  rintro e w5 ⟨rfl, hb5⟩
                  have hK5 : KS w g len vs w5 := (hKT.alloc _).call hb5
                  go_wp2
                  go_ret
                  exact ⟨rfl, hK5.2.1⟩
end Go.Proofs.Qxb6617282a
