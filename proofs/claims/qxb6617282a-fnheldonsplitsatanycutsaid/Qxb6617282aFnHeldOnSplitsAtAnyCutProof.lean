/-
  'Rows.FnHeldOnSplitsAtAnyCutSaid', proved. No shell was given: the frame is the guide's template at this function's number and types; the two arguments that lead to memory (a pointer to a struct, a slice of structs) are opened by hand.
-/
import Derived.Test.Qxb6617282aRows
import Derived.WalkKit
import Derived.ProofKit
import Derived.OpenShut
import Derived.ShutString
import Derived.ChangeOld
import Derived.Below
import Derived.Deep.Slices
import Derived.Test.Qxb6617282aSplit
import Derived.Test.Qxb6617282aSplitP
namespace Go.Proofs.Qxb6617282a.fnHeldOnSplitsAtAnyCut
open Go.ChangeShapes Go.WideShapes Go.ChangeAt Go.RowKit
set_option linter.unusedVariables false

theorem own : ownKnob Try.prog.godebug = none := by kernel_rfl
theorem laidOut : laidOutB Try.prog = true := by kernel_rfl
theorem cells28 : Try.prog.cellsOf 28 = 7 := by kernel_rfl
theorem cells30 : Try.prog.cellsOf 30 = 8 := by kernel_rfl
theorem cells22 : Try.prog.cellsOf 22 = 1 := by kernel_rfl
theorem cells9 : Try.prog.cellsOf 9 = 1 := by kernel_rfl
theorem cells4 : Try.prog.cellsOf 4 = 1 := by kernel_rfl
theorem cells3 : Try.prog.cellsOf 3 = 1 := by kernel_rfl

/-- A held write, opened: seven cells. -/
theorem open28 {H : Type} {enc : TypeId × Value → H} {w : World} {base : Nat} {sp : Nat → Bool} {held : Bool} {fuel : Nat} {cs : List Value} {x : DataW H × List MemPlace}
    (h : DataW.trod enc Try.prog w base sp held fuel 28 cs = some x) :
    ∃ z : ZH, ZH.ok z ∧ cs = [.string z.txn, .int .u64 z.term, .int .u64 z.round, .string z.opid, .string z.fin, .bool z.defd, .int .i64 z.quor] := by
  obtain ⟨ys, m, _, _, hlen, hl, hf⟩ := DataW.trod_struct Try.underlying28 h
  rw [cells28] at hlen
  match cs, hlen with
  | [c0, c1, c2, c3, c4, c5, c6], _ =>
    match ys, hl with
    | [y0, y1, y2, y3, y4, y5, y6], _ =>
      have h0 := hf 0 _ rfl
      have h1 := hf 1 _ rfl
      have h2 := hf 2 _ rfl
      have h3 := hf 3 _ rfl
      have h4 := hf 4 _ rfl
      have h5 := hf 5 _ rfl
      have h6 := hf 6 _ rfl
      simp [cells9, cells22, cells4, cells3] at h0 h1 h2 h3 h4 h5 h6
      obtain ⟨x0, e0, _, s0⟩ := DataW.trod_string Try.underlying9 h0
      obtain ⟨x1, e1, _, _⟩ := DataW.trod_int Try.underlying22 h1
      obtain ⟨x2, e2, _, _⟩ := DataW.trod_int Try.underlying22 h2
      obtain ⟨x3, e3, _, s3⟩ := DataW.trod_string Try.underlying9 h3
      obtain ⟨x4, e4, _, s4⟩ := DataW.trod_string Try.underlying9 h4
      obtain ⟨x5, e5, _⟩ := DataW.trod_bool Try.underlying4 h5
      obtain ⟨x6, e6, _, _⟩ := DataW.trod_int Try.underlying3 h6
      simp at e0 e1 e2 e3 e4 e5 e6
      subst e0 e1 e2 e3 e4 e5 e6
      exact ⟨⟨x0, x1, x2, x3, x4, x5, x6⟩, ⟨s0, s3, s4⟩, rfl⟩

/-- An entry, opened: its version, and the seven cells. -/
theorem open30 {H : Type} {enc : TypeId × Value → H} {w : World} {base : Nat} {sp : Nat → Bool} {held : Bool} {fuel : Nat} {cs : List Value} {x : DataW H × List MemPlace}
    (h : DataW.trod enc Try.prog w base sp held fuel 30 cs = some x) :
    ∃ (v : Int) (z : ZH), ZH.ok z ∧ cs = [.int .u64 v, .string z.txn, .int .u64 z.term, .int .u64 z.round, .string z.opid, .string z.fin, .bool z.defd, .int .i64 z.quor] := by
  obtain ⟨y0, y1, n, _, hlen, h0, h1⟩ := trod_struct2 Try.underlying30 h
  rw [cells30] at hlen
  match cs, hlen with
  | [c0, c1, c2, c3, c4, c5, c6, c7], _ =>
    simp [cells22, cells28] at h0 h1
    obtain ⟨v, e0, _, _⟩ := DataW.trod_int Try.underlying22 h0
    obtain ⟨z, hz, e1⟩ := open28 h1
    simp at e0
    subst e0
    refine ⟨v, z, hz, ?_⟩
    rw [← e1]

/-- The pointer: nil, or it leads to a held write. -/
def HeldVal (w : World) (v : Value) : Prop := v = .pointer none ∨ ∃ b o z, v = .pointer (some ⟨b, o, none⟩) ∧ ZH.ok z ∧ At7 w b o z

theorem open_held {H : Type} {enc : TypeId × Value → H} {w : World} {base : Nat} {sp : Nat → Bool} {held : Bool} {r : Reach} {b0 : Nat} {v : Value} {d : DataW H} {ps : List MemPlace}
    (hval : Value.okWide Try.prog w r b0 23 v) (hd : DataW.Trod enc Try.prog w base sp held 23 v d ps) : HeldVal w v := by
  rcases open_ptr Try.underlying23 (by rw [cells28]; omega) hval hd with ⟨rfl, _, _⟩ | ⟨b, off, cs, y, fuel, rfl, _, _, hlen, hcell, hy⟩
  · exact .inl rfl
  · rw [cells28] at hlen hcell
    obtain ⟨z, hz, rfl⟩ := open28 hy
    exact .inr ⟨b, off, z, rfl, hz, by simpa using hcell 0 (by omega), by simpa using hcell 1 (by omega), by simpa using hcell 2 (by omega), by simpa using hcell 3 (by omega), by simpa using hcell 4 (by omega), by simpa using hcell 5 (by omega), by simpa using hcell 6 (by omega)⟩

/-- The slice: where its elements lie. -/
def KeptVal (w : World) (a : Option Addr) (len : Nat) : Prop := len ≤ maxLen ∧ ∃ (kb ko : Nat) (vs : List Int) (Z : Nat → ZH), (0 < len → a = some ⟨kb, ko, none⟩) ∧ KeptAt w kb ko len vs Z

theorem open_kept {H : Type} {enc : TypeId × Value → H} {w : World} {base : Nat} {held : Bool} {fuel : Nat} {a : Option Addr} {len cap : Nat} {x : DataW H × List MemPlace}
    (hf : DataW.trod enc Try.prog w base (fun _ => true) held fuel 24 [.slice a len cap] = some x) : KeptVal w a len := by
  rcases Deep.open_slice Try.underlying24 hf with ⟨hcs, _⟩ | ⟨y, l, c, m, n, D, Pl, hcs, _, hl, hm, hmm, _, hx⟩
  · simp at hcs
    obtain ⟨rfl, rfl, rfl⟩ := hcs
    exact ⟨Nat.zero_le _, 0, 0, [], fun _ => ⟨ByteArray.empty, 0, 0, ByteArray.empty, ByteArray.empty, false, 0⟩, fun h => absurd h (by omega), fun i hi => absurd hi (by omega)⟩
  · simp at hcs
    obtain ⟨rfl, rfl, rfl⟩ := hcs
    refine ⟨by omega, ?_⟩
    simp only [if_true] at hmm
    by_cases h0 : len = 0
    · subst h0
      exact ⟨0, 0, [], fun _ => ⟨ByteArray.empty, 0, 0, ByteArray.empty, ByteArray.empty, false, 0⟩, fun h => absurd h (by omega), fun i hi => absurd hi (by omega)⟩
    · obtain ⟨b, off, spot⟩ := y
      have hspot : spot = none := by
        obtain ⟨cs', h1, h2⟩ := hx 0 (by omega)
        rw [cells30] at h1
        obtain ⟨_, hlen, hc⟩ := World.cells?_some h1
        have hc0 := hc 0 (by omega)
        rw [List.getElem?_eq_getElem (by omega)] at hc0
        simpa [Addr.add] using World.cell?_spot hc0
      subst hspot
      have hall : ∀ i, ∃ p : Int × ZH, i < len → w.cell? ⟨b, off + i * 8, none⟩ = some (.int .u64 p.1) ∧ ZH.ok p.2 ∧ At7 w b (off + i * 8 + 1) p.2 := by
        intro i
        by_cases hi : i < len
        · obtain ⟨cs', h1, h2⟩ := hx i (by omega)
          rw [cells30] at h1
          obtain ⟨v, z, hz, rfl⟩ := open30 h2
          obtain ⟨_, _, hc⟩ := World.cells?_some h1
          rw [add_plain] at hc
          have e : ∀ j, j < 8 → w.cell? ⟨b, off + i * 8 + j, none⟩ = [Value.int .u64 v, .string z.txn, .int .u64 z.term, .int .u64 z.round, .string z.opid, .string z.fin, .bool z.defd, .int .i64 z.quor][j]? := fun j hj => by
            rw [← add_plain]
            exact hc j hj
          refine ⟨(v, z), fun _ => ⟨by simpa using e 0 (by omega), hz, ?_⟩⟩
          exact ⟨by simpa using e 1 (by omega), by simpa using e 2 (by omega), by simpa using e 3 (by omega), by simpa using e 4 (by omega), by simpa using e 5 (by omega), by simpa using e 6 (by omega), by simpa using e 7 (by omega)⟩
        · exact ⟨(0, ⟨ByteArray.empty, 0, 0, ByteArray.empty, ByteArray.empty, false, 0⟩), fun h => absurd h hi⟩
      obtain ⟨f, hff⟩ := Classical.skolem.1 hall
      refine ⟨b, off, (List.range len).map fun i => (f i).1, fun i => (f i).2, fun _ => rfl, fun i hi => ?_⟩
      have e : ((List.range len).map fun i => (f i).1).getD i 0 = (f i).1 := by simp [hi]
      rw [e]
      exact hff i hi

/-! ### STEP 1: THE WALK -/
theorem walk (V : Int) (v1 : Value) (a : Option Addr) (len cap : Nat) (cut q : Int) (w : World) (h1 : HeldVal w v1) (h2 : KeptVal w a len) :
    Calls Try.prog 3 #[.int .u64 V, v1, .slice a len cap, .int .i64 cut, .int .u64 q] w fun e w' => e = .returned (.bool true) ∧ Below w.heap.size w w' := by
  obtain ⟨hl, kb, ko, vs, Z, ha, hk⟩ := h2
  rcases h1 with rfl | ⟨b, o, z, rfl, hz, h7⟩
  · exact split_nil V a kb ko len cap vs Z cut q w hl ha hk
  · exact split_some V b o z a kb ko len cap vs Z cut q w hl ha hz h7 hk

/-! ### THE ROW's STEP -/
set_option maxRecDepth 100000 in
theorem lifted (os : Os) (started : os.Started) (H : Type) (enc : TypeId × Value → H) :
    ReturnsInHanded {} Try.checked os 3 .any (Rows.fnHeldOnSplitsAtAnyCutSpec.pre6 enc Try.prog Try.f3 Rows.fnHeldOnSplitsAtAnyCutRow.domain false) (Rows.fnHeldOnSplitsAtAnyCutSpec.post enc Try.prog Try.f3 false true false false) := by
  refine returnsInHanded_of_change (C := Try.checked) own started (by kernel_rfl) Try.func3
    (ChangeSpec.witness6 (enc := enc) (C := Try.checked) false ⟨#[], #[.int .u64 0, .pointer none, .slice none 0 0, .int .i64 0, .int .u64 0], []⟩ 8 (by kernel_rfl) (by kernel_rfl) (by kernel_rfl) (by kernel_rfl)) ?_
  intro W base args ds gs before hval0 hW hcnd _
  have hval : ∀ (j : Nat) t v, Try.f3.params[j]? = some t → args[j]? = some v → Value.okWide Try.prog W .any base t v := hval0
  have hW' := hW
  obtain ⟨p, q, hA0, hV, rfl, hfz, hnd⟩ := hW
  have hA : DataW.TrodAll enc Try.prog W 0 (fun _ => true) true Try.f3.params.toList args.toList ds p := hA0
  rw [Try.params3] at hA hval
  obtain ⟨v0, vs0, d0, ds0, p0, q0, hargs, rfl, rfl, h0, r0⟩ := trodAll_cons hA
  obtain ⟨v1, vs1, d1, ds1, p1, q1, rfl, rfl, rfl, h1, r1⟩ := trodAll_cons r0
  obtain ⟨v2, vs2, d2, ds2, p2, q2, rfl, rfl, rfl, h2, r2⟩ := trodAll_cons r1
  obtain ⟨v3, vs3, d3, ds3, p3, q3, rfl, rfl, rfl, h3, r3⟩ := trodAll_cons r2
  obtain ⟨v4, vs4, d4, ds4, p4, q4, rfl, rfl, rfl, h4, r4⟩ := trodAll_cons r3
  obtain ⟨rfl, rfl, rfl⟩ := trodAll_nil r4
  obtain rfl : args = #[v0, v1, v2, v3, v4] := by cases args; simp_all
  obtain ⟨rfl, rfl⟩ := trodVars_none hV
  obtain ⟨a0, rfl, rfl, rfl, w0⟩ := open_int Try.underlying22 (hval 0 22 v0 rfl rfl) h0
  have k1 := h1
  have lt1 : ∀ x ∈ p1, x.block < W.heap.size := by obtain ⟨m, hm⟩ := k1; exact DataW.trod_lt m _ _ _ hm
  have hv1 : HeldVal W v1 := open_held (hval 1 23 v1 rfl rfl) h1
  obtain ⟨a2, len2, cap2, rfl⟩ := okWide_slice Try.underlying24 (hval 2 24 v2 rfl rfl)
  have k2 := h2
  have lt2 : ∀ x ∈ p2, x.block < W.heap.size := by obtain ⟨m, hm⟩ := k2; exact DataW.trod_lt m _ _ _ hm
  have hv2 : KeptVal W a2 len2 := by
    obtain ⟨fuel, hf⟩ := h2
    exact open_kept (by simpa [Value.cells] using hf)
  obtain ⟨a3, rfl, rfl, rfl, w3⟩ := open_int Try.underlying3 (hval 3 3 v3 rfl rfl) h3
  obtain ⟨a4, rfl, rfl, rfl, w4⟩ := open_int Try.underlying22 (hval 4 22 v4 rfl rfl) h4
  clear hA0 hval0
  refine (walk a0 v1 a2 len2 cap2 a3 a4 W hv1 hv2).mono fun e W' ⟨he, bel⟩ => ?_
  subst he
  exact ⟨_, rfl, _, _, _, [], _, [], hW', trodAll_mk1 (shut_bool Try.underlying4 _), (trodAll_cons_mk (shut_int Try.underlying22 w0) (trodAll_cons_mk (Below.trod laidOut (by kernel_rfl) (of_decide_eq_true (by kernel_rfl)) k1 bel lt1) (trodAll_cons_mk (Below.trod laidOut (by kernel_rfl) (of_decide_eq_true (by kernel_rfl)) k2 bel lt2) (trodAll_cons_mk (shut_int Try.underlying3 w3) (trodAll_cons_mk (shut_int Try.underlying22 w4) trodAll_mk0))))), rfl, bel.frame _, fun h => by cases h⟩

theorem over : Rows.fnHeldOnSplitsAtAnyCutRow.holds Try.pinned (OpenSpec.ofChange Rows.fnHeldOnSplitsAtAnyCutSpec) :=
  OpenClaim.holds_of_wide 3 Try.f3 rfl rfl rfl rfl rfl rfl rfl ⟨rfl, rfl, rfl, rfl, rfl⟩ rfl rfl rfl rfl rfl (by kernel_rfl) Try.func3 (by kernel_rfl)
    (of_decide_eq_true (by kernel_rfl)) (by unfold Func.isWrapper; first | (rw [if_pos (by decide +kernel)]; kernel_rfl) | (rw [if_neg (by decide +kernel)]; exact ⟨rfl, rfl⟩))
    (fun os started H enc _ => lifted os started H enc)

/-- THE STATEMENT -/
theorem proved : Rows.FnHeldOnSplitsAtAnyCutSaid := over
end Go.Proofs.Qxb6617282a.fnHeldOnSplitsAtAnyCut

namespace Go.Proofs.Qxb6617282a
theorem fnHeldOnSplitsAtAnyCut_proved : Rows.FnHeldOnSplitsAtAnyCutSaid := fnHeldOnSplitsAtAnyCut.proved
end Go.Proofs.Qxb6617282a
