/-
  THE SLICE ks THAT THE LAW MAKES, AS MEMORY; THE PLAIN LAW OF 'find'.
-/
import Derived.Test.Qxb6617282aKept
import Derived.Deep.MidRow
import Derived.LaidEqlPtr
import Derived.Lib.Builder
import Derived.Laws.Pointers
namespace Go.Proofs.Qxb6617282a
open Go.RowKit

/-- Block g holds room for len entries of fifteen cells; the first k of them bear their versions. -/
def KsAt (w : World) (g len k : Nat) (vs : List Int) : Prop :=
  (∀ j, j < len * 15 → (w.cell? ⟨g, j, none⟩).isSome = true ∧ w.frozen? ⟨g, j, none⟩ = false) ∧ ∀ i, i < k → w.cell? ⟨g, i * 15, none⟩ = some (.int .u64 (vs.getD i 0))

theorem KsAt.below {B : Nat} {w w' : World} {g len k : Nat} {vs : List Int} (h : KsAt w g len k vs) (hb : Below B w w') (hg : g < B) : KsAt w' g len k vs :=
  ⟨fun j hj => by rw [hb.cell (p := ⟨g, j, none⟩) hg, hb.frozen (p := ⟨g, j, none⟩) hg]; exact h.1 j hj, fun i hi => (hb.cell (p := ⟨g, i * 15, none⟩) hg).trans (h.2 i hi)⟩

theorem KsAt.there {w : World} {g len k : Nat} {vs : List Int} (h : KsAt w g len k vs) (i : Nat) (hi : i < len) : w.there g (i * 15) 15 :=
  fun j hj => h.1 (i * 15 + j) (by omega)

theorem KsAt.store {w : World} {g len k : Nat} {vs : List Int} (h : KsAt w g len k vs) (hk : k < len) (cells : List Value) (hc : cells.length = 15) (h0 : cells[0]? = some (.int .u64 (vs.getD k 0))) :
    KsAt (w.setCells g (k * 15) cells) g len (k + 1) vs := by
  have ht := h.there k hk
  refine ⟨fun j hj => ⟨World.isSome_setCells g cells (k * 15) w _ (h.1 j hj).1, by rw [World.frozen?_setCells]; exact (h.1 j hj).2⟩, fun i hi => ?_⟩
  by_cases e : i = k
  · subst e
    have := World.cell?_setCells_in g cells (i * 15) w (fun j hj => (ht j (by omega)).1) 0 (by omega)
    rw [Nat.add_zero] at this
    rw [this, ← h0, List.getElem?_eq_getElem (by omega)]
  · rw [World.cell?_setCells_out g cells (k * 15) w ⟨g, i * 15, none⟩ (fun _ _ => by dsimp only; omega)]
    exact h.2 i (by omega)

theorem below_setCells {B : Nat} {a : World} (g : Nat) (hg : B ≤ g) : ∀ (cells : List Value) (o : Nat) (w : World), Below B a w → Below B a (w.setCells g o cells)
  | [], _, _, h => h
  | v :: r, o, _, h => below_setCells g hg r (o + 1) _ (h.setCell (p := ⟨g, o, none⟩) hg v)

/-- What is as it was since a draw is as it was before it. -/
theorem below_of_drew {B : Nat} {w w' : World} (h : Below B w.drew w') : Below B w w' := ⟨h.os, h.tape, h.output, h.size, h.block⟩

/-- Out of the law on make. -/
theorem ksAt_made {w : World} {base g len : Nat} {xs : List Value} (vs : List Int) (h : w.ownsRow base 46 15 (.slice (some ⟨g, 0, none⟩) len len) len xs) : KsAt w g len 0 vs := by
  refine ⟨fun j hj => ?_, fun i hi => absurd hi (by omega)⟩
  have hx : xs.length = len * 15 := h.1
  rw [h.cellAt j hj, List.getElem?_eq_getElem (by omega)]
  exact ⟨rfl, h.frozenAt j⟩

/-- The fifteen cells of entry j are there, and may be written. -/
theorem KsAt.cells15 {w : World} {g len k j : Nat} {vs : List Int} (h : KsAt w g len k vs) (hj : j < len) :
    ∃ u0 u1 u2 u3 u4 u5 u6 u7 u8 u9 u10 u11 u12 u13 u14, w.cell? ⟨g, j * 15, none⟩ = some u0 ∧ w.cell? ⟨g, j * 15 + 1, none⟩ = some u1 ∧ w.cell? ⟨g, j * 15 + 2, none⟩ = some u2 ∧ w.cell? ⟨g, j * 15 + 3, none⟩ = some u3 ∧ w.cell? ⟨g, j * 15 + 4, none⟩ = some u4 ∧ w.cell? ⟨g, j * 15 + 5, none⟩ = some u5 ∧ w.cell? ⟨g, j * 15 + 6, none⟩ = some u6 ∧ w.cell? ⟨g, j * 15 + 7, none⟩ = some u7 ∧ w.cell? ⟨g, j * 15 + 8, none⟩ = some u8 ∧ w.cell? ⟨g, j * 15 + 9, none⟩ = some u9 ∧ w.cell? ⟨g, j * 15 + 10, none⟩ = some u10 ∧ w.cell? ⟨g, j * 15 + 11, none⟩ = some u11 ∧ w.cell? ⟨g, j * 15 + 12, none⟩ = some u12 ∧ w.cell? ⟨g, j * 15 + 13, none⟩ = some u13 ∧ w.cell? ⟨g, j * 15 + 14, none⟩ = some u14 ∧ w.frozen? ⟨g, j * 15, none⟩ = false ∧ w.frozen? ⟨g, j * 15 + 1, none⟩ = false ∧ w.frozen? ⟨g, j * 15 + 2, none⟩ = false ∧ w.frozen? ⟨g, j * 15 + 3, none⟩ = false ∧ w.frozen? ⟨g, j * 15 + 4, none⟩ = false ∧ w.frozen? ⟨g, j * 15 + 5, none⟩ = false ∧ w.frozen? ⟨g, j * 15 + 6, none⟩ = false ∧ w.frozen? ⟨g, j * 15 + 7, none⟩ = false ∧ w.frozen? ⟨g, j * 15 + 8, none⟩ = false ∧ w.frozen? ⟨g, j * 15 + 9, none⟩ = false ∧ w.frozen? ⟨g, j * 15 + 10, none⟩ = false ∧ w.frozen? ⟨g, j * 15 + 11, none⟩ = false ∧ w.frozen? ⟨g, j * 15 + 12, none⟩ = false ∧ w.frozen? ⟨g, j * 15 + 13, none⟩ = false ∧ w.frozen? ⟨g, j * 15 + 14, none⟩ = false := by
  obtain ⟨u0, e0⟩ := Option.isSome_iff_exists.1 (h.1 (j * 15) (by omega)).1
  obtain ⟨u1, e1⟩ := Option.isSome_iff_exists.1 (h.1 (j * 15 + 1) (by omega)).1
  obtain ⟨u2, e2⟩ := Option.isSome_iff_exists.1 (h.1 (j * 15 + 2) (by omega)).1
  obtain ⟨u3, e3⟩ := Option.isSome_iff_exists.1 (h.1 (j * 15 + 3) (by omega)).1
  obtain ⟨u4, e4⟩ := Option.isSome_iff_exists.1 (h.1 (j * 15 + 4) (by omega)).1
  obtain ⟨u5, e5⟩ := Option.isSome_iff_exists.1 (h.1 (j * 15 + 5) (by omega)).1
  obtain ⟨u6, e6⟩ := Option.isSome_iff_exists.1 (h.1 (j * 15 + 6) (by omega)).1
  obtain ⟨u7, e7⟩ := Option.isSome_iff_exists.1 (h.1 (j * 15 + 7) (by omega)).1
  obtain ⟨u8, e8⟩ := Option.isSome_iff_exists.1 (h.1 (j * 15 + 8) (by omega)).1
  obtain ⟨u9, e9⟩ := Option.isSome_iff_exists.1 (h.1 (j * 15 + 9) (by omega)).1
  obtain ⟨u10, e10⟩ := Option.isSome_iff_exists.1 (h.1 (j * 15 + 10) (by omega)).1
  obtain ⟨u11, e11⟩ := Option.isSome_iff_exists.1 (h.1 (j * 15 + 11) (by omega)).1
  obtain ⟨u12, e12⟩ := Option.isSome_iff_exists.1 (h.1 (j * 15 + 12) (by omega)).1
  obtain ⟨u13, e13⟩ := Option.isSome_iff_exists.1 (h.1 (j * 15 + 13) (by omega)).1
  obtain ⟨u14, e14⟩ := Option.isSome_iff_exists.1 (h.1 (j * 15 + 14) (by omega)).1
  exact ⟨u0, u1, u2, u3, u4, u5, u6, u7, u8, u9, u10, u11, u12, u13, u14, e0, e1, e2, e3, e4, e5, e6, e7, e8, e9, e10, e11, e12, e13, e14, (h.1 (j * 15) (by omega)).2, (h.1 (j * 15 + 1) (by omega)).2, (h.1 (j * 15 + 2) (by omega)).2, (h.1 (j * 15 + 3) (by omega)).2, (h.1 (j * 15 + 4) (by omega)).2, (h.1 (j * 15 + 5) (by omega)).2, (h.1 (j * 15 + 6) (by omega)).2, (h.1 (j * 15 + 7) (by omega)).2, (h.1 (j * 15 + 8) (by omega)).2, (h.1 (j * 15 + 9) (by omega)).2, (h.1 (j * 15 + 10) (by omega)).2, (h.1 (j * 15 + 11) (by omega)).2, (h.1 (j * 15 + 12) (by omega)).2, (h.1 (j * 15 + 13) (by omega)).2, (h.1 (j * 15 + 14) (by omega)).2⟩

theorem setCells_size (g : Nat) : ∀ (cells : List Value) (o : Nat) (w : World), (w.setCells g o cells).heap.size = w.heap.size
  | [], _, _ => rfl
  | v :: r, o, w => by
    rw [World.setCells, setCells_size g r (o + 1)]
    simp

/-- The fifteen stores of an entry, one behind the other. -/
theorem KsAt.store15 {B : Nat} {a w : World} {g len k : Nat} {vs : List Int} {c0 c1 c2 c3 c4 c5 c6 c7 c8 c9 c10 c11 c12 c13 c14 : Value} (h : KsAt w g len k vs) (hk : k < len) (h0 : c0 = .int .u64 (vs.getD k 0)) (hb : Below B a w) (hB : B ≤ g) (hg : g < w.heap.size) :
    KsAt (((((((((((((((w.setCell ⟨g, k * 15, none⟩ c0).setCell ⟨g, k * 15 + 1, none⟩ c1).setCell ⟨g, k * 15 + 2, none⟩ c2).setCell ⟨g, k * 15 + 3, none⟩ c3).setCell ⟨g, k * 15 + 4, none⟩ c4).setCell ⟨g, k * 15 + 5, none⟩ c5).setCell ⟨g, k * 15 + 6, none⟩ c6).setCell ⟨g, k * 15 + 7, none⟩ c7).setCell ⟨g, k * 15 + 8, none⟩ c8).setCell ⟨g, k * 15 + 9, none⟩ c9).setCell ⟨g, k * 15 + 10, none⟩ c10).setCell ⟨g, k * 15 + 11, none⟩ c11).setCell ⟨g, k * 15 + 12, none⟩ c12).setCell ⟨g, k * 15 + 13, none⟩ c13).setCell ⟨g, k * 15 + 14, none⟩ c14) g len (k + 1) vs ∧ Below B a (((((((((((((((w.setCell ⟨g, k * 15, none⟩ c0).setCell ⟨g, k * 15 + 1, none⟩ c1).setCell ⟨g, k * 15 + 2, none⟩ c2).setCell ⟨g, k * 15 + 3, none⟩ c3).setCell ⟨g, k * 15 + 4, none⟩ c4).setCell ⟨g, k * 15 + 5, none⟩ c5).setCell ⟨g, k * 15 + 6, none⟩ c6).setCell ⟨g, k * 15 + 7, none⟩ c7).setCell ⟨g, k * 15 + 8, none⟩ c8).setCell ⟨g, k * 15 + 9, none⟩ c9).setCell ⟨g, k * 15 + 10, none⟩ c10).setCell ⟨g, k * 15 + 11, none⟩ c11).setCell ⟨g, k * 15 + 12, none⟩ c12).setCell ⟨g, k * 15 + 13, none⟩ c13).setCell ⟨g, k * 15 + 14, none⟩ c14) ∧ g < (((((((((((((((w.setCell ⟨g, k * 15, none⟩ c0).setCell ⟨g, k * 15 + 1, none⟩ c1).setCell ⟨g, k * 15 + 2, none⟩ c2).setCell ⟨g, k * 15 + 3, none⟩ c3).setCell ⟨g, k * 15 + 4, none⟩ c4).setCell ⟨g, k * 15 + 5, none⟩ c5).setCell ⟨g, k * 15 + 6, none⟩ c6).setCell ⟨g, k * 15 + 7, none⟩ c7).setCell ⟨g, k * 15 + 8, none⟩ c8).setCell ⟨g, k * 15 + 9, none⟩ c9).setCell ⟨g, k * 15 + 10, none⟩ c10).setCell ⟨g, k * 15 + 11, none⟩ c11).setCell ⟨g, k * 15 + 12, none⟩ c12).setCell ⟨g, k * 15 + 13, none⟩ c13).setCell ⟨g, k * 15 + 14, none⟩ c14).heap.size := by
  have e : (((((((((((((((w.setCell ⟨g, k * 15, none⟩ c0).setCell ⟨g, k * 15 + 1, none⟩ c1).setCell ⟨g, k * 15 + 2, none⟩ c2).setCell ⟨g, k * 15 + 3, none⟩ c3).setCell ⟨g, k * 15 + 4, none⟩ c4).setCell ⟨g, k * 15 + 5, none⟩ c5).setCell ⟨g, k * 15 + 6, none⟩ c6).setCell ⟨g, k * 15 + 7, none⟩ c7).setCell ⟨g, k * 15 + 8, none⟩ c8).setCell ⟨g, k * 15 + 9, none⟩ c9).setCell ⟨g, k * 15 + 10, none⟩ c10).setCell ⟨g, k * 15 + 11, none⟩ c11).setCell ⟨g, k * 15 + 12, none⟩ c12).setCell ⟨g, k * 15 + 13, none⟩ c13).setCell ⟨g, k * 15 + 14, none⟩ c14) = w.setCells g (k * 15) [c0, c1, c2, c3, c4, c5, c6, c7, c8, c9, c10, c11, c12, c13, c14] := rfl
  rw [e]
  exact ⟨h.store hk [c0, c1, c2, c3, c4, c5, c6, c7, c8, c9, c10, c11, c12, c13, c14] rfl (by rw [h0]; rfl), below_setCells g hB _ _ _ hb, by rw [setCells_size]; exact hg⟩

theorem info46 : (Try.prog.info? 46).map (fun i => (i.zero, i.size, i.bytes)) = some (some (.agg #[.int .u64 0, .string ⟨#[]⟩, .int .u64 0, .int .u64 0, .string ⟨#[]⟩, .slice none 0 0, .slice none 0 0, .pointer none, .pointer none, .string ⟨#[]⟩, .pointer none, .slice none 0 0, .string ⟨#[]⟩, .bool false, .int .i64 0]), 15, 200) := by kernel_rfl

/-! ### find, cut in two -/
theorem find_succ (vs : List Int) (q : Int) (lo n : Nat) : find vs q lo (n + 1) = if vs.getD lo 0 = q then some lo else find vs q (lo + 1) n := rfl

theorem find_split (vs : List Int) (q : Int) : ∀ (c d lo : Nat), find vs q lo (c + d) = (match find vs q lo c with | some i => some i | none => find vs q (lo + c) d)
  | 0, d, lo => by simp [find]
  | c + 1, d, lo => by
    rw [show c + 1 + d = (c + d) + 1 by omega, find_succ, find_succ]
    by_cases e : vs.getD lo 0 = q
    · rw [if_pos e, if_pos e]
    · rw [if_neg e, if_neg e, find_split vs q c d (lo + 1), show lo + 1 + c = lo + (c + 1) by omega]

theorem find_one (vs : List Int) (q : Int) (lo : Nat) : find vs q lo 1 = if vs.getD lo 0 = q then some lo else none := by
  simp [find]

/-- HeldOn at another version, over a part of ks. -/
theorem heldOn_any (V q : Int) (hV : ¬ V = q) (hp a : Option Addr) (g lo n c : Nat) (vs : List Int) (w : World) (hn : n ≤ 1048576) (ha : 0 < n → a = some ⟨g, lo * 15, none⟩)
    (hc : ∀ i, i < n → w.cell? ⟨g, (lo + i) * 15, none⟩ = some (.int .u64 (vs.getD (lo + i) 0))) :
    Calls Try.prog 9 #[answer V hp a n c, .int .u64 q] w fun e w' => e = .returned (.pointer ((find vs q lo n).map fun i => ⟨g, i * 15 + 1, none⟩)) ∧ Below w.heap.size w w' := by
  by_cases h0 : n = 0
  · subst h0
    exact heldOn_nil V q hV hp a c w
  · rw [ha (by omega)]
    exact heldOn_some V q hV hp g (lo * 15) lo n c vs w hn rfl (fun i hi => by rw [show lo * 15 + i * 15 = (lo + i) * 15 by omega]; exact hc i hi)

theorem KsAt.part {w : World} {g len : Nat} {vs : List Int} (h : KsAt w g len len vs) (lo n : Nat) (hn : lo + n ≤ len) : ∀ i, i < n → w.cell? ⟨g, (lo + i) * 15, none⟩ = some (.int .u64 (vs.getD (lo + i) 0)) :=
  fun i hi => h.2 (lo + i) (by omega)

/-- A variable of seven cells that was made ahead of a call reads as it did. -/
theorem box7 {W w' : World} {B b : Nat} {v0 v1 v2 v3 v4 v5 v6 : Value} (hb : Below B (W.alloc (.cells #[v0, v1, v2, v3, v4, v5, v6] 49)) w') (hB : W.heap.size < B) (e : W.heap.size = b) :
    w'.cell? ⟨b, 0, none⟩ = some v0 ∧ w'.cell? ⟨b, 1, none⟩ = some v1 ∧ w'.cell? ⟨b, 2, none⟩ = some v2 ∧ w'.cell? ⟨b, 3, none⟩ = some v3 ∧ w'.cell? ⟨b, 4, none⟩ = some v4 ∧ w'.cell? ⟨b, 5, none⟩ = some v5 ∧ w'.cell? ⟨b, 6, none⟩ = some v6 := by
  subst e
  refine ⟨?_, ?_, ?_, ?_, ?_, ?_, ?_⟩ <;> (rw [hb.cell (by exact hB)]; simp [go_sem])

/-- The world behind the second loop: ks is full; nothing that was there has turned. -/
def KS (w : World) (g len : Nat) (vs : List Int) (W : World) : Prop := KsAt W g len len vs ∧ Below w.heap.size w W ∧ g < W.heap.size

theorem KS.call {w W W' : World} {g len : Nat} {vs : List Int} (h : KS w g len vs W) (hb : Below W.heap.size W W') : KS w g len vs W' :=
  ⟨h.1.below hb h.2.2, h.2.1.trans (hb.mono h.2.1.size), Nat.lt_of_lt_of_le h.2.2 hb.size⟩
theorem KS.alloc {w W : World} {g len : Nat} {vs : List Int} (h : KS w g len vs W) (o : Obj) : KS w g len vs (W.alloc o) := h.call ((Below.refl _ _).alloc (Nat.le_refl _) o)
theorem KS.drew {w W : World} {g len : Nat} {vs : List Int} (h : KS w g len vs W) : KS w g len vs W.drew := h.call ((Below.refl _ _).drew)
theorem KS.drewN {w W : World} {g len : Nat} {vs : List Int} (h : KS w g len vs W) (n : Nat) : KS w g len vs (W.drewN n) := by
  induction n with
  | zero => exact h
  | succ n ih => exact ih.drew
theorem KS.part {w W : World} {g len : Nat} {vs : List Int} (h : KS w g len vs W) (lo n : Nat) (hn : lo + n ≤ len) : ∀ i, i < n → W.cell? ⟨g, (lo + i) * 15, none⟩ = some (.int .u64 (vs.getD (lo + i) 0)) := h.1.part lo n hn

theorem info42 : ∃ i, Try.prog.info? 42 = some i := by
  have h : (Try.prog.info? 42).isSome = true := by kernel_rfl
  exact Option.isSome_iff_exists.1 h

/-- A pointer against itself. -/
theorem neq31 (p : Option Addr) (w : World) : (binOp .neq 31 (.pointer p) (.pointer p)).run Try.prog w = .ok (.bool false) w := by
  obtain ⟨i, hi⟩ := info42
  cases p with
  | none => exact run_neq_pointer_nil w 31 none Try.underlying31
  | some a => exact Lib.run_neq_ptr_same w a Try.underlying31 hi
theorem eql31 (p : Option Addr) (w : World) : (binOp .eql 31 (.pointer p) (.pointer p)).run Try.prog w = .ok (.bool true) w := by
  obtain ⟨i, hi⟩ := info42
  cases p with
  | none => exact run_eql_pointer_nil w 31 none Try.underlying31
  | some a => exact run_eql_ptr_same w a Try.underlying31 hi

/-- HeldOn over the one entry at the cut, asked of that entry's own version. -/
theorem one_own (V o : Int) (hV : ¬ V = o) (hp : Option Addr) (g c len cap : Nat) (vs : List Int) (w W : World) (hK : KS w g len vs W) (hcc : c < len) (ho : o = vs.getD c 0) :
    Calls Try.prog 9 #[answer V hp (some ⟨g, c * 15, none⟩) 1 cap, .int .u64 o] W fun e w' => e = .returned (.pointer (some ⟨g, c * 15 + 1, none⟩)) ∧ Below W.heap.size W w' := by
  have h := heldOn_any V o hV hp (some ⟨g, c * 15, none⟩) g c 1 cap vs W (by omega) (fun _ => rfl) (hK.part c 1 (by omega))
  rw [find_one, if_pos ho.symm] at h
  exact h

/-- .. asked of another version. -/
theorem one_other (V q : Int) (hV : ¬ V = q) (hp : Option Addr) (g c len cap : Nat) (vs : List Int) (w W : World) (hK : KS w g len vs W) (hcc : c < len) (ho : ¬ vs.getD c 0 = q) :
    Calls Try.prog 9 #[answer V hp (some ⟨g, c * 15, none⟩) 1 cap, .int .u64 q] W fun e w' => e = .returned (.pointer none) ∧ Below W.heap.size W w' := by
  have h := heldOn_any V q hV hp (some ⟨g, c * 15, none⟩) g c 1 cap vs W (by omega) (fun _ => rfl) (hK.part c 1 (by omega))
  rw [find_one, if_neg ho] at h
  exact h
end Go.Proofs.Qxb6617282a
