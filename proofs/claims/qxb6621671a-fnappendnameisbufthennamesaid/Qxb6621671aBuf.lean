import Derived.Test.Qxb6621671aClone
import Derived.Deep.QuietTactic
import Derived.BigQuiet
import Derived.Outline
namespace Go.Proofs.Qxb6621671a
open Go.RowKit

/-- zzBytes_FnAppendNameIsBufThenName answers some bool. -/
theorem bytes6 (a : Option Addr) (len cap : Nat) (s y : ByteArray) (b : Bool) (w : World) (hl : len ≤ maxLen) (hs : s.size ≤ maxLen) (hy : y.size ≤ maxLen) :
    Calls Try.prog 6 #[.slice a len cap, .string s, .string y, .bool b] w fun e w' => ∃ r : Bool, e = .returned (.bool r) ∧ w = w' := by
  unfold maxLen at hl hs hy
  go_enter Try.func6, Try.ntmps6
  go_wp2
  all_goals (go_ret; exact ⟨_, rfl, rfl⟩)

theorem nameS_size (s y : ByteArray) : (nameS s y true).size = s.size + (1 + y.size) := by
  unfold nameS nameL ByteArray.size
  simp
  omega

/-- The name's bytes, as numbers. -/
def nameI (s y : ByteArray) (b : Bool) : List Int := (nameL s.data.toList y.data.toList b).map fun c => (c.toNat : Int)

theorem nameI_length (s y : ByteArray) (b : Bool) : (nameI s y b).length = (nameS s y b).size := by
  unfold nameI nameS ByteArray.size
  simp

theorem nameI_get (s y : ByteArray) (b : Bool) (k : Nat) (h : k < (nameS s y b).size) : (nameI s y b).getD k 0 = ((nameS s y b)[k].toNat : Int) := by
  have h' : k < (nameL s.data.toList y.data.toList b).length := by
    have e := nameI_length s y b
    unfold nameI at e
    simp at e
    omega
  show _ = (((nameL s.data.toList y.data.toList b).toArray[k]'(by simpa using h')).toNat : Int)
  simp [nameI, h']

theorem getD_behind (zs os : List Int) (len k : Nat) (hz : zs.length = len) : (zs ++ os).getD (len + k) 0 = os.getD k 0 := by
  have e : ¬ (len + k < len) := by omega
  simp [List.getElem?_append, hz, e]

theorem nameS_front (s y : ByteArray) (b : Bool) (k : Nat) (h : k < (nameS s y b).size) (hk : k < s.size) : (nameS s y b)[k] = s[k] := by
  show (nameL s.data.toList y.data.toList b).toArray[k]'h = s.data[k]
  cases b
  · simp [nameL]
  · have e : k < s.data.toList.length := hk
    simp only [nameL, if_true, List.getElem_toArray]
    rw [List.getElem_append_left e, Array.getElem_toList]

theorem nameS_back (s y : ByteArray) (k : Nat) (h : s.size + 1 + k < (nameS s y true).size) (hk : k < y.size) : (nameS s y true)[s.size + 1 + k] = y[k] := by
  show (nameL s.data.toList y.data.toList true).toArray[s.size + 1 + k]'h = y.data[k]
  have e : s.data.toList.length = s.size := rfl
  simp only [nameL, if_true, List.getElem_toArray]
  rw [List.getElem_append_right (by omega)]
  have e2 : s.size + 1 + k - s.data.toList.length = k + 1 := by omega
  simp only [e2, List.getElem_cons_succ, Array.getElem_toList]

/-- 'name[off+k]', off behind the colon. -/
theorem run_name_back (s y : ByteArray) (k : Nat) (hk : k < y.size) (w : World) :
    (Instr.index 9 (.string (nameS s y true)) (.int .i64 ((s.size : Int) + 1 + (k : Int)))).run Try.prog w = .ok (.int .u8 (y[k].toNat : Int)) w := by
  have h : s.size + 1 + k < (nameS s y true).size := by rw [nameS_size]; omega
  have e : ((s.size : Int) + 1 + (k : Int)).toNat = s.size + 1 + k := by omega
  rw [run_index_string w 9 (nameS s y true) .i64 _ Try.underlying9, dif_pos ⟨by omega, by rw [nameS_size]; omega⟩]
  simp only [e, nameS_back s y k h hk]

/-- AppendName, either way, onto a row of bytes that the call owns. -/
theorem append_any (base : Nat) (v : Value) (n : Nat) (zs : List Int) (s y : ByteArray) (b : Bool) (w : World) (hown : w.ownsRow base 5 1 v n (zs.map (Value.int .u8))) (hb : base ≤ w.heap.size)
    (hn : n + s.size + 1 + y.size ≤ 4294967296) :
    Calls Try.prog 8 #[v, .string s, .string y, .bool b] w fun e w' => ∃ v', e = .returned v' ∧ w'.ownsRow base 5 1 v' (n + (nameS s y b).size) ((zs ++ nameI s y b).map (Value.int .u8)) ∧ Below base w w' := by
  cases b
  · refine (append_off base v n _ s y w hown hb (by omega)).mono ?_
    rintro e w' ⟨v', rfl, h, hb'⟩
    refine ⟨v', rfl, ?_, hb'⟩
    have e1 : (zs ++ nameI s y false).map (Value.int .u8) = zs.map (Value.int .u8) ++ Lib.strCells s := by
      simp [nameI, nameL, strCells_eq]
    rw [e1, nameS_off]
    exact h
  · refine (append_on base v n _ s y w hown hb hn).mono ?_
    rintro e w' ⟨v', rfl, h, hb'⟩
    refine ⟨v', rfl, ?_, hb'⟩
    have e1 : (zs ++ nameI s y true).map (Value.int .u8) = zs.map (Value.int .u8) ++ Lib.strCells s ++ [.int .u8 58] ++ Lib.strCells y := by
      simp [nameI, nameL, strCells_eq]
      rfl
    have e2 : n + (nameS s y true).size = n + s.size + 1 + y.size := by rw [nameS_size]; omega
    rw [e1, e2]
    exact h

/-- A value that owns a row is a slice of that length; where it is not empty it begins at the head of a block. -/
theorem own_shape {w : World} {base : Nat} {v : Value} {n : Nat} {zs : List Int} (h : w.ownsRow base 5 1 v n (zs.map (Value.int .u8))) :
    ∃ (a : Option Addr) (g cap : Nat), v = .slice a n cap ∧ (0 < n → a = some ⟨g, 0, none⟩) ∧ ∀ i, i < n → w.cell? ⟨g, i, none⟩ = some (.int .u8 (zs.getD i 0)) := by
  have hz : zs.length = n := by simpa using h.1
  rcases h.2 with ⟨rfl, h0⟩ | ⟨g, cap, cur, rfl, _⟩
  · subst h0
    exact ⟨none, 0, 0, rfl, fun h => absurd h (by omega), fun i hi => absurd hi (by omega)⟩
  · refine ⟨some ⟨g, 0, none⟩, g, cap, rfl, fun _ => rfl, fun i hi => ?_⟩
    have := h.cells (g := g) rfl i _ (List.getElem?_eq_getElem (by simp [hz, hi]))
    rw [WideShapes.add_plain, Nat.zero_add] at this
    rw [this]
    simp [hz, hi]

/-- What the loops read: the copy of the buffer in block g1, the answer in block g3; nothing old has turned. -/
def St (w : World) (g1 g3 len n3 : Nat) (zs os : List Int) (wr : World) : Prop :=
  (∀ i, i < len → wr.cell? ⟨g1, i, none⟩ = some (.int .u8 (zs.getD i 0))) ∧ (∀ i, i < n3 → wr.cell? ⟨g3, i, none⟩ = some (.int .u8 (os.getD i 0))) ∧ Below w.heap.size w wr

theorem St.drewN {w : World} {g1 g3 len n3 : Nat} {zs os : List Int} {wr : World} (h : St w g1 g3 len n3 zs os wr) (n : Nat) : St w g1 g3 len n3 zs os (wr.drewN n) := by
  induction n with
  | zero => exact h
  | succ n ih => exact ⟨fun i hi => by simpa using ih.1 i hi, fun i hi => by simpa using ih.2.1 i hi, ih.2.2.drew⟩

theorem buf_on (a : Option Addr) (len cap : Nat) (zs : List Int) (s y : ByteArray) (w : World) (hl : len ≤ 262144) (hs : s.size ≤ 262144) (hy : y.size ≤ 262144) (hrow : Row8 w (.slice a len cap) len zs) :
    Calls Try.prog 3 #[.slice a len cap, .string s, .string y, .bool true] w fun e w' => e = .returned (.bool true) ∧ Below w.heap.size w w' := by
  have hsz := nameS_size s y
  have HR : Hid (Row8 w (.slice a len cap) len zs) := hrow
  clear hrow
  go_enter Try.func3, Try.ntmps3
  go_wp2_with (go_at_call 6; refine (bytes6 _ _ _ _ _ _ _ (by unfold maxLen; omega) (by unfold maxLen; omega) (by unfold maxLen; omega)).mono ?_; rintro e w' ⟨r, rfl, rfl⟩)
  · go_ret
    exact ⟨rfl, Below.refl _ _⟩
  · refine (clone_any _ len zs _ (by omega) HR.out).mono ?_
    rintro e w1 ⟨v1, rfl, hown1, hb1⟩
    obtain ⟨a1, g1, c1, rfl, ha1, hc1⟩ := own_shape hown1
    have r1 := row8_of_own hown1
    have HC1 : Hid (∀ i, i < len → w1.cell? ⟨g1, i, none⟩ = some (.int .u8 (zs.getD i 0))) := hc1
    clear hc1 hown1
    go_wp2_with fail
    refine (clone_any _ len zs _ (by omega) r1).mono ?_
    rintro e w2 ⟨v2, rfl, hown2, hb2⟩
    go_wp2_with fail
    refine (append_any w1.heap.size v2 len zs s y true _ hown2 hb2.size (by omega)).mono ?_
    rintro e w3 ⟨v3, rfl, hown3, hb3⟩
    obtain ⟨a3, g3, c3, rfl, ha3, hc3⟩ := own_shape hown3
    have HC3 : Hid (∀ i, i < len + (nameS s y true).size → w3.cell? ⟨g3, i, none⟩ = some (.int .u8 ((zs ++ nameI s y true).getD i 0))) := hc3
    clear hc3 hown3 hown2
    go_wp2_with fail
    refine (name_any _ _ _ _ (by omega)).mono ?_
    rintro e w4 ⟨rfl, hb4⟩
    have z4 : zs.length = len := by
      rcases HR.out with ⟨_, h2, h3⟩ | ⟨x, c, _, h2, _⟩
      · rw [h2, h3]; rfl
      · exact h2
    have s2 := hb2.size
    have s3 := hb3.size
    have s1 := hb1.size
    have ST : St w g1 g3 len (len + (s.size + (1 + y.size))) zs (zs ++ nameI s y true) w4 := by
      refine ⟨fun i hi => ?_, fun i hi => ?_, ?_⟩
      · have c0 := HC1.out i hi
        have l0 := World.block_lt_of_cell? w1 _ c0
        exact ((hb4.cell (by exact Nat.lt_of_lt_of_le l0 (by omega))).trans ((hb3.cell (by exact l0)).trans (hb2.cell (by exact l0)))).trans c0
      · have c0 := HC3.out i (by rw [hsz]; exact hi)
        exact (hb4.cell (by exact World.block_lt_of_cell? w3 _ c0)).trans c0
      · exact ((hb1.trans (hb2.mono s1)).trans (hb3.mono s1)).trans (hb4.mono (by omega))
    clear HC1 HC3 hb1 hb2 hb3 hb4 r1 s1 s2 s3 HR
    go_wp2_with fail
    go_loopw [12] (fun i wr => ∃ k : Nat, k ≤ len ∧ i = .int .i64 k ∧ St w g1 g3 len (len + (s.size + (1 + y.size))) zs (zs ++ nameI s y true) wr) (fun i _ => len - (intOf i).toNat)
    case atStart => exact ⟨0, Nat.zero_le _, rfl, ST⟩
    case round =>
      obtain ⟨k, hk, rfl, hst⟩ := hrel
      clear ST
      by_cases hlt : k < len
      · have e1 := ha1 (by omega)
        have e3 := ha3 (by omega)
        subst e1
        subst e3
        obtain ⟨z, h1, h2⟩ : ∃ z, wr.cell? ⟨g3, k, none⟩ = some (.int .u8 z) ∧ wr.cell? ⟨g1, k, none⟩ = some (.int .u8 z) :=
          ⟨zs.getD k 0, by rw [hst.2.1 k (by omega)]; simp [List.getElem?_append, z4, hlt], hst.1 k hlt⟩
        have b1 : (k : Int) < (len : Int) := by omega
        have b3 : (k : Int) < ((len + (s.size + (1 + y.size)) : Nat) : Int) := by omega
        have b0 : (0 : Int) ≤ (k : Int) := by omega
        go_wp2
        go_quiet (fail)
        go_wp2
        go_roundw
        case rel => exact ⟨k + 1, by omega, by go_num, hst.drewN _⟩
        case measure => simp [intOf]; omega
      · go_wp2
        clear hk hlt
        go_loopw [13] (fun i wr => ∃ k : Nat, k ≤ s.size + (1 + y.size) ∧ i = .int .i64 k ∧ St w g1 g3 len (len + (s.size + (1 + y.size))) zs (zs ++ nameI s y true) wr) (fun i _ => s.size + (1 + y.size) - (intOf i).toNat)
        case atStart => exact ⟨0, Nat.zero_le _, rfl, hst⟩
        case round =>
          obtain ⟨k, hk, rfl, hst⟩ := hrel
          by_cases hlt : k < s.size + (1 + y.size)
          · have e3 := ha3 (by omega)
            subst e3
            have hkn : k < (nameS s y true).size := by rw [hsz]; exact hlt
            have h1 : wr.cell? ⟨g3, len + k, none⟩ = some (.int .u8 ((nameS s y true)[k].toNat : Int)) := by
              rw [hst.2.1 (len + k) (by omega), getD_behind zs _ len k z4, nameI_get s y true k hkn]
            have b1 : (k : Int) < ((nameS s y true).size : Int) := by omega
            have b3 : (len : Int) + (k : Int) < ((len + (s.size + (1 + y.size)) : Nat) : Int) := by omega
            have b0 : (0 : Int) ≤ (k : Int) := by omega
            have b00 : (0 : Int) ≤ (len : Int) + (k : Int) := by omega
            go_wp2
            go_quiet (fail)
            go_wp2
            go_roundw
            case rel => exact ⟨k + 1, by omega, by go_num, hst.drewN _⟩
            case measure => simp [intOf]; omega
          · go_wp2
            clear hk hlt
            go_loopw [14] (fun i wr => ∃ k : Nat, k ≤ s.size ∧ i = .int .i64 k ∧ St w g1 g3 len (len + (s.size + (1 + y.size))) zs (zs ++ nameI s y true) wr) (fun i _ => s.size - (intOf i).toNat)
            case atStart => exact ⟨0, Nat.zero_le _, rfl, hst⟩
            case round =>
              obtain ⟨k, hk, rfl, hst⟩ := hrel
              by_cases hlt : k < s.size
              · have hkn : k < (nameS s y true).size := by rw [hsz]; omega
                have h1 := nameS_front s y true k hkn hlt
                have b1 : (k : Int) < ((nameS s y true).size : Int) := by omega
                have b2 : (k : Int) < (s.size : Int) := by omega
                have b0 : (0 : Int) ≤ (k : Int) := by omega
                go_wp2
                go_quiet (fail)
                go_wp2
                go_roundw
                case rel => exact ⟨k + 1, by omega, by go_num, hst.drewN _⟩
                case measure => simp [intOf]; omega
              · go_wp2
                clear hk hlt
                have eo : (s.size : Int) + (1 + (y.size : Int)) - (y.size : Int) = (s.size : Int) + 1 := by omega
                rw [eo]
                clear eo
                go_loopw [16] (fun i wr => ∃ k : Nat, k ≤ y.size ∧ i = .int .i64 k ∧ St w g1 g3 len (len + (s.size + (1 + y.size))) zs (zs ++ nameI s y true) wr) (fun i _ => y.size - (intOf i).toNat)
                case atStart => exact ⟨0, Nat.zero_le _, rfl, hst⟩
                case round =>
                  obtain ⟨k, hk, rfl, hst⟩ := hrel
                  by_cases hlt : k < y.size
                  · have hkn : s.size + 1 + k < (nameS s y true).size := by rw [hsz]; omega
                    have hix := run_name_back s y k hlt
                    have b1 : (s.size : Int) + 1 + (k : Int) < ((nameS s y true).size : Int) := by omega
                    have b2 : (k : Int) < (y.size : Int) := by omega
                    have b0 : (0 : Int) ≤ (k : Int) := by omega
                    have b00 : (0 : Int) ≤ (s.size : Int) + 1 + (k : Int) := by omega
                    go_wp2
                    go_quiet (fail)
                    go_wp2
                    go_roundw
                    case rel => exact ⟨k + 1, by omega, by go_num, hst.drewN _⟩
                    case measure => simp [intOf]; omega
                  · go_wp2
                    go_ret
                    exact ⟨rfl, hst.2.2⟩

/-- A string's bytes, as numbers. -/
def strI (s : ByteArray) : List Int := s.data.toList.map fun c => (c.toNat : Int)

theorem strI_get (s : ByteArray) (k : Nat) (h : k < s.size) : (strI s).getD k 0 = (s[k].toNat : Int) := by
  have h' : k < s.data.size := h
  show _ = ((s.data[k]).toNat : Int)
  simp only [strI, List.getD_eq_getElem?_getD, List.getElem?_map, Array.getElem?_toList, Array.getElem?_eq_getElem h', Option.map_some, Option.getD_some]

theorem append_offI (base : Nat) (v : Value) (n : Nat) (zs : List Int) (s y : ByteArray) (w : World) (hown : w.ownsRow base 5 1 v n (zs.map (Value.int .u8))) (hb : base ≤ w.heap.size)
    (hn : n + s.size ≤ 4294967296) :
    Calls Try.prog 8 #[v, .string s, .string y, .bool false] w fun e w' => ∃ v', e = .returned v' ∧ w'.ownsRow base 5 1 v' (n + s.size) ((zs ++ strI s).map (Value.int .u8)) ∧ Below base w w' := by
  refine (append_off base v n _ s y w hown hb hn).mono ?_
  rintro e w' ⟨v', rfl, h, hb'⟩
  refine ⟨v', rfl, ?_, hb'⟩
  have e1 : (zs ++ strI s).map (Value.int .u8) = zs.map (Value.int .u8) ++ Lib.strCells s := by
    simp [strI, strCells_eq]
  rw [e1]
  exact h

theorem buf_off (a : Option Addr) (len cap : Nat) (zs : List Int) (s y : ByteArray) (w : World) (hl : len ≤ 262144) (hs : s.size ≤ 262144) (hy : y.size ≤ 262144) (hrow : Row8 w (.slice a len cap) len zs) :
    Calls Try.prog 3 #[.slice a len cap, .string s, .string y, .bool false] w fun e w' => e = .returned (.bool true) ∧ Below w.heap.size w w' := by
  have HR : Hid (Row8 w (.slice a len cap) len zs) := hrow
  clear hrow
  go_enter Try.func3, Try.ntmps3
  go_wp2_with (go_at_call 6; refine (bytes6 _ _ _ _ _ _ _ (by unfold maxLen; omega) (by unfold maxLen; omega) (by unfold maxLen; omega)).mono ?_; rintro e w' ⟨r, rfl, rfl⟩)
  · go_ret
    exact ⟨rfl, Below.refl _ _⟩
  · refine (clone_any _ len zs _ (by omega) HR.out).mono ?_
    rintro e w1 ⟨v1, rfl, hown1, hb1⟩
    obtain ⟨a1, g1, c1, rfl, ha1, hc1⟩ := own_shape hown1
    have r1 := row8_of_own hown1
    have HC1 : Hid (∀ i, i < len → w1.cell? ⟨g1, i, none⟩ = some (.int .u8 (zs.getD i 0))) := hc1
    clear hc1 hown1
    go_wp2_with fail
    refine (clone_any _ len zs _ (by omega) r1).mono ?_
    rintro e w2 ⟨v2, rfl, hown2, hb2⟩
    go_wp2_with fail
    refine (append_offI w1.heap.size v2 len zs s y _ hown2 hb2.size (by omega)).mono ?_
    rintro e w3 ⟨v3, rfl, hown3, hb3⟩
    obtain ⟨a3, g3, c3, rfl, ha3, hc3⟩ := own_shape hown3
    have HC3 : Hid (∀ i, i < len + s.size → w3.cell? ⟨g3, i, none⟩ = some (.int .u8 ((zs ++ strI s).getD i 0))) := hc3
    clear hc3 hown3 hown2
    go_wp2_with fail
    refine (name_off _ _ _).mono ?_
    rintro e w4 ⟨rfl, hw4⟩
    have hb4 : Below w3.heap.size w3 w4 := by rw [hw4]; exact Below.refl _ _
    clear hw4
    have z4 : zs.length = len := by
      rcases HR.out with ⟨_, h2, h3⟩ | ⟨x, c, _, h2, _⟩
      · rw [h2, h3]; rfl
      · exact h2
    have s2 := hb2.size
    have s3 := hb3.size
    have s1 := hb1.size
    have ST : St w g1 g3 len (len + s.size) zs (zs ++ strI s) w4 := by
      refine ⟨fun i hi => ?_, fun i hi => ?_, ?_⟩
      · have c0 := HC1.out i hi
        have l0 := World.block_lt_of_cell? w1 _ c0
        exact ((hb4.cell (by exact Nat.lt_of_lt_of_le l0 (by omega))).trans ((hb3.cell (by exact l0)).trans (hb2.cell (by exact l0)))).trans c0
      · have c0 := HC3.out i hi
        exact (hb4.cell (by exact World.block_lt_of_cell? w3 _ c0)).trans c0
      · exact ((hb1.trans (hb2.mono s1)).trans (hb3.mono s1)).trans (hb4.mono (by omega))
    clear HC1 HC3 hb1 hb2 hb3 hb4 r1 s1 s2 s3 HR
    go_wp2_with fail
    go_loopw [12] (fun i wr => ∃ k : Nat, k ≤ len ∧ i = .int .i64 k ∧ St w g1 g3 len (len + s.size) zs (zs ++ strI s) wr) (fun i _ => len - (intOf i).toNat)
    case atStart => exact ⟨0, Nat.zero_le _, rfl, ST⟩
    case round =>
      obtain ⟨k, hk, rfl, hst⟩ := hrel
      clear ST
      by_cases hlt : k < len
      · have e1 := ha1 (by omega)
        have e3 := ha3 (by omega)
        subst e1
        subst e3
        obtain ⟨z, h1, h2⟩ : ∃ z, wr.cell? ⟨g3, k, none⟩ = some (.int .u8 z) ∧ wr.cell? ⟨g1, k, none⟩ = some (.int .u8 z) :=
          ⟨zs.getD k 0, by rw [hst.2.1 k (by omega)]; simp [List.getElem?_append, z4, hlt], hst.1 k hlt⟩
        have b1 : (k : Int) < (len : Int) := by omega
        have b3 : (k : Int) < ((len + s.size : Nat) : Int) := by omega
        have b0 : (0 : Int) ≤ (k : Int) := by omega
        go_wp2
        go_quiet (fail)
        go_wp2
        go_roundw
        case rel => exact ⟨k + 1, by omega, by go_num, hst.drewN _⟩
        case measure => simp [intOf]; omega
      · go_wp2
        clear hk hlt
        go_loopw [13] (fun i wr => ∃ k : Nat, k ≤ s.size ∧ i = .int .i64 k ∧ St w g1 g3 len (len + s.size) zs (zs ++ strI s) wr) (fun i _ => s.size - (intOf i).toNat)
        case atStart => exact ⟨0, Nat.zero_le _, rfl, hst⟩
        case round =>
          obtain ⟨k, hk, rfl, hst⟩ := hrel
          by_cases hlt : k < s.size
          · have e3 := ha3 (by omega)
            subst e3
            have h1 : wr.cell? ⟨g3, len + k, none⟩ = some (.int .u8 (s[k].toNat : Int)) := by
              rw [hst.2.1 (len + k) (by omega), getD_behind zs _ len k z4, strI_get s k hlt]
            have b1 : (k : Int) < (s.size : Int) := by omega
            have b3 : (len : Int) + (k : Int) < ((len + s.size : Nat) : Int) := by omega
            have b0 : (0 : Int) ≤ (k : Int) := by omega
            have b00 : (0 : Int) ≤ (len : Int) + (k : Int) := by omega
            go_wp2
            go_quiet (fail)
            go_wp2
            go_roundw
            case rel => exact ⟨k + 1, by omega, by go_num, hst.drewN _⟩
            case measure => simp [intOf]; omega
          · go_wp2
            clear hk hlt
            go_loopw [14] (fun i wr => ∃ k : Nat, k ≤ s.size ∧ i = .int .i64 k ∧ St w g1 g3 len (len + s.size) zs (zs ++ strI s) wr) (fun i _ => s.size - (intOf i).toNat)
            case atStart => exact ⟨0, Nat.zero_le _, rfl, hst⟩
            case round =>
              obtain ⟨k, hk, rfl, hst⟩ := hrel
              by_cases hlt : k < s.size
              · have b1 : (k : Int) < (s.size : Int) := by omega
                have b2 : (k : Int) < (s.size : Int) := by omega
                have b0 : (0 : Int) ≤ (k : Int) := by omega
                go_wp2
                go_quiet (fail)
                go_wp2
                go_roundw
                case rel => exact ⟨k + 1, by omega, by go_num, hst.drewN _⟩
                case measure => simp [intOf]; omega
              · go_wp2
                go_ret
                exact ⟨rfl, hst.2.2⟩

/-- Beyond the bounds: it answers true at once. -/
theorem buf_early (a : Option Addr) (len cap : Nat) (s y : ByteArray) (b : Bool) (hl : len ≤ maxLen) (hs : s.size ≤ maxLen) (hy : y.size ≤ maxLen) (w : World)
    (h : 262144 < len ∨ 262144 < s.size ∨ 262144 < y.size) :
    Calls Try.prog 3 #[.slice a len cap, .string s, .string y, .bool b] w fun e w' => e = .returned (.bool true) ∧ Below w.heap.size w w' := by
  have H : Hid (∀ w, Calls Try.prog 6 #[.slice a len cap, .string s, .string y, .bool b] w fun e w' => ∃ r : Bool, e = .returned (.bool r) ∧ w = w') := fun w => bytes6 a len cap s y b w hl hs hy
  unfold maxLen at hl hs hy
  by_cases c1 : (262144 : Int) < len
  · go_enter Try.func3, Try.ntmps3
    go_wp2_with (go_at_call 6; refine (H.out _).mono ?_; rintro e w' ⟨r, rfl, rfl⟩)
    all_goals (go_ret; exact ⟨rfl, Below.refl _ _⟩)
  by_cases c2 : (262144 : Int) < s.size
  · go_enter Try.func3, Try.ntmps3
    go_wp2_with (go_at_call 6; refine (H.out _).mono ?_; rintro e w' ⟨r, rfl, rfl⟩)
    all_goals (go_ret; exact ⟨rfl, Below.refl _ _⟩)
  by_cases c3 : (262144 : Int) < y.size
  · go_enter Try.func3, Try.ntmps3
    go_wp2_with (go_at_call 6; refine (H.out _).mono ?_; rintro e w' ⟨r, rfl, rfl⟩)
    all_goals (go_ret; exact ⟨rfl, Below.refl _ _⟩)
  · omega
end Go.Proofs.Qxb6621671a
