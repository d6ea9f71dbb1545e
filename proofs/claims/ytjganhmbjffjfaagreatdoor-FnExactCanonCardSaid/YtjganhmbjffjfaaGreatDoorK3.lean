/- utf16.RuneLen, EncodeRune, Encode; compareSortKeys. slices.SortFunc over an object's members. []rune(s), and the sort key of a name. -/
import Derived.Test.YtjganhmbjffjfaaGreatDoorN1
import Derived.Deep.OwnRows
import Derived.Deep.LoopGhost
import Derived.Deep.DeepFit
import Derived.Test.YtjganhmbjffjfaaGreatDoorN5
import Derived.Test.YtjganhmbjffjfaaGreatDoorB3
import Derived.Test.YtjganhmbjffjfaaGreatDoorShelg
import Derived.Test.YtjganhmbjffjfaaGreatDoorP3
import Derived.Lib.TrimU
import Derived.Laws.IdiomStrings
open Go Go.RowKit
namespace Go.Proofs.YtjganhmbjffjfaaGreatDoor
open Go in
theorem i32_and10 {x : Int} (h₀ : 0 ≤ x) (h₁ : x < 2147483648) : bits .and .i32 x 1023 = x % 1024 :=
  bits_mask .i32 31 (by decide) wraps_i32 10 (by decide) x h₀ h₁
set_option maxHeartbeats 1000000 in
theorem runeLen_1a (r : Int) (w : World) (h0 : 0 ≤ r) (h1 : r < 55296) : Calls Tryz.prog 196 #[.int .i32 r] w fun e w' => e = .returned (.int .i64 1) ∧ w = w' := by
  go_enter Tryz.func196, Tryz.ntmps196
  go_wp2
  go_ret
  exact ⟨rfl, rfl⟩
set_option maxHeartbeats 1000000 in
theorem runeLen_1b (r : Int) (w : World) (h0 : 57344 ≤ r) (h1 : r < 65536) : Calls Tryz.prog 196 #[.int .i32 r] w fun e w' => e = .returned (.int .i64 1) ∧ w = w' := by
  have h2 : 0 ≤ r := by omega
  have h3 : ¬ r < 55296 := by omega
  go_enter Tryz.func196, Tryz.ntmps196
  go_wp2
  go_ret
  exact ⟨rfl, rfl⟩
set_option maxHeartbeats 1000000 in
theorem runeLen_2 (r : Int) (w : World) (h0 : 65536 ≤ r) (h1 : r ≤ 1114111) : Calls Tryz.prog 196 #[.int .i32 r] w fun e w' => e = .returned (.int .i64 2) ∧ w = w' := by
  have h2 : 0 ≤ r := by omega
  have h3 : ¬ r < 55296 := by omega
  have h4 : 57344 ≤ r := by omega
  have h5 : ¬ r < 65536 := by omega
  go_enter Tryz.func196, Tryz.ntmps196
  go_wp2
  go_ret
  exact ⟨rfl, rfl⟩
set_option maxHeartbeats 1000000 in
theorem runeLen_no (r : Int) (w : World) (h0 : 55296 ≤ r) (h1 : r < 57344) : Calls Tryz.prog 196 #[.int .i32 r] w fun e w' => e = .returned (.int .i64 (-1)) ∧ w = w' := by
  have h2 : 0 ≤ r := by omega
  have h3 : ¬ r < 55296 := by omega
  have h4 : ¬ 57344 ≤ r := by omega
  have h5 : ¬ 65536 ≤ r := by omega
  go_enter Tryz.func196, Tryz.ntmps196
  go_wp2
  go_ret
  exact ⟨rfl, rfl⟩
set_option maxHeartbeats 1000000 in
theorem encodeRune_2 (r : Int) (w : World) (h0 : 65536 ≤ r) (h1 : r ≤ 1114111) : Calls Tryz.prog 197 #[.int .i32 r] w fun e w' => e = .returned (.tuple #[.int .i32 (55296 + (r - 65536) / 1024), .int .i32 (56320 + (r - 65536) % 1024)]) ∧ w = w' := by
  have h5 : ¬ r < 65536 := by omega
  have h6 : ¬ 1114111 < r := by omega
  have HB1 : Hid (bits .and .i32 ((r - 65536) / 1024) 1023 = (r - 65536) / 1024) := by
    show _ = _
    rw [i32_and10 (by omega) (by omega)]; omega
  have HB2 : Hid (bits .and .i32 (r - 65536) 1023 = (r - 65536) % 1024) := i32_and10 (by omega) (by omega)
  have HW1 : Hid (wrap32 (55296 + (r - 65536) / 1024) = 55296 + (r - 65536) / 1024) := by show _ = _; unfold wrap32; omega
  have HW2 : Hid (wrap32 (56320 + (r - 65536) % 1024) = 56320 + (r - 65536) % 1024) := by show _ = _; unfold wrap32; omega
  go_enter Tryz.func197, Tryz.ntmps197
  go_wp2
  go_ret2
  refine ⟨?_, rfl⟩
  rw [HB1.out, HB2.out, HW1.out, HW2.out]
  rfl

/-- The runes as the decoder gives them are no larger than U+10FFFF; a unit is one of 16 bits. -/
theorem unit16_lt {r u : Nat} (h : u ∈ unit16 r) : u < 65536 := by
  unfold unit16 at h
  split at h
  · simp at h; omega
  split at h
  · simp at h; omega
  · simp at h; omega
/-- Whether a rune has two units. -/
def two (r : Nat) : Nat := if 65536 ≤ r then 1 else 0
theorem two_le (r : Nat) : two r ≤ 1 := by unfold two; split <;> omega
def cnt2 (l : List Nat) : Nat := (l.map two).sum
theorem cnt2_snoc (l : List Nat) (r : Nat) : cnt2 (l ++ [r]) = cnt2 l + two r := by simp [cnt2]
theorem unit16_len {r : Nat} (h : r ≤ 1114111) : (unit16 r).length = 1 + two r := by
  unfold unit16 two
  split
  · rw [if_neg (by omega)]; rfl
  split
  · rw [if_pos (by omega)]; rfl
  · rw [if_neg (by omega)]; rfl
theorem units_len {l : List Nat} (h : ∀ r ∈ l, r ≤ 1114111) : (l.flatMap unit16).length = l.length + cnt2 l := by
  induction l with
  | nil => rfl
  | cons x l ih =>
    have h1 := unit16_len (h x (by simp))
    have h2 := ih (fun r hr => h r (by simp [hr]))
    simp only [List.flatMap_cons, List.length_append, List.length_cons, h1, h2, cnt2, List.map_cons, List.sum_cons]
    omega
theorem cnt2_le (l : List Nat) : cnt2 l ≤ l.length := by
  induction l with
  | nil => simp [cnt2]
  | cons x l ih => simp only [cnt2, List.map_cons, List.sum_cons, List.length_cons] at *; have := two_le x; omega
/-- A row of units in block b, N cells long, that begins with l. -/
def ERow (b N : Nat) (l : List Nat) (W : World) : Prop := ∃ cs : Array Value, W.heap[b]? = some (.cells cs 42 (0, 0)) ∧ cs.size = N ∧ ∀ (i u : Nat), l[i]? = some u → cs[i]? = some (Value.int .u16 (u : Int))
theorem ERow.cells {b N : Nat} {l : List Nat} {W : World} (h : ERow b N l W) : ∀ (i u : Nat), l[i]? = some u → W.cell? ⟨b, i, none⟩ = some (Value.int .u16 (u : Int)) := by
  obtain ⟨cs, h1, _, h3⟩ := h
  intro i u hu
  simp only [World.cell?, h1]; exact h3 i u hu
theorem ERow.any {b N : Nat} {l : List Nat} {W : World} (h : ERow b N l W) {i : Nat} (hi : i < N) : ∃ v, W.cell? ⟨b, i, none⟩ = some v := by
  obtain ⟨cs, h1, h2, h3⟩ := h
  exact ⟨cs[i]'(by omega), by simp only [World.cell?, h1]; exact Array.getElem?_eq_getElem (by omega)⟩
theorem ERow.fz {b N : Nat} {l : List Nat} {W : World} (h : ERow b N l W) (i : Nat) : W.frozen? ⟨b, i, none⟩ = false := by
  obtain ⟨cs, h1, h2, h3⟩ := h
  simp [World.frozen?, h1]
theorem ERow.push {b N : Nat} {l : List Nat} {W : World} (h : ERow b N l W) (hl : l.length < N) (u : Nat) : ERow b N (l ++ [u]) (W.setCell ⟨b, l.length, none⟩ (Value.int .u16 (u : Int))) := by
  obtain ⟨cs, h1, h2, h3⟩ := h
  refine ⟨_, setAt h1 l.length _, by simpa using h2, fun i v hv => ?_⟩
  rcases Nat.lt_or_ge i l.length with hi | hi
  · rw [List.getElem?_append_left hi] at hv
    rw [Array.getElem?_setIfInBounds_ne (by omega)]; exact h3 i v hv
  · rw [List.getElem?_append_right hi] at hv
    have h0 : i - l.length = 0 := by
      rcases Nat.eq_zero_or_pos (i - l.length) with h | h
      · exact h
      · rw [List.getElem?_eq_none (by simp; omega)] at hv; cases hv
    rw [h0] at hv
    simp only [List.getElem?_cons_zero, Option.some.injEq] at hv
    subst hv
    obtain rfl : i = l.length := by omega
    rw [Array.getElem?_setIfInBounds_self_of_lt (by omega)]
theorem ERow.set {b N : Nat} {l : List Nat} {W : World} (h : ERow b N l W) {W' : World} (hk : W'.heap[b]? = W.heap[b]?) : ERow b N l W' := by
  obtain ⟨cs, h1, h2, h3⟩ := h
  exact ⟨cs, by rw [hk]; exact h1, h2, h3⟩
theorem info_u16 : (Tryz.prog.info? 42).map (fun i => (i.zero, i.size, i.bytes)) = some (some (.int .u16 0), 1, 2) := by kernel_rfl

def EncP (l : List Nat) (w : World) (e : Ending) (w' : World) : Prop :=
  ∃ b cp, e = .returned (.slice (some ⟨b, 0, none⟩) l.length cp) ∧ w.heap.size ≤ b ∧ b < w'.heap.size ∧ Below w.heap.size w w' ∧ (∀ (i u : Nat), l[i]? = some u → w'.cell? ⟨b, i, none⟩ = some (Value.int .u16 (u : Int))) ∧ l.length ≤ cp ∧ cp ≤ maxLen
set_option maxRecDepth 100000 in
set_option maxHeartbeats 4000000 in
theorem encode_any (rs : List Nat) (g cp : Nat) (w : World) (hrow : ∀ i r, rs[i]? = some r → w.cell? ⟨g, i, none⟩ = some (.int .i32 (r : Nat))) (hg : g < w.heap.size) (hr : ∀ r ∈ rs, r ≤ 1114111) (hlen : rs.length ≤ 4294967296) :
    Calls Tryz.prog 166 #[.slice (some ⟨g, 0, none⟩) rs.length cp] w (EncP (rs.flatMap unit16) w) := by
  obtain ⟨i0, hi, hz0, hz1, hz2⟩ := info_parts info_u16
  have HROW := Lib.hid hrow
  have HR := Lib.hid hr
  have HUL := Lib.hid (units_len hr)
  have hc2 := cnt2_le rs
  clear hrow hr
  go_enter Tryz.func166, Tryz.ntmps166
  go_wp2
  go_loop [3, 15] (fun n i => ∃ k : Nat, k ≤ rs.length ∧ i = .int .i64 k ∧ n = .int .i64 ((rs.length + cnt2 (rs.take k) : Nat) : Int)) (fun _ i => rs.length - (intOf i).toNat)
  case atStart => exact ⟨0, Nat.zero_le _, rfl, by simp [cnt2]⟩
  case round =>
    obtain ⟨k, hk, rfl, rfl⟩ := hrel
    have hck : cnt2 (rs.take k) ≤ k := Nat.le_trans (cnt2_le _) (List.length_take_le _ _)
    by_cases hlt : k < rs.length
    · have hx : rs[k]? = some rs[k] := List.getElem?_eq_getElem hlt
      have hcell := HROW.out k _ hx
      have HTK : Hid (cnt2 (rs.take (k + 1)) = cnt2 (rs.take k) + two rs[k]) := by
        show _ = _
        rw [List.take_succ_eq_append_getElem hlt, cnt2_snoc]
      clear hx
      obtain ⟨x, hxx⟩ : ∃ x, x = rs[k] := ⟨_, rfl⟩
      rw [← hxx] at hcell HTK
      clear hxx
      obtain ⟨C, hC⟩ : ∃ C, C = cnt2 (rs.take k) := ⟨_, rfl⟩
      rw [← hC] at hck HTK ⊢
      clear hC
      obtain ⟨X, hX⟩ : ∃ X : Int, X = (x : Int) := ⟨_, rfl⟩
      rw [← hX] at hcell
      have HX := Lib.hid hX
      have hX0 : 0 ≤ X := by omega
      clear hX
      by_cases h6 : 65536 ≤ X
      · go_wp2
        go_round
        case rel => exact ⟨k + 1, by omega, by go_num, by rw [HTK.out, two, if_pos (by have := HX.out; omega)]; go_num⟩
        case measure => simp [intOf]; omega
      · go_wp2
        go_round
        case rel => exact ⟨k + 1, by omega, by go_num, by rw [HTK.out, two, if_neg (by have := HX.out; omega)]; rfl⟩
        case measure => simp [intOf]; omega
    · obtain rfl : k = rs.length := by omega
      have HN : Hid ((rs.length + cnt2 (rs.take rs.length) : Nat) = (rs.flatMap unit16).length) := by show _ = _; rw [List.take_length, HUL.out]
      rw [HN.out]
      obtain ⟨N, hN⟩ : ∃ N, N = (rs.flatMap unit16).length := ⟨_, rfl⟩
      rw [← hN]
      have HNN := Lib.hid hN
      have hN2 : N ≤ 8589934592 := by rw [hN, HUL.out]; omega
      clear hN hk hlt HN
      go_wp2_with (at_make; refine wpList_make_row _ rfl _ _ 66 rfl 42 i0 (.int .u16 0) Tryz.underlying66 hi hz0 hz1 rfl .i64 .i64 N rfl rfl (by rw [hz2]; omega) (by omega) ?_)
      have HW0 : Hid (ERow w.heap.size N [] (w.alloc (.cells (madeCells #[.int .u16 0] N) 42)) ∧ Below w.heap.size w (w.alloc (.cells (madeCells #[.int .u16 0] N) 42))) :=
        ⟨⟨_, alloc_at _ _, by rw [size_madeCells], fun i u hu => by cases hu⟩, (Below.refl _ _).alloc (Nat.le_refl _) _⟩
      go_loopw [3, 28] (fun n i wr => ∃ k m : Nat, k ≤ rs.length ∧ i = .int .i64 k ∧ n = .int .i64 m ∧ Hid (m = ((rs.take k).flatMap unit16).length) ∧ Hid (ERow w.heap.size N ((rs.take k).flatMap unit16) wr ∧ Below w.heap.size w wr)) (fun _ i _ => rs.length - (intOf i).toNat)
      case atStart => exact ⟨0, 0, Nat.zero_le _, rfl, rfl, rfl, HW0.out⟩
      case round =>
        obtain ⟨k, m, hk, rfl, rfl, HM, HE⟩ := hrel
        clear HW0
        by_cases hlt : k < rs.length
        · have hx : rs[k]? = some rs[k] := List.getElem?_eq_getElem hlt
          have hcell := (HE.out.2.cell (p := ⟨g, k, none⟩) hg).trans (HROW.out k _ hx)
          have HTK : Hid ((rs.take (k + 1)).flatMap unit16 = (rs.take k).flatMap unit16 ++ unit16 rs[k]) := by
            show _ = _
            rw [List.take_succ_eq_append_getElem hlt, List.flatMap_append]; simp
          have HLE : Hid (((rs.take k).flatMap unit16).length + (unit16 rs[k]).length ≤ N) := by
            show _ ≤ _
            rw [← List.length_append, ← HTK.out, HNN.out]
            have : rs = rs.take (k + 1) ++ rs.drop (k + 1) := (List.take_append_drop _ _).symm
            conv => rhs; rw [this, List.flatMap_append, List.length_append]
            omega
          have hrx := HR.out rs[k] (List.getElem_mem _)
          clear hx
          obtain ⟨x, hxx⟩ : ∃ x, x = rs[k] := ⟨_, rfl⟩
          rw [← hxx] at hcell HTK HLE hrx
          clear hxx
          obtain ⟨U, hU⟩ : ∃ U, U = (rs.take k).flatMap unit16 := ⟨_, rfl⟩
          rw [← hU] at HTK HLE HM HE
          clear hU
          obtain ⟨X, hX⟩ : ∃ X : Int, X = (x : Int) := ⟨_, rfl⟩
          rw [← hX] at hcell
          have HX := Lib.hid hX
          have hX0 : 0 ≤ X := by omega
          have hX1 : X ≤ 1114111 := by omega
          have hz := HE.out.2.size
          clear hX hrx
          by_cases h6 : 65536 ≤ X
          · have HU : Hid (unit16 x = [55296 + (x - 65536) / 1024, 56320 + (x - 65536) % 1024]) := by
              show _ = _
              have := HX.out
              unfold unit16; rw [if_neg (by omega), if_pos (by omega)]
            have hm1 : m + 1 < N := by have := HLE.out; rw [HU.out] at this; have := HM.out; simp at *; omega
            obtain ⟨u1, hu1⟩ : ∃ u1 : Nat, u1 = 55296 + (x - 65536) / 1024 := ⟨_, rfl⟩
            obtain ⟨u2, hu2⟩ : ∃ u2 : Nat, u2 = 56320 + (x - 65536) % 1024 := ⟨_, rfl⟩
            have HC1 : Hid ((55296 + (X - 65536) / 1024) = (u1 : Int)) := by show _ = _; have := HX.out; omega
            have HC2 : Hid ((56320 + (X - 65536) % 1024) = (u2 : Int)) := by show _ = _; have := HX.out; omega
            rw [← hu1, ← hu2] at HU
            have hu1l : u1 < 65536 := by have := HX.out; omega
            have hu2l : u2 < 65536 := by have := HX.out; omega
            clear hu1 hu2
            have hf0 := HE.out.1.fz m
            have hf1 := HE.out.1.fz (m + 1)
            obtain ⟨v1, hv1⟩ := HE.out.1.any (i := m) (by omega)
            obtain ⟨v2, hv2⟩ := HE.out.1.any (i := m + 1) (by omega)
            have he2 := encodeRune_2 X wr h6 hX1
            rw [HC1.out, HC2.out] at he2
            have HE2 := Lib.hid he2
            clear he2
            go_wp2_with (fail)
            refine (runeLen_2 X _ h6 hX1).mono ?_
            rintro e w' ⟨rfl, rfl⟩
            go_wp2_with (fail)
            refine HE2.out.mono ?_
            rintro e w' ⟨rfl, rfl⟩
            go_wp2_with (fail)
            go_roundw
            case rel =>
              have hp := HE.out.1.push (by have := HM.out; omega) u1
              have hp2 := hp.push (by rw [List.length_append]; have := HM.out; simp; omega) u2
              rw [List.length_append, ← HM.out, List.append_assoc] at hp2
              exact ⟨k + 1, m + 2, by omega, by go_num, by go_num, by show _ = _; rw [HTK.out, HU.out, List.length_append, ← HM.out]; rfl, by rw [HTK.out, HU.out]; exact hp2, (HE.out.2.setCell (Nat.le_refl _) _).setCell (Nat.le_refl _) _⟩
            case measure => simp [intOf]; omega
          · have h5 : (X < 55296) ∨ (57344 ≤ X ∧ X < 65536) ∨ (55296 ≤ X ∧ X < 57344) := by omega
            rcases h5 with h5 | ⟨h5, h5'⟩ | ⟨h5, h5'⟩
            · obtain ⟨u1, hu1⟩ : ∃ u1 : Nat, u1 = x := ⟨_, rfl⟩
              have HUX : Hid (unit16 x = [u1]) := by show _ = _; have := HX.out; unfold unit16; rw [if_pos (by omega), hu1]
              have HC1 : Hid (X = (u1 : Int)) := by show _ = _; rw [hu1]; exact HX.out
              clear hu1
              have HU : Hid (unit16 x = [u1]) := by
                show _ = _
                exact HUX.out
              have hm1 : m < N := by have := HLE.out; rw [HU.out] at this; have := HM.out; simp at *; omega
              have hf0 := HE.out.1.fz m
              obtain ⟨v1, hv1⟩ := HE.out.1.any (i := m) (by omega)
              go_wp2_with (fail)
              refine (runeLen_1a X _ hX0 h5).mono ?_
              rintro e w' ⟨rfl, rfl⟩
              go_wp2_with (fail)
              rw [HC1.out]
              go_roundw
              case rel =>
                have hp := HE.out.1.push (by have := HM.out; omega) u1
                rw [← HM.out] at hp
                exact ⟨k + 1, m + 1, by omega, by go_num, by go_num, by show _ = _; rw [HTK.out, HU.out, List.length_append, ← HM.out]; rfl, by rw [HTK.out, HU.out]; exact hp, HE.out.2.setCell (Nat.le_refl _) _⟩
              case measure => simp [intOf]; omega
            · obtain ⟨u1, hu1⟩ : ∃ u1 : Nat, u1 = x := ⟨_, rfl⟩
              have HUX : Hid (unit16 x = [u1]) := by show _ = _; have := HX.out; unfold unit16; rw [if_pos (by omega), hu1]
              have HC1 : Hid (X = (u1 : Int)) := by show _ = _; rw [hu1]; exact HX.out
              clear hu1
              have HU : Hid (unit16 x = [u1]) := by
                show _ = _
                exact HUX.out
              have hm1 : m < N := by have := HLE.out; rw [HU.out] at this; have := HM.out; simp at *; omega
              have hf0 := HE.out.1.fz m
              obtain ⟨v1, hv1⟩ := HE.out.1.any (i := m) (by omega)
              go_wp2_with (fail)
              refine (runeLen_1b X _ h5 h5').mono ?_
              rintro e w' ⟨rfl, rfl⟩
              go_wp2_with (fail)
              rw [HC1.out]
              go_roundw
              case rel =>
                have hp := HE.out.1.push (by have := HM.out; omega) u1
                rw [← HM.out] at hp
                exact ⟨k + 1, m + 1, by omega, by go_num, by go_num, by show _ = _; rw [HTK.out, HU.out, List.length_append, ← HM.out]; rfl, by rw [HTK.out, HU.out]; exact hp, HE.out.2.setCell (Nat.le_refl _) _⟩
              case measure => simp [intOf]; omega
            · obtain ⟨u1, hu1⟩ : ∃ u1 : Nat, u1 = 65533 := ⟨_, rfl⟩
              have HUX : Hid (unit16 x = [u1]) := by show _ = _; have := HX.out; unfold unit16; rw [if_neg (by omega), if_neg (by omega), hu1]
              have HC1 : Hid ((65533 : Int) = (u1 : Int)) := by show _ = _; rw [hu1]; rfl
              clear hu1
              have HU : Hid (unit16 x = [u1]) := by
                show _ = _
                exact HUX.out
              have hm1 : m < N := by have := HLE.out; rw [HU.out] at this; have := HM.out; simp at *; omega
              have hf0 := HE.out.1.fz m
              obtain ⟨v1, hv1⟩ := HE.out.1.any (i := m) (by omega)
              go_wp2_with (fail)
              refine (runeLen_no X _ h5 h5').mono ?_
              rintro e w' ⟨rfl, rfl⟩
              go_wp2_with (fail)
              rw [HC1.out]
              go_roundw
              case rel =>
                have hp := HE.out.1.push (by have := HM.out; omega) u1
                rw [← HM.out] at hp
                exact ⟨k + 1, m + 1, by omega, by go_num, by go_num, by show _ = _; rw [HTK.out, HU.out, List.length_append, ← HM.out]; rfl, by rw [HTK.out, HU.out]; exact hp, HE.out.2.setCell (Nat.le_refl _) _⟩
              case measure => simp [intOf]; omega
        · obtain rfl : k = rs.length := by omega
          rw [List.take_length] at HM HE
          rw [← HNN.out] at HM
          obtain rfl : m = N := HM.out
          have hz := HE.out.2.size
          go_wp2_with (fail)
          go_ret
          refine ⟨w.heap.size, m, by rw [← HNN.out]; rfl, Nat.le_refl _, ?_, HE.out.2, HE.out.1.cells, by rw [← HNN.out]; exact Nat.le_refl _, by unfold maxLen; omega⟩
          obtain ⟨cs, h1, _⟩ := HE.out.1
          rcases Nat.lt_or_ge w.heap.size wr.heap.size with h | h
          · exact h
          · rw [Array.getElem?_eq_none h] at h1; cases h1

theorem cmpK_drop {a b : List Nat} {k x y : Nat} (ha : a[k]? = some x) (hb : b[k]? = some y) : cmpK (a.drop k) (b.drop k) = if x = y then cmpK (a.drop (k + 1)) (b.drop (k + 1)) else (x : Int) - y := by
  have h1 := (List.getElem?_eq_some_iff.1 ha)
  have h2 := (List.getElem?_eq_some_iff.1 hb)
  obtain ⟨h1, rfl⟩ := h1
  obtain ⟨h2, rfl⟩ := h2
  rw [List.drop_eq_getElem_cons h1, List.drop_eq_getElem_cons h2, cmpK_cons]
theorem cmpK_end {a b : List Nat} {k : Nat} (ha : k ≤ a.length) (hb : k ≤ b.length) (h : k = a.length ∨ k = b.length) : cmpK (a.drop k) (b.drop k) = (a.length : Int) - b.length := by
  rcases h with rfl | rfl
  · rw [List.drop_length, cmpK_nil, List.length_drop]; omega
  · rw [List.drop_length, cmpK_nil', List.length_drop]; omega
/-- A key as it lies in memory. -/
def KeyAt (w : World) (a : List Nat) (g _c : Nat) : Prop := (∀ (i u : Nat), a[i]? = some u → w.cell? ⟨g, i, none⟩ = some (Value.int .u16 (u : Int))) ∧ (∀ u ∈ a, u < 65536) ∧ a.length ≤ 8589934592
def CmpP (a b : List Nat) (w : World) (e : Ending) (w' : World) : Prop := e = .returned (.int .i64 (cmpK a b)) ∧ ∃ n, w' = w.drewN n
set_option maxRecDepth 100000 in
set_option maxHeartbeats 4000000 in
theorem cmpKeys_any (a b : List Nat) (ga ca gb cb : Nat) (w : World) (ha : KeyAt w a ga ca) (hb : KeyAt w b gb cb) :
    Calls Tryz.prog 170 #[.slice (some ⟨ga, 0, none⟩) a.length ca, .slice (some ⟨gb, 0, none⟩) b.length cb] w (CmpP a b w) := by
  have HA := Lib.hid ha
  have HB := Lib.hid hb
  have hla := ha.2.2
  have hlb := hb.2.2
  clear ha hb
  obtain ⟨M, hM1, hM2, hM3⟩ : ∃ M, M ≤ a.length ∧ M ≤ b.length ∧ (M = a.length ∨ M = b.length) := by
    rcases Nat.lt_or_ge b.length a.length with h | h
    · exact ⟨b.length, by omega, Nat.le_refl _, Or.inr rfl⟩
    · exact ⟨a.length, Nat.le_refl _, h, Or.inl rfl⟩
  have HM3 := Lib.hid hM3
  clear hM3
  go_enter Tryz.func170, Tryz.ntmps170
  go_wp2
  all_goals
    go_loopw [6] (fun i wr => ∃ k : Nat, k ≤ a.length ∧ k ≤ b.length ∧ i = .int .i64 k ∧ Hid (cmpK a b = cmpK (a.drop k) (b.drop k)) ∧ Hid (∃ q, wr = w.drewN q)) (fun i _ => a.length - (intOf i).toNat)
    case atStart => exact ⟨0, Nat.zero_le _, Nat.zero_le _, rfl, rfl, 0, rfl⟩
    case round =>
      obtain ⟨k, hk1, hk2, rfl, HK, HW⟩ := hrel
      by_cases hlt : k < a.length ∧ k < b.length
      · obtain ⟨hl1, hl2⟩ := hlt
        have hx1 : a[k]? = some a[k] := List.getElem?_eq_getElem hl1
        have hx2 : b[k]? = some b[k] := List.getElem?_eq_getElem hl2
        have hcA : wr.cell? ⟨ga, k, none⟩ = some (Value.int .u16 ((a[k] : Nat) : Int)) := by obtain ⟨q, hq⟩ := HW.out; rw [hq]; exact HA.out.1 k _ hx1
        have hcB : wr.cell? ⟨gb, k, none⟩ = some (Value.int .u16 ((b[k] : Nat) : Int)) := by obtain ⟨q, hq⟩ := HW.out; rw [hq]; exact HB.out.1 k _ hx2
        have hX : a[k] < 65536 := HA.out.2.1 _ (List.getElem_mem _)
        have hY : b[k] < 65536 := HB.out.2.1 _ (List.getElem_mem _)
        have HD : Hid (cmpK (a.drop k) (b.drop k) = if a[k] = b[k] then cmpK (a.drop (k + 1)) (b.drop (k + 1)) else ((a[k] : Nat) : Int) - ((b[k] : Nat) : Int)) := cmpK_drop hx1 hx2
        clear hx1 hx2
        obtain ⟨x, hxx⟩ : ∃ x, x = a[k] := ⟨_, rfl⟩
        obtain ⟨y, hyy⟩ : ∃ y, y = b[k] := ⟨_, rfl⟩
        rw [← hxx] at hcA hX HD
        rw [← hyy] at hcB hY HD
        clear hxx hyy
        by_cases hxy : x = y
        · rw [if_pos hxy] at HD
          subst hxy
          have e0 : (x : Int) - (x : Int) = 0 := by omega
          go_wp2
          go_quiet (fail)
          go_wp2_with (fail)
          go_roundw
          case rel => exact ⟨k + 1, by omega, by omega, by go_num, HK.out.trans HD.out, by obtain ⟨q, hq⟩ := HW.out; rw [hq]; exact ⟨_, World.drewN_drewN _ _ _⟩⟩
          case measure => simp [intOf]; omega
        · rw [if_neg hxy] at HD
          have e0 : ((x : Int) - (y : Int) == 0) = false := by rw [beq_eq_false_iff_ne]; omega
          have e1 : ¬ ((x : Int) - (y : Int) = 0) := by omega
          go_wp2
          go_quiet (fail)
          go_wp2_with (fail)
          go_ret
          exact ⟨by rw [HK.out, HD.out]; rfl, by obtain ⟨q, hq⟩ := HW.out; rw [hq]; exact ⟨_, World.drewN_drewN _ _ _⟩⟩
      · first
        | have hn : ¬ k < a.length := by omega
        | have hn : ¬ k < b.length := by omega
        have HE : Hid (cmpK a b = (a.length : Int) - b.length) := HK.out.trans (cmpK_end hk1 hk2 (by omega))
        clear hlt
        go_wp2_with (fail)
        go_ret
        exact ⟨by rw [HE.out]; rfl, HW.out⟩
open Go.Lib Go.Sort in
theorem block_sortWorldK {α : Type} [Inhabited α] (enc : α → List Value) (k : Nat) (w : World) (blk off n : Nat) (dk : Array α) (os : Array Obj) : FrR w.heap.size blk w (sortWorldK enc k w blk off n dk os) := by
  refine ⟨rfl, rfl, rfl, ?_, fun i hi hb => ?_⟩
  · simp [sortWorldK, putRowK, putRow, grow, mapBlock, Sort.ahead]
  · simp only [sortWorldK, putRowK, putRow, grow, mapBlock, Sort.ahead]
    rw [Array.getElem?_append_left (by simpa using hi)]
    rw [Array.getElem?_modify]
    rw [if_neg (fun e => hb e.symm)]
theorem flatMap_get {α : Type} (f : α → List Value) (k : Nat) (hk : 0 < k) (hf : ∀ x, (f x).length = k) : ∀ (L : List α) (j : Nat), (L.flatMap f)[j]? = (L[j / k]?).bind fun x => (f x)[j % k]?
  | [], j => by simp
  | x :: L, j => by
    rw [List.flatMap_cons]
    rcases Nat.lt_or_ge j k with h | h
    · rw [List.getElem?_append_left (by rw [hf]; exact h), Nat.div_eq_of_lt h, Nat.mod_eq_of_lt h]; rfl
    · rw [List.getElem?_append_right (by rw [hf]; exact h), hf, flatMap_get f k hk hf L (j - k)]
      have h1 : j / k = (j - k) / k + 1 := by rw [Nat.div_eq_sub_div hk h]
      have h2 : j % k = (j - k) % k := by rw [Nat.mod_eq_sub_mod h]
      rw [h1, h2]; rfl
/-- A member, its key as it lies in memory. -/
structure MK (w : World) (blk : Nat) where
  m : Mem
  key : List Nat
  g : Nat
  c : Nat
  hsk : m.sk = .slice (some ⟨g, 0, none⟩) key.length c
  hk : KeyAt w key g c
  hg : g ≠ blk
def MK.cells {w : World} {blk : Nat} (x : MK w blk) : List Value := x.m.cells
def MK.cmp {w : World} {blk : Nat} (x y : MK w blk) : Int := cmpK x.key y.key
theorem KeyAt.move {w w' : World} {a : List Nat} {g c : Nat} (h : KeyAt w a g c) (hc : g < w.heap.size → w'.heap[g]? = w.heap[g]?) : KeyAt w' a g c := by
  refine ⟨fun i u hu => ?_, h.2⟩
  have h1 := h.1 i u hu
  rw [World.cell?_of_block (hc (World.lt_of_cell h1))]; exact h1
open Go.Lib Go.Sort in
theorem swo_key {w : World} {blk : Nat} : SWO (ltOf (MK.cmp (w := w) (blk := blk))) where
  irrefl x := by simp [ltOf, MK.cmp, cmpK_self]
  trans x y z h1 h2 := decide_eq_true (cmpK_trans x.key y.key z.key (of_decide_eq_true h1) (of_decide_eq_true h2))
  ntrans x y z h1 h2 := decide_eq_false (cmpK_le_trans z.key y.key x.key (of_decide_eq_false h2) (of_decide_eq_false h1))
set_option maxRecDepth 100000 in
set_option maxHeartbeats 1000000 in
open Go.Lib Go.Sort in
theorem closure_any (x0 x2 y0 y2 : Value) (a b : List Nat) (ga ca gb cb : Nat) (W : World) (ha : KeyAt W a ga ca) (hb : KeyAt W b gb cb) :
    Calls Tryz.prog 169 #[.agg #[x0, .slice (some ⟨ga, 0, none⟩) a.length ca, x2], .agg #[y0, .slice (some ⟨gb, 0, none⟩) b.length cb, y2]] W fun e w' => e = .returned (.int .i64 (cmpK a b)) ∧ ∃ q os', w' = grow (W.drewN q) os' := by
  have HA := Lib.hid (ha.move (w' := (W.alloc (.cells #[x0, .slice (some ⟨ga, 0, none⟩) a.length ca, x2] 257)).alloc (.cells #[y0, .slice (some ⟨gb, 0, none⟩) b.length cb, y2] 257)) (fun h => by rw [Below.heap_alloc _ _ _ (by rw [World.size_alloc]; omega), Below.heap_alloc _ _ _ h]))
  have HB := Lib.hid (hb.move (w' := (W.alloc (.cells #[x0, .slice (some ⟨ga, 0, none⟩) a.length ca, x2] 257)).alloc (.cells #[y0, .slice (some ⟨gb, 0, none⟩) b.length cb, y2] 257)) (fun h => by rw [Below.heap_alloc _ _ _ (by rw [World.size_alloc]; omega), Below.heap_alloc _ _ _ h]))
  clear ha hb
  go_enter Tryz.func169, Tryz.ntmps169
  go_wp2_with (fail)
  refine (cmpKeys_any a b ga ca gb cb _ HA.out HB.out).mono ?_
  rintro e w' ⟨rfl, n, rfl⟩
  go_wp2_with (fail)
  go_ret
  exact ⟨rfl, n, _, by rw [alloc_eq_grow, alloc_eq_grow, grow_grow]; rfl⟩

def SortP (w : World) (blk : Nat) (L : List (MK w blk)) (e : Ending) (w' : World) : Prop :=
  e = .returned (.tuple #[]) ∧ ∃ L' : List (MK w blk), L'.Perm L ∧ (L'.Pairwise fun x y => ¬ cmpK y.key x.key < 0) ∧ (∀ (j : Nat) (u : Value), (L'.flatMap MK.cells)[j]? = some u → w'.cell? ⟨blk, j, none⟩ = some u) ∧ FrR w.heap.size blk w w'
theorem MK.len {w : World} {blk : Nat} (x : MK w blk) : x.cells.length = 3 := rfl
theorem MK.one {w : World} {blk : Nat} (x : MK w blk) : ∀ v ∈ x.cells, v.oneCell' = true := by
  intro v hv
  simp only [MK.cells, Mem.cells, x.hsk, List.mem_cons, List.not_mem_nil, or_false] at hv
  rcases hv with rfl | rfl | rfl <;> rfl
set_option maxRecDepth 100000 in
set_option maxHeartbeats 1000000 in
open Go.Lib Go.Sort in
theorem sortMem_any {R : Nat} {w : World} {blk cap : Nat} (L : List (MK w blk)) (hown : w.ownsRow R 257 3 (.slice (some ⟨blk, 0, none⟩) L.length cap) L.length (L.flatMap MK.cells)) (hlen : L.length ≤ 4294967296) :
    Calls Tryz.prog 168 #[.slice (some ⟨blk, 0, none⟩) L.length cap, .func (.func 169) #[] #[]] w (SortP w blk L) := by
  have hblk : blk < w.heap.size := by
    rcases hown.2 with ⟨e, _⟩ | ⟨g, cap', cur, e, _, hg, _⟩
    · cases e
    · cases e
      rcases Nat.lt_or_ge blk w.heap.size with h | h
      · exact h
      · rw [Array.getElem?_eq_none h] at hg; cases hg
  by_cases hL : L = []
  · subst hL
    refine (AnyF.slices_SortFunc_none { Tryz.sortMem with } (some ⟨blk, 0, none⟩) cap (.func (.func 169) #[] #[]) w).mono ?_
    rintro e w' ⟨rfl, rfl⟩
    exact ⟨rfl, [], List.Perm.refl _, List.Pairwise.nil, fun j u h => (by cases h), FrR.refl _ _ _⟩
  · haveI : Inhabited (MK w blk) := ⟨L.head hL⟩
    have eg : ∀ args w, (callFunc 169 args).run Tryz.prog w = .ok (.enter 169 args) w := enters_of Tryz.func169 (by kernel_rfl) rfl
    have hfz : ∀ j, w.frozen? ⟨blk, j, none⟩ = false := by
      rcases hown.2 with ⟨e, _⟩ | ⟨g, cap', cur, e, _, hg, _⟩
      · cases e
      · cases e; intro j; simp [World.frozen?, hg]
    have hH : HoldsK MK.cells 3 w blk 0 L.toArray := by
      intro j hj
      rw [size_flatK] at hj
      simp only [List.size_toArray] at hj
      have hd : j / 3 < L.length := by omega
      have h1 := hown.cells (g := blk) rfl j (L[j / 3].cells[j % 3]'(by rw [MK.len]; omega)) (by
        rw [flatMap_get _ 3 (by omega) MK.len, List.getElem?_eq_getElem hd]
        exact List.getElem?_eq_getElem _)
      rw [addrAdd] at h1
      refine ⟨?_, hfz _⟩
      rw [h1, get_flatK _ _ _ _ (by simpa using hj)]
      have e1 : L.toArray[j / 3]! = L[j / 3] := by simp [hd]
      have e2 : j % 3 < (L[j / 3].cells).length := by rw [MK.len]; omega
      rw [e1, List.getElem!_eq_getElem?_getD, List.getElem?_eq_getElem e2]
      rfl
    have hcmp : CmpLays (α := MK w blk) Tryz.prog 169 #[] MK.cells 3 MK.cmp blk 0 L.toArray.size w := by
      intro m os dk hdk x y
      have hb := block_sortWorldK (α := MK w blk) MK.cells 3 w blk 0 m dk os
      have h1 := closure_any (.string x.m.name) (.pointer (some ⟨x.m.p, 0, none⟩)) (.string y.m.name) (.pointer (some ⟨y.m.p, 0, none⟩)) x.key y.key x.g x.c y.g y.c _ (x.hk.move (fun h => hb.block _ h x.hg)) (y.hk.move (fun h => hb.block _ h y.hg))
      have e1 : x.cells.toArray = #[.string x.m.name, .slice (some ⟨x.g, 0, none⟩) x.key.length x.c, .pointer (some ⟨x.m.p, 0, none⟩)] := by simp [MK.cells, Mem.cells, x.hsk]
      have e2 : y.cells.toArray = #[.string y.m.name, .slice (some ⟨y.g, 0, none⟩) y.key.length y.c, .pointer (some ⟨y.m.p, 0, none⟩)] := by simp [MK.cells, Mem.cells, y.hsk]
      rw [e1, e2]
      exact h1
    have hcon := AnyQ.slices_SortFunc (α := MK w blk) Tryz.sortMem 3 Tryz.isAgg257 Tryz.sizeOf257 MK.cells MK.len MK.one MK.cmp swo_key 169 #[] blk 0 cap L.toArray w eg hcmp hH hblk (by simp; omega)
    refine hcon.mono ?_
    rintro e w' ⟨rfl, d', n, os, hp, hs, rfl⟩
    have hsz : d'.size = L.length := by have := hp.1; simpa using this
    refine ⟨rfl, d'.toList, ?_, ?_, ?_, block_sortWorldK _ _ _ _ _ _ _ _⟩
    · have h3 := hp.2.2
      rw [Array.extract_eq_self_of_le (by rw [hp.1]; exact Nat.le_refl _), Array.extract_eq_self_of_le (Nat.le_refl _)] at h3
      exact h3
    · rw [List.pairwise_iff_getElem]
      intro i j hi hj hij
      have h3 := hs i j (Nat.zero_le _) hij (by simpa [hsz] using hj)
      have hi' : i < d'.size := by simpa using hi
      have hj' : j < d'.size := by simpa using hj
      rw [getElem!_pos d' j hj', getElem!_pos d' i hi'] at h3
      exact of_decide_eq_false h3
    · intro j u hu
      have hh := holdsK_sortWorldK (α := MK w blk) MK.cells 3 w blk 0 n L.toArray d' os hblk hH (by simpa using hsz)
      rw [flatMap_get _ 3 (by omega) MK.len] at hu
      cases hd : d'.toList[j / 3]? with
      | none => rw [hd] at hu; cases hu
      | some x =>
        rw [hd] at hu
        have hd2 : j / 3 < d'.size := by have := (List.getElem?_eq_some_iff.1 hd).1; simpa using this
        have hj : j < d'.size * 3 := by omega
        have h1 := (hh j (by rw [size_flatK]; exact hj)).1
        rw [get_flatK _ _ _ _ hj, Nat.zero_add, getElem!_pos d' _ hd2] at h1
        have e3 : d'[j / 3] = x := by
          have := (List.getElem?_eq_some_iff.1 hd).2
          simpa using this
        rw [e3] at h1
        have e2 : j % 3 < x.cells.length := by rw [MK.len]; omega
        have hu' : x.cells[j % 3]? = some u := hu
        rw [h1, List.getElem!_eq_getElem?_getD, hu']
        rfl
theorem runesFrom_eq (s : ByteArray) : ∀ (f i : Nat) (acc : Array Value), Conv.runesFrom s f i acc = acc ++ ((runeL s f i).map fun r : Nat => Value.int .i32 (r : Int)).toArray
  | 0, i, acc => by simp [Conv.runesFrom, runeL]
  | f + 1, i, acc => by
    unfold Conv.runesFrom runeL
    by_cases h : i < s.size
    · rw [if_pos h, if_pos h]
      simp only
      rw [runesFrom_eq s f]
      simp
    · rw [if_neg h, if_neg h]; simp
theorem runeL_le (s : ByteArray) : ∀ (f i : Nat), ∀ r ∈ runeL s f i, r ≤ 1114111
  | 0, i, r, h => by cases h
  | f + 1, i, r, h => by
    unfold runeL at h
    split at h
    · rcases List.mem_cons.1 h with rfl | h
      · exact Lib.rune_le _ _
      · exact runeL_le s f _ r h
    · cases h
theorem runeL_len (s : ByteArray) : ∀ (f i : Nat), (runeL s f i).length ≤ f
  | 0, i => by simp [runeL]
  | f + 1, i => by
    unfold runeL
    split
    · have := runeL_len s f (i + (Utf8.decode s i).2); simp; omega
    · simp
theorem units_lt {s : ByteArray} : ∀ u ∈ units s, u < 65536 := by
  intro u hu
  unfold units at hu
  obtain ⟨r, _, h⟩ := List.mem_flatMap.1 hu
  exact unit16_lt h
theorem units_size {s : ByteArray} (hs : s.size ≤ 4294967296) : (units s).length ≤ 8589934592 := by
  unfold units
  rw [units_len (l := runes s) (fun r hr => runeL_le _ _ _ r hr)]
  have h1 := runeL_len s s.size 0
  have h2 := cnt2_le (runes s)
  unfold runes at *
  omega
/-- The world behind []rune(s). -/
def ConvW (w : World) (s : ByteArray) : World := w.drew.alloc (.cells (Conv.runesFrom s s.size 0 #[] ++ Array.replicate (grownCap w (Conv.runesFrom s s.size 0 #[]).size 0 21 - (Conv.runesFrom s s.size 0 #[]).size) (.int .i32 0)) 21)
theorem convW_size (w : World) (s : ByteArray) : (ConvW w s).heap.size = w.heap.size + 1 := by unfold ConvW; rw [World.size_alloc]; rfl
theorem convW_below (w : World) (s : ByteArray) : Below w.heap.size w (ConvW w s) := ((Below.refl _ _).drew).alloc (Nat.le_refl _) _
theorem conv_run (w : World) (s : ByteArray) (hs : s.size ≤ 4294967296) : ∃ cp, (convert 9 307 (.string s)).run Tryz.prog w = .ok (.slice (some ⟨w.heap.size, 0, none⟩) (runes s).length cp) (ConvW w s) := by
  have e : Conv.runesFrom s s.size 0 #[] = ((runes s).map fun r : Nat => Value.int .i32 (r : Int)).toArray := by rw [runesFrom_eq]; simp [runes]
  have hsz : (Conv.runesFrom s s.size 0 #[]).size = (runes s).length := by rw [e]; simp
  have hl : (runes s).length ≤ s.size := runeL_len _ _ _
  have h := run_runes_of_string (P := Tryz.prog) w 9 307 21 s Tryz.underlying9 Tryz.underlying307 Tryz.underlying21 (by rw [hsz]; omega)
  refine ⟨grownCap w (Conv.runesFrom s s.size 0 #[]).size 0 21, ?_⟩
  rw [h, hsz]; unfold ConvW; rw [hsz]
theorem convW_row (w : World) (s : ByteArray) : ∀ (i r : Nat), (runes s)[i]? = some r → (ConvW w s).cell? ⟨w.heap.size, i, none⟩ = some (Value.int .i32 (r : Int)) := by
  intro i r hr
  have e : Conv.runesFrom s s.size 0 #[] = ((runes s).map fun r : Nat => Value.int .i32 (r : Int)).toArray := by rw [runesFrom_eq]; simp [runes]
  have h := alloc_at w.drew (.cells (Conv.runesFrom s s.size 0 #[] ++ Array.replicate (grownCap w (Conv.runesFrom s s.size 0 #[]).size 0 21 - (Conv.runesFrom s s.size 0 #[]).size) (.int .i32 0)) 21)
  have h2 : (ConvW w s).heap[w.heap.size]? = some (.cells (Conv.runesFrom s s.size 0 #[] ++ Array.replicate (grownCap w (Conv.runesFrom s s.size 0 #[]).size 0 21 - (Conv.runesFrom s s.size 0 #[]).size) (.int .i32 0)) 21) := h
  have hi := (List.getElem?_eq_some_iff.1 hr).1
  have hlt : i < (Conv.runesFrom s s.size 0 #[]).size := by rw [e]; simpa using hi
  simp only [World.cell?, h2]
  show (Conv.runesFrom s s.size 0 #[] ++ _)[i]? = _
  rw [Array.getElem?_append_left hlt, e]
  simp [hr]
/-- The key that utf16.Encode makes of a name. -/
theorem encode_key (w : World) (s : ByteArray) (cp : Nat) (hs : s.size ≤ 4294967296) :
    Calls Tryz.prog 166 #[.slice (some ⟨w.heap.size, 0, none⟩) (runes s).length cp] (ConvW w s) fun e w' => ∃ b cp', e = .returned (.slice (some ⟨b, 0, none⟩) (units s).length cp') ∧ w.heap.size ≤ b ∧ b < w'.heap.size ∧ Below w.heap.size w w' ∧ KeyAt w' (units s) b cp' := by
  have hl : (runes s).length ≤ s.size := runeL_len _ _ _
  refine (encode_any (runes s) w.heap.size cp (ConvW w s) (convW_row w s) (by rw [convW_size]; omega) (fun r hr => runeL_le _ _ _ r hr) (by omega)).mono ?_
  rintro e w' ⟨b, cp', rfl, h1, h2, h3, h4, _⟩
  have hsz := convW_size w s
  exact ⟨b, cp', rfl, by omega, h2, (convW_below w s).trans (h3.mono (by omega)), h4, units_lt, units_size hs⟩
/-- What a string's reading adds is no longer than what it takes. -/
theorem pStr_len : ∀ (k : Nat) (acc s b r : List UInt8), pStr k acc s = some (b, r) → b.length + r.length ≤ acc.length + s.length
  | 0, _, _, _, _, h => by cases h
  | k + 1, acc, s, b, r, h => by
    unfold pStr at h
    cases hs : pStep s with
    | err => rw [hs] at h; cases h
    | fin r' =>
      rw [hs] at h
      simp only [Option.some.injEq, Prod.mk.injEq] at h
      obtain ⟨rfl, rfl⟩ := h
      have : r'.length ≤ s.length := by
        match s, hs with
        | x :: s, hs =>
          rw [pStep_cons] at hs
          split at hs
          · injection hs with e; subst e; simp
          split at hs
          · cases hs
          split at hs
          · match s, hs with
            | y :: s, hs =>
              rw [esc_cons] at hs
              split at hs
              · unfold uni at hs
                split at hs
                · split at hs
                  · unfold pair at hs
                    split at hs
                    · cases hs
                    split at hs
                    · split at hs
                      · split at hs
                        · split at hs <;> cases hs
                        · cases hs
                      · cases hs
                    · cases hs
                  · cases hs
                · cases hs
              split at hs
              · cases hs
              split at hs <;> cases hs
          split at hs
          · cases hs
          · unfold multi at hs; simp only at hs; split at hs <;> cases hs
      omega
    | go bs r' =>
      rw [hs] at h
      have h1 := pStr_len k _ _ _ _ h
      have h2 := pStep_len hs
      rw [List.length_append] at h1
      omega
end Go.Proofs.YtjganhmbjffjfaaGreatDoor
