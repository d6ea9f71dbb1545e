/- strconv.ParseUint at base 16; the reader's getUEscape. unicode/utf16.IsSurrogate, DecodeRune. -/
import Derived.Test.YtjganhmbjffjfaaGreatDoorJ4
import Derived.Test.YtjganhmbjffjfaaGreatDoorShelf
import Derived.Laws.BytesArg
import Derived.Deep.RegionWith
import Derived.Test.YtjganhmbjffjfaaGreatDoorP3
open Go Go.RowKit
namespace Go.Proofs.YtjganhmbjffjfaaGreatDoor

def PuPost2 (bs : List UInt8) (w : World) (e : Ending) (w' : World) : Prop :=
  Below w.heap.size w w' ∧ match hexN 0 bs with
  | some n => e = .returned (.tuple #[.int .u64 n, .nilIface])
  | none => ∃ v, e = .returned (.tuple #[.int .u64 0, .iface 287 v])

set_option maxHeartbeats 400000 in
theorem parseUint_hex {N : Nat} (t : ByteArray) (w : World) (ht : TL N w) (hne : t.size ≠ 0) (h8 : t.size ≤ 8) :
    Calls Tryz.prog 199 #[.string t, .int .i64 16, .int .i64 64] w (PuPost2 t.data.toList w) := by
  cases hx : hexN 0 t.data.toList with
  | some n =>
    have HX := Lib.hid hx
    clear hx
    go_enter Tryz.func199, Tryz.ntmps199
    go_wp2_with (go_at_call 141; refine (iParseUint_hex t _ hne h8).mono ?_; rintro e w' ⟨hb, he⟩; rw [HX.out] at he; subst he)
    go_ret2
    exact ⟨hb, by rw [HX.out]; rfl⟩
  | none =>
    have HX := Lib.hid hx
    clear hx
    go_enter Tryz.func199, Tryz.ntmps199
    go_wp2_with (first | (go_at_call 141; refine (iParseUint_hex t _ hne h8).mono ?_; rintro e w1 ⟨hb, he⟩; rw [HX.out] at he; subst he) | (go_at_call 118; obtain ⟨ev, h1, h2⟩ := (ht.below hb).errSyntax; refine (Tryz.strconv_toError_syntax _ t _ _ ev _ (by omega) h1 h2).mono ?_; rintro e w2 ⟨M, rfl, hM1, hM2, hb2⟩))
    go_ret2
    exact ⟨hb.trans (hb2.mono hb.size), by rw [HX.out]; exact ⟨_, rfl⟩⟩

theorem strOfNums_toNats (xs : List UInt8) : (strOfNums (xs.map fun x => (x.toNat : Int))).data.toList = xs := by
  rw [strOfNums_data, List.map_map]
  conv => rhs; rw [← List.map_id xs]
  exact List.map_congr_left fun x _ => by simp

def UOk (w : World) (j : Nat) (A : Option Addr) (c : Nat) (D r : List UInt8) (d n : Nat) (e : Ending) (w' : World) : Prop :=
  e = .returned (.tuple #[.int .i32 n, .nilIface]) ∧ Fr j w w' ∧ JR w' j A c D r d
def UErr (w : World) (j : Nat) (A : Option Addr) (c : Nat) (D : List UInt8) (d : Nat) (e : Ending) (w' : World) : Prop :=
  ∃ v, IsErr v ∧ e = .returned (.tuple #[.int .i32 0, v]) ∧ Fr j w w' ∧ ∃ r, JR w' j A c D r d

set_option maxHeartbeats 1000000 in
set_option maxRecDepth 100000 in
theorem getU_ok {w : World} {j : Nat} {A : Option Addr} {c : Nat} {D r xs : List UInt8} {d n : Nat} (h : JR w j A c D (xs ++ r) d)
    (hl : xs.length = 4) (h7 : ∀ x ∈ xs, x.toNat ≤ 127) (hn : hexN 0 xs = some n) (hn2 : n < 65536) :
    Calls Tryz.prog 171 #[.pointer (some ⟨j, 0, none⟩)] w (UOk w j A c D r d n) := by
  have HN := Lib.hid hn
  clear hn
  obtain ⟨i, hJ, hD⟩ := h
  have c1 := hJ.c1
  have HD := Lib.hid hD
  have HJ := Lib.hid (show JR w j A c D (xs ++ r) d from ⟨i, hJ, hD⟩)
  have HL := Lib.hid hl
  clear hD hJ hl
  go_enter Tryz.func171, Tryz.ntmps171
  go_wp2
  go_loopg [5] 4 (fun kq v5 wr => ∃ k : Nat, k ≤ 4 ∧ v5 = .int .i64 k ∧ Hid (kq + k = 4) ∧ Fr j w wr ∧ JR wr j A c D (xs.drop k ++ r) d)
  case atStart => exact ⟨0, by omega, rfl, rfl, Fr.refl _ _, HJ.out⟩
  case round =>
    obtain ⟨k, hk, rfl, hkq, hf, hJ⟩ := hrel
    clear c1
    by_cases hk4 : k < 4
    · obtain ⟨y, ys, hy⟩ : ∃ y ys, xs.drop k = y :: ys := by
        cases e : xs.drop k with
        | nil => have := congrArg List.length e; have := HL.out; simp at *; omega
        | cons y ys => exact ⟨y, ys, rfl⟩
      have hyx : y ∈ xs := List.mem_of_mem_drop (by rw [hy]; simp)
      have hy7 := h7 y hyx
      rw [hy] at hJ
      have HY := Lib.hid (drop_cons hy).2
      clear hy hyx h7
      go_wp2_with (go_at_call 130; refine (next_cons hJ hy7).mono ?_; rintro e w' ⟨rfl, hf1, hq⟩)
      go_roundg (3 - k)
      case measure => have := hkq.out; omega
      case rel => exact ⟨k + 1, by omega, by go_num, by show _ = _; have := hkq.out; omega, hf.trans hf1, by rw [HY.out]; exact hq.toR⟩
    · obtain rfl : k = 4 := by omega
      have hx4 : xs.drop 4 = [] := List.drop_eq_nil_of_le (by have := HL.out; omega)
      rw [hx4] at hJ
      obtain ⟨i2, hJ2, hD2⟩ := hJ
      have hlen := HL.out
      have hDl := congrArg List.length HD.out
      have hDl2 := congrArg List.length hD2
      simp only [List.length_drop, List.length_append, List.nil_append] at hDl hDl2
      have hile := hJ2.ile
      obtain rfl : i2 = i + 4 := by omega
      have hat : ∀ t, t < 4 → D[i + t]? = some (xs.getD t 0) := fun t ht => by
        have h1 : D[i + t]? = (D.drop i)[t]? := by rw [List.getElem?_drop]
        rw [h1, HD.out, List.getElem?_append_left (by omega), List.getD_eq_getElem?_getD, List.getElem?_eq_getElem (by omega)]; rfl
      obtain ⟨b, off, rfl, hbj, hbl, hcb⟩ := hJ2.dat _ _ (hat 0 (by omega))
      have hcell : ∀ t, t < 4 → wr.cell? ⟨b, (off + i) + t, none⟩ = some (.int .u8 ((xs.map fun x => (x.toNat : Int)).getD t 0)) := fun t ht => by
        obtain ⟨b', off', e1, _, _, h3⟩ := hJ2.dat _ _ (hat t ht)
        cases e1
        rw [Nat.add_assoc, h3]
        simp [List.getD_eq_getElem?_getD, List.getElem?_eq_getElem (show t < xs.length by omega)]
      have hconv : ∀ (W : World), Below wr.heap.size wr W → ∀ cp : Nat, (convert 31 9 (.slice (some ⟨b, off + i, none⟩) 4 cp)).run Tryz.prog W = .ok (.string (strOfNums (xs.map fun x => (x.toNat : Int)))) W := fun W hW cp =>
        run_convert_bytes_arg (P := Tryz.prog) W 31 5 Tryz.underlying31 Tryz.underlying5 b (off + i) 4 cp _ (by simp [hlen]) (fun t ht => (hW.cell (p := ⟨b, off + i + t, none⟩) hbl).trans (hcell t ht)) 9 Tryz.underlying9
      have c0' := hJ2.c0
      have c1' := hJ2.c1
      have hc1 := hJ2.cap.1
      have hc2 := hJ2.cap.2
      have hDlen := hJ2.len
      obtain ⟨N, hNj, hT⟩ := hJ2.tl
      have HPU := Lib.hid (fun m => parseUint_hex (strOfNums (xs.map fun x => (x.toNat : Int))) (wr.drewN m) (hT.drewN m) (by rw [strOfNums_size]; simp [hlen]) (by rw [strOfNums_size]; simp [hlen]))
      have HN2 := Lib.hid (show hexN 0 (strOfNums (xs.map fun x => (x.toNat : Int))).data.toList = some n by rw [strOfNums_toNats]; exact HN.out)
      have hs1 : (i : Int) ≤ (i : Int) + 4 := by omega
      have hs2 : (i : Int) + 4 ≤ (c : Int) := by omega
      have hs3 : ((i : Int) + 4).toNat - i = 4 := by omega
      have HC := Lib.hid hconv
      have hB1 : Below wr.heap.size wr wr.drew := (Below.refl _ _).drew
      have hjl := hJ2.lt
      have HS := Lib.hid (show ∀ W, Below wr.heap.size wr W → (W.cell? ⟨j, 0, none⟩ = some (.slice (some ⟨b, off, none⟩) D.length c) ∧ W.cell? ⟨j, 1, none⟩ = some (.int .i64 ((i + 4 : Nat) : Int)) ∧ Below wr.heap.size wr W ∧ TL N W ∧ (convert 31 9 (.slice (some ⟨b, off + i, none⟩) 4 (c - i))).run Tryz.prog W = .ok (.string (strOfNums (xs.map fun x => (x.toNat : Int)))) W) from
        fun W hW => ⟨(hW.cell (p := ⟨j, 0, none⟩) hjl).trans c0', (hW.cell (p := ⟨j, 1, none⟩) hjl).trans c1', hW, hT.below hW, hconv W hW _⟩)
      clear hconv
      have HJ2 := Lib.hid hJ2
      have hD3 := Lib.hid (show D.drop (i + 4) = r from hD2)
      clear hcell hat hcb hJ2 hx4 hlen hDl hDl2 hD2
      go_wp2_with (fail)
      have hcv := HS.out _ hB1
      obtain ⟨_, _, _, _, hcv⟩ := hcv
      go_region_with ((first | (go_at_call 199; refine (HPU.out 1).mono ?_; rintro e w' ⟨hb, he⟩; rw [HN2.out] at he; subst he)))
      all_goals
        have hi32 : IntKind.i32.wrap (n : Int) = n := by rw [IntKind.wrap_i32]; omega
        go_wp2
        go_ret2
        exact ⟨rfl, (hf.drewN 1).below hb, i + 4, (HJ2.out.drewN 1).below hb, by rw [hD3.out]⟩
set_option maxHeartbeats 1000000 in
set_option maxRecDepth 100000 in
theorem getU_none {w : World} {j : Nat} {A : Option Addr} {c : Nat} {D r xs : List UInt8} {d : Nat} (h : JR w j A c D (xs ++ r) d)
    (hl : xs.length = 4) (h7 : ∀ x ∈ xs, x.toNat ≤ 127) (hn : hexN 0 xs = none) :
    Calls Tryz.prog 171 #[.pointer (some ⟨j, 0, none⟩)] w (UErr w j A c D d) := by
  have HN := Lib.hid hn
  clear hn
  obtain ⟨i, hJ, hD⟩ := h
  have c1 := hJ.c1
  have HD := Lib.hid hD
  have HJ := Lib.hid (show JR w j A c D (xs ++ r) d from ⟨i, hJ, hD⟩)
  have HL := Lib.hid hl
  clear hD hJ hl
  go_enter Tryz.func171, Tryz.ntmps171
  go_wp2
  go_loopg [5] 4 (fun kq v5 wr => ∃ k : Nat, k ≤ 4 ∧ v5 = .int .i64 k ∧ Hid (kq + k = 4) ∧ Fr j w wr ∧ JR wr j A c D (xs.drop k ++ r) d)
  case atStart => exact ⟨0, by omega, rfl, rfl, Fr.refl _ _, HJ.out⟩
  case round =>
    obtain ⟨k, hk, rfl, hkq, hf, hJ⟩ := hrel
    clear c1
    by_cases hk4 : k < 4
    · obtain ⟨y, ys, hy⟩ : ∃ y ys, xs.drop k = y :: ys := by
        cases e : xs.drop k with
        | nil => have := congrArg List.length e; have := HL.out; simp at *; omega
        | cons y ys => exact ⟨y, ys, rfl⟩
      have hyx : y ∈ xs := List.mem_of_mem_drop (by rw [hy]; simp)
      have hy7 := h7 y hyx
      rw [hy] at hJ
      have HY := Lib.hid (drop_cons hy).2
      clear hy hyx h7
      go_wp2_with (go_at_call 130; refine (next_cons hJ hy7).mono ?_; rintro e w' ⟨rfl, hf1, hq⟩)
      go_roundg (3 - k)
      case measure => have := hkq.out; omega
      case rel => exact ⟨k + 1, by omega, by go_num, by show _ = _; have := hkq.out; omega, hf.trans hf1, by rw [HY.out]; exact hq.toR⟩
    · obtain rfl : k = 4 := by omega
      have hx4 : xs.drop 4 = [] := List.drop_eq_nil_of_le (by have := HL.out; omega)
      rw [hx4] at hJ
      obtain ⟨i2, hJ2, hD2⟩ := hJ
      have hlen := HL.out
      have hDl := congrArg List.length HD.out
      have hDl2 := congrArg List.length hD2
      simp only [List.length_drop, List.length_append, List.nil_append] at hDl hDl2
      have hile := hJ2.ile
      obtain rfl : i2 = i + 4 := by omega
      have hat : ∀ t, t < 4 → D[i + t]? = some (xs.getD t 0) := fun t ht => by
        have h1 : D[i + t]? = (D.drop i)[t]? := by rw [List.getElem?_drop]
        rw [h1, HD.out, List.getElem?_append_left (by omega), List.getD_eq_getElem?_getD, List.getElem?_eq_getElem (by omega)]; rfl
      obtain ⟨b, off, rfl, hbj, hbl, hcb⟩ := hJ2.dat _ _ (hat 0 (by omega))
      have hcell : ∀ t, t < 4 → wr.cell? ⟨b, (off + i) + t, none⟩ = some (.int .u8 ((xs.map fun x => (x.toNat : Int)).getD t 0)) := fun t ht => by
        obtain ⟨b', off', e1, _, _, h3⟩ := hJ2.dat _ _ (hat t ht)
        cases e1
        rw [Nat.add_assoc, h3]
        simp [List.getD_eq_getElem?_getD, List.getElem?_eq_getElem (show t < xs.length by omega)]
      have hconv : ∀ (W : World), Below wr.heap.size wr W → ∀ cp : Nat, (convert 31 9 (.slice (some ⟨b, off + i, none⟩) 4 cp)).run Tryz.prog W = .ok (.string (strOfNums (xs.map fun x => (x.toNat : Int)))) W := fun W hW cp =>
        run_convert_bytes_arg (P := Tryz.prog) W 31 5 Tryz.underlying31 Tryz.underlying5 b (off + i) 4 cp _ (by simp [hlen]) (fun t ht => (hW.cell (p := ⟨b, off + i + t, none⟩) hbl).trans (hcell t ht)) 9 Tryz.underlying9
      have c0' := hJ2.c0
      have c1' := hJ2.c1
      have hc1 := hJ2.cap.1
      have hc2 := hJ2.cap.2
      have hDlen := hJ2.len
      obtain ⟨N, hNj, hT⟩ := hJ2.tl
      have HPU := Lib.hid (fun m => parseUint_hex (strOfNums (xs.map fun x => (x.toNat : Int))) (wr.drewN m) (hT.drewN m) (by rw [strOfNums_size]; simp [hlen]) (by rw [strOfNums_size]; simp [hlen]))
      have HN2 := Lib.hid (show hexN 0 (strOfNums (xs.map fun x => (x.toNat : Int))).data.toList = none by rw [strOfNums_toNats]; exact HN.out)
      have hs1 : (i : Int) ≤ (i : Int) + 4 := by omega
      have hs2 : (i : Int) + 4 ≤ (c : Int) := by omega
      have hs3 : ((i : Int) + 4).toNat - i = 4 := by omega
      have HC := Lib.hid hconv
      have hB1 : Below wr.heap.size wr wr.drew := (Below.refl _ _).drew
      have hjl := hJ2.lt
      have HS := Lib.hid (show ∀ W, Below wr.heap.size wr W → (W.cell? ⟨j, 0, none⟩ = some (.slice (some ⟨b, off, none⟩) D.length c) ∧ W.cell? ⟨j, 1, none⟩ = some (.int .i64 ((i + 4 : Nat) : Int)) ∧ Below wr.heap.size wr W ∧ TL N W ∧ (convert 31 9 (.slice (some ⟨b, off + i, none⟩) 4 (c - i))).run Tryz.prog W = .ok (.string (strOfNums (xs.map fun x => (x.toNat : Int)))) W) from
        fun W hW => ⟨(hW.cell (p := ⟨j, 0, none⟩) hjl).trans c0', (hW.cell (p := ⟨j, 1, none⟩) hjl).trans c1', hW, hT.below hW, hconv W hW _⟩)
      clear hconv
      have HJ2 := Lib.hid hJ2
      clear hcell hat hcb hJ2 hx4 hlen hDl hDl2 hD2
      go_wp2_with (fail)
      have hcv := HS.out _ hB1
      obtain ⟨_, _, _, _, hcv⟩ := hcv
      go_region_with ((first | (go_at_call 199; refine (HPU.out 1).mono ?_; rintro e w' ⟨hb, he⟩; rw [HN2.out] at he; obtain ⟨v, rfl⟩ := he)))
      all_goals
        go_wp2
        go_ret2
        exact ⟨_, ⟨_, _, rfl⟩, rfl, (hf.drewN 1).below hb, _, i + 4, (HJ2.out.drewN 1).below hb, rfl⟩
set_option maxHeartbeats 1000000 in
theorem getU_short {w : World} {j : Nat} {A : Option Addr} {c : Nat} {D rest : List UInt8} {d : Nat} (h : JR w j A c D rest d)
    (hno : ¬ ∃ xs r, rest = xs ++ r ∧ xs.length = 4 ∧ ∀ x ∈ xs, x.toNat ≤ 127) :
    Calls Tryz.prog 171 #[.pointer (some ⟨j, 0, none⟩)] w (UErr w j A c D d) := by
  obtain ⟨i, hJ, hD⟩ := h
  have c1 := hJ.c1
  have HJ := Lib.hid (show JR w j A c D rest d from ⟨i, hJ, hD⟩)
  have HNO := Lib.hid hno
  clear hD hJ hno
  go_enter Tryz.func171, Tryz.ntmps171
  go_wp2
  go_loopg [5] 4 (fun kq v5 wr => ∃ k : Nat, k ≤ 4 ∧ v5 = .int .i64 k ∧ Hid (kq + k = 4) ∧ Fr j w wr ∧ JR wr j A c D (rest.drop k) d ∧ Hid (k ≤ rest.length ∧ ∀ x ∈ rest.take k, x.toNat ≤ 127))
  case atStart => exact ⟨0, by omega, rfl, rfl, Fr.refl _ _, HJ.out, Nat.zero_le _, by simp⟩
  case round =>
    obtain ⟨k, hk, rfl, hkq, hf, hJ, hall⟩ := hrel
    clear c1
    by_cases hk4 : k < 4
    · by_cases hy : ∃ y ys, rest.drop k = y :: ys ∧ y.toNat ≤ 127
      · obtain ⟨y, ys, hy, hy7⟩ := hy
        rw [hy] at hJ
        have hdr := drop_cons hy
        have HY := Lib.hid hdr.2
        have HA := Lib.hid (show k + 1 ≤ rest.length ∧ ∀ x ∈ rest.take (k + 1), x.toNat ≤ 127 by
          have hkl := (List.getElem?_eq_some_iff.1 hdr.1).1
          refine ⟨hkl, fun x hx => ?_⟩
          rw [List.take_add_one, hdr.1] at hx
          rcases List.mem_append.1 hx with hx | hx
          · exact hall.out.2 x hx
          · have : x = y := by simpa using hx
            rw [this]; exact hy7)
        clear hy hdr hall
        go_wp2_with (go_at_call 130; refine (next_cons hJ hy7).mono ?_; rintro e w' ⟨rfl, hf1, hq⟩)
        go_roundg (3 - k)
        case measure => have := hkq.out; omega
        case rel => exact ⟨k + 1, by omega, by go_num, by show _ = _; have := hkq.out; omega, hf.trans hf1, by rw [HY.out]; exact hq.toR, HA⟩
      · have HS := Lib.hid (show ∀ x r, rest.drop k = x :: r → 127 < x.toNat from fun x r e => by
          rcases Nat.lt_or_ge 127 x.toNat with h | h
          · exact h
          · exact absurd ⟨x, r, e, h⟩ hy)
        clear hy hall
        go_wp2_with (go_at_call 130; refine (next_stop hJ HS.out).mono ?_; rintro e w' ⟨v, ⟨t, a, rfl⟩, rfl, hf1, hq⟩)
        go_ret2
        exact ⟨_, ⟨_, _, rfl⟩, rfl, hf.trans hf1, hq⟩
    · obtain rfl : k = 4 := by omega
      exact absurd ⟨rest.take 4, rest.drop 4, (List.take_append_drop 4 rest).symm, by rw [List.length_take]; have := hall.out.1; omega, hall.out.2⟩ HNO.out

theorem getU_err {w : World} {j : Nat} {A : Option Addr} {c : Nat} {D rest : List UInt8} {d : Nat} (h : JR w j A c D rest d)
    (hr : ∀ xs r, rest = xs ++ r → xs.length = 4 → (∀ x ∈ xs, x.toNat ≤ 127) → hexN 0 xs = none) :
    Calls Tryz.prog 171 #[.pointer (some ⟨j, 0, none⟩)] w (UErr w j A c D d) := by
  by_cases h4 : ∃ xs r, rest = xs ++ r ∧ xs.length = 4 ∧ ∀ x ∈ xs, x.toNat ≤ 127
  · obtain ⟨xs, r, rfl, hl, h7⟩ := h4
    exact getU_none h hl h7 (hr xs r rfl hl h7)
  · exact getU_short h h4

set_option maxRecDepth 100000 in
set_option maxHeartbeats 400000 in
theorem isSurr_yes (n : Int) (w : World) (h1 : 55296 ≤ n) (h2 : n < 57344) :
    Calls Tryz.prog 172 #[.int .i32 n] w fun e w' => e = .returned (.bool true) ∧ w = w' := by
  go_enter Tryz.func172, Tryz.ntmps172
  go_wp2
  go_ret
  exact ⟨rfl, rfl⟩
set_option maxRecDepth 100000 in
set_option maxHeartbeats 400000 in
theorem isSurr_no (n : Int) (w : World) (h : n < 55296 ∨ 57344 ≤ n) :
    Calls Tryz.prog 172 #[.int .i32 n] w fun e w' => e = .returned (.bool false) ∧ w = w' := by
  rcases h with h | h
  · go_enter Tryz.func172, Tryz.ntmps172
    go_wp2
    go_ret
    exact ⟨rfl, rfl⟩
  · have hd : decide (n < 57344) = false := decide_eq_false (by omega)
    go_enter Tryz.func172, Tryz.ntmps172
    go_wp2
    go_ret
    exact ⟨by rw [← hd]; rfl, rfl⟩
open Go in
theorem i32_or10 {x y : Int} (hx₀ : 0 ≤ x) (hx : x % 1024 = 0) (hx₁ : x < 2147483648) (h₀ : 0 ≤ y) (h₁ : y < 1024) : bits .or .i32 x y = x + y :=
  bits_join .i32 31 (by decide) wraps_i32 10 x y hx₀ hx hx₁ h₀ h₁ (by omega)
set_option maxRecDepth 100000 in
set_option maxHeartbeats 400000 in
theorem u16Decode_any (n m : Int) (w : World) (h1 : 55296 ≤ n) (h2 : n < 56320) (h3 : 56320 ≤ m) (h4 : m < 57344) :
    Calls Tryz.prog 174 #[.int .i32 n, .int .i32 m] w fun e w' => e = .returned (.int .i32 ((n - 55296) * 1024 + (m - 56320) + 65536)) ∧ w = w' := by
  have hb : bits .or .i32 ((n - 55296) * 1024) (m - 56320) = (n - 55296) * 1024 + (m - 56320) := i32_or10 (by omega) (by omega) (by omega) (by omega) (by omega)
  have hw : wrap32 ((n - 55296) * 1024 + (m - 56320) + 65536) = (n - 55296) * 1024 + (m - 56320) + 65536 := by unfold wrap32; omega
  have HB := Lib.hid hb
  have HW := Lib.hid hw
  clear hb hw
  go_enter Tryz.func174, Tryz.ntmps174
  go_wp2
  go_ret
  refine ⟨?_, rfl⟩
  show Ending.returned (Value.int IntKind.i32 (wrap32 (bits BinOp.or IntKind.i32 ((n - 55296) * 1024) (m - 56320) + 65536))) = _
  rw [HB.out, HW.out]
end Go.Proofs.YtjganhmbjffjfaaGreatDoor
