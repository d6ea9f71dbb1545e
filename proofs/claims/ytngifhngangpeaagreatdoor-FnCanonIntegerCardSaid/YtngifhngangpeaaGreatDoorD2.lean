/- A slice of bytes that reads as a list; strconv.Itoa; impl.PAE. -/
import Derived.Test.YtngifhngangpeaaGreatDoorD1
import Derived.Test.YtngifhngangpeaaGreatDoorShelf
import Derived.Lib.ItoaLen
import Derived.Lib.AppendIntMem
import Derived.Laws.AppendOwnNone
import Derived.Laws.IdiomStrings
import Derived.Lib.BufferRead
open Go Go.RowKit
namespace Go.Proofs.YtngifhngangpeaaGreatDoor
/-- A value that reads as the bytes l. -/
def BSrc (w : World) (v : Value) (l : List UInt8) : Prop :=
  (v = .slice none 0 0 ∧ l = []) ∨ ∃ ad cp, v = .slice (some ad) l.length cp ∧ l.length ≤ maxLen ∧ ∀ (j : Nat) (x : UInt8), l[j]? = some x → w.cell? (ad.add j) = some (.int .u8 x.toNat)
theorem cell_lt {w : World} {p : Addr} {u : Value} (h : w.cell? p = some u) : p.block < w.heap.size := by
  rcases Nat.lt_or_ge p.block w.heap.size with hl | hl
  · exact hl
  · unfold World.cell? at h
    rw [Array.getElem?_eq_none hl] at h
    cases h
theorem BSrc.stay {w w' : World} {v : Value} {l : List UInt8} (hs : BSrc w v l) (hb : Below w.heap.size w w') : BSrc w' v l := by
  rcases hs with h | ⟨ad, cp, rfl, h1, h3⟩
  · exact .inl h
  · exact .inr ⟨ad, cp, rfl, h1, fun j x hj => (hb.cell (p := ad.add j) (cell_lt (h3 j x hj))).trans (h3 j x hj)⟩
theorem BSrc.of_row {w : World} {B : Nat} {v : Value} {l : List UInt8} (h : w.ownsRow B 5 1 v l.length (Lib.byteCells l)) : BSrc w v l := by
  rcases h.2 with ⟨rfl, h0⟩ | ⟨g, cap, cur, rfl, _, hg, h3, h4, _⟩
  · refine .inl ⟨rfl, ?_⟩
    cases l with
    | nil => rfl
    | cons x l => cases h0
  · refine .inr ⟨⟨g, 0, none⟩, cap, rfl, Nat.le_trans h3 h4, fun j x hj => ?_⟩
    exact h.cells (g := g) rfl j _ (by rw [Lib.byteCells, List.getElem?_map, hj]; rfl)
theorem BSrc.conv {w : World} {v : Value} {l : List UInt8} (h : BSrc w v l) : (convert 22 9 v).run Tryz.prog w = .ok (.string ⟨l.toArray⟩) w := by
  rcases h with ⟨rfl, rfl⟩ | ⟨ad, cp, rfl, _, h3⟩
  · exact Lib.run_convert_nil_bytes w _ _ 5 0 Tryz.underlying22 Tryz.underlying5 Tryz.underlying9
  · exact run_convert_bytes_back w _ _ 5 ad cp l Tryz.underlying22 Tryz.underlying5 Tryz.underlying9 fun j hj => h3 j _ (List.getElem?_eq_getElem hj)
theorem BSrc.len {w : World} {v : Value} {l : List UInt8} (h : BSrc w v l) : l.length ≤ maxLen := by
  rcases h with ⟨_, rfl⟩ | ⟨ad, cp, _, h1, _⟩
  · exact Nat.zero_le _
  · exact h1
theorem BytesPost.src {t : List UInt8} {w w' : World} {e : Ending} (h : BytesPost t w e w') : ∃ v, e = .returned v ∧ BSrc w' v t ∧ Below w.heap.size w w' := by
  obtain ⟨v, B, rfl, _, ho, hb⟩ := h
  exact ⟨v, rfl, .of_row ho, hb⟩
theorem itoa_at (n : Nat) (hn : n ≤ 1073741824) : ItoaAt n := by
  rintro w ⟨N, hN⟩
  refine (Tryz.strconv_Itoa n (by omega) (by omega) w hN.tab).mono ?_
  rintro e w' ⟨rfl, k, os, rfl⟩
  exact ⟨rfl, Go.Lib.below_grow _ _ (Nat.le_refl _) _ _⟩
theorem itoa_short (n : Nat) (hn : n ≤ 1073741824) : (Lib.itoa n).length ≤ 40 := Nat.le_trans (Lib.itoa_length_le n (by omega) (by omega)) (by decide)
set_option maxRecDepth 100000 in
set_option maxHeartbeats 4000000 in
theorem implPAE_any (kind : ByteArray) {body : List UInt8} {v : Value} {N : Nat} {w : World} (hv : BSrc w v body) (hk : kind.size ≤ 1073741824) (hb : body.length ≤ 1073741824) (hN : TL N w) :
    Calls Tryz.prog 14 #[.string kind, v] w (BytesPost (paeB kind.data.toList body) w) := by
  obtain ⟨i0, hi, hz0, hz1, hz2⟩ := info_parts info_u8
  have HN := Lib.hid hN
  have HOWN : Hid ((w.alloc (.cells #[] 5)).ownsRow w.heap.size 5 1 (.slice (some ⟨w.heap.size, 0, none⟩) 0 0) 0 []) :=
    ⟨rfl, .inr ⟨w.heap.size, 0, #[], rfl, Nat.le_refl _, alloc_at w _, Nat.le_refl _, by decide, rfl, rfl⟩⟩
  have HB1 : Hid (Below w.heap.size w (w.alloc (.cells #[] 5))) := (Below.refl _ _).alloc (Nat.le_refl _) _
  have hs1 : (w.alloc (.cells #[] 5)).heap.size = w.heap.size + 1 := World.size_alloc _ _
  obtain ⟨W, hW⟩ : ∃ W, W = w.alloc (.cells #[] 5) := ⟨_, rfl⟩
  rw [← hW] at HOWN HB1 hs1
  have HW := Lib.hid hW
  clear hN hW
  rcases hv with ⟨rfl, rfl⟩ | ⟨ad, cp, rfl, hc2, hcell⟩
  · go_enter Tryz.func14, Tryz.ntmps14
    go_wp2_with (at_builtin; rw [← HW.out]; refine wpList_append_own_none rfl _ _ 22 rfl w.heap.size 5 i0 1 Tryz.underlying22 hi (.slice (some ⟨w.heap.size, 0, none⟩) 0 0) 0 [] rfl HOWN.out rfl ?_)
    go_wp2_with (fail)
    refine (dssePAE_any kind (body := []) (a := w.heap.size) (cp := 0) (N := N) (w := W) (fun i x hx => by cases hx) (by omega) hk hb ⟨Nat.le_refl _, by decide⟩ (HN.out.mono HN.out.le HB1.out) (itoa_at _ hk) (itoa_at _ hb) itoa_short).mono ?_
    rintro e w2 ⟨v, B, rfl, hB, ho, hbl⟩
    have HP : Hid (BytesPost (paeB kind.data.toList []) w (.returned v) w2) := ⟨v, B, rfl, by omega, ho, HB1.out.trans (hbl.mono (by omega))⟩
    clear ho hbl
    go_wp2_with (fail)
    go_ret
    exact HP.out
  · have HNEW : Hid (∀ (j : Nat) (u : Value), (Lib.byteCells body)[j]? = some u → W.cell? (ad.add j) = some u) := by
      intro j u hu
      rw [Lib.byteCells, List.getElem?_map] at hu
      cases e : body[j]? with
      | none => rw [e] at hu; cases hu
      | some y =>
        rw [e] at hu
        cases hu
        exact (HB1.out.cell (p := ad.add j) (cell_lt (hcell j y e))).trans (hcell j y e)
    clear hcell
    go_enter Tryz.func14, Tryz.ntmps14
    go_wp2_with (at_builtin; rw [← HW.out]; refine wpList_append_own_at _ rfl _ _ 22 rfl w.heap.size 5 i0 (.int .u8 0) 1 1 Tryz.underlying22 hi hz0 hz1 hz2 rfl (by decide) _ _ _ rfl HOWN.out ad body.length cp (Lib.byteCells body) rfl (by rw [byteCells_length, Nat.mul_one]) HNEW.out (byte_one body) (by unfold maxLen; omega) (by omega) (by omega) ?_)
    intro v' w4 hown hgr hnil hat
    obtain ⟨g, cap, cur, rfl, hg1, hg2, hg3, hg4⟩ : ∃ g cap cur, v' = .slice (some ⟨g, 0, none⟩) body.length cap ∧ w.heap.size ≤ g ∧ w4.heap[g]? = some (.cells cur 5 (0, 0)) ∧ body.length ≤ cap ∧ cap ≤ maxLen := by
      rcases hown.2 with ⟨rfl, _⟩ | ⟨g, cap, cur, rfl, h1, h2, h3, h4, _⟩
      · exact absurd rfl hnil
      · exact ⟨g, cap, cur, rfl, h1, h2, h3, h4⟩
    have hB4 : Below w.heap.size W w4 := ⟨hgr.os, hgr.tape, hgr.output, hgr.size, fun k hk => hgr.block k (by rw [hs1]; omega) (fun e => by simp [Value.ownBlock] at e; omega)⟩
    have HBW := Lib.hid (HB1.out.trans hB4)
    have hgl : g < w4.heap.size := by
      rcases Nat.lt_or_ge g w4.heap.size with h | h
      · exact h
      · rw [Array.getElem?_eq_none h] at hg2; cases hg2
    have hs4 : w.heap.size + 1 ≤ w4.heap.size := by have := hgr.size; omega
    have HD4 : Hid (∀ (i : Nat) (x : UInt8), body[i]? = some x → w4.cell? ⟨g, i, none⟩ = some (.int .u8 x.toNat)) := by
      intro i x hx
      have := hown.cells (g := g) rfl i (.int .u8 x.toNat) (by rw [Lib.byteCells, List.getElem?_map, hx]; rfl)
      rw [addrAdd, Nat.zero_add] at this
      exact this
    unfold maxLen at hg4
    clear hown hgr hnil hat hg2 hB4 HNEW HOWN HW
    go_wp2_with (fail)
    refine (dssePAE_any kind (a := g) (cp := cap) (N := N) (w := w4) HD4.out hgl hk hb ⟨hg3, hg4⟩ (HN.out.mono HN.out.le HBW.out) (itoa_at _ hk) (itoa_at _ hb) itoa_short).mono ?_
    rintro e w2 ⟨v, B, rfl, hB, ho, hbl⟩
    have HP : Hid (BytesPost (paeB kind.data.toList body) w (.returned v) w2) := ⟨v, B, rfl, by omega, ho, HBW.out.trans (hbl.mono (by omega))⟩
    clear ho hbl
    go_wp2_with (fail)
    go_ret
    exact HP.out
end Go.Proofs.YtngifhngangpeaaGreatDoor
