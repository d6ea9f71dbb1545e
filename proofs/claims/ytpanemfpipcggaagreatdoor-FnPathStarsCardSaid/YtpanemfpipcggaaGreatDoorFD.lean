/- IsDelegatedPath at roles of paths. -/
import Derived.Test.YtpanemfpipcggaaGreatDoorF7
open Go Go.RowKit
namespace Go.Proofs.YtpanemfpipcggaaGreatDoor
/-- What IsDelegatedPath leaves. -/
def IdP (b : Bool) (w : World) (e : Ending) (w' : World) : Prop := e = .returned (.tuple #[.bool b, .nilIface]) ∧ Below w.heap.size w w'
theorem any_drop {f : List UInt8 → Bool} {l : List (List UInt8)} {k : Nat} {a : List UInt8} (h : l[k]? = some a) : (l.drop k).any f = (f a || (l.drop (k + 1)).any f) := by
  obtain ⟨h1, rfl⟩ := List.getElem?_eq_some_iff.1 h
  rw [List.drop_eq_getElem_cons h1, List.any_cons]
set_option maxRecDepth 100000 in
set_option maxHeartbeats 8000000 in
theorem isDel_any {g : Nat} {nm : ByteArray} {thr : Int} {tm : Bool} {pv : Value} {l : List (List UInt8)} {t : ByteArray} {w : World} (hg : w.heap[g]? = some (.cells #[.string nm, .slice none 0 0, .int .i64 thr, .bool tm, .slice none 0 0, pv] 87 (0, 0)))
    (hp : TxtB w pv l) (hq : ∀ a ∈ l, QuietL a ∧ a.length ≤ 4294967290) (ht : AsciiL t.data.toList) (htl : t.size ≤ 4294967290) :
    Calls Tryz.prog 38 #[.pointer (some ⟨g, 0, none⟩), .string t] w (IdP (l.any fun a => tipB t.data.toList a) w) := by
  have hgl : g < w.heap.size := by
    rcases Nat.lt_or_ge g w.heap.size with h | h
    · exact h
    · rw [Array.getElem?_eq_none h] at hg; cases hg
  have HC : Hid (∀ W, Below w.heap.size w W → W.cell? ⟨g, 4, none⟩ = some (.slice none 0 0) ∧ W.cell? ⟨g, 5, none⟩ = some pv) := by
    refine Lib.hid fun W hb => ?_
    have hc := (hb.block g hgl).trans hg
    constructor <;> simp [World.cell?, hc]
  have HQ := Lib.hid hq
  have HT := Lib.hid ht
  clear hg hq ht
  obtain ⟨c4, c5⟩ := HC.out w (Below.refl _ _)
  rcases hp with ⟨rfl, rfl⟩ | ⟨ad, cp, rfl, hl, hc⟩
  · go_enter Tryz.func38, Tryz.ntmps38
    go_wp2_with (fail)
    refine bodyPost_ret (v := .tuple #[.bool false, .nilIface]) (by simp [results, Tryz.results38, go_sem]) rfl ⟨rfl, Below.refl _ _⟩
  · have HCELL : Hid (∀ W, Below w.heap.size w W → ∀ (j : Nat) (a : List UInt8), l[j]? = some a → W.cell? (ad.add j) = some (.string (bs a))) := Lib.hid fun W hb j a hj => (hb.cell (p := ad.add j) (cell_lt (hc j a hj))).trans (hc j a hj)
    clear hc
    obtain ⟨n, hn⟩ : ∃ n, n = l.length := ⟨_, rfl⟩
    have HN := Lib.hid hn
    rw [← hn] at hl c5
    rw [← hn] at HC
    clear hn
    by_cases h0 : 0 < n
    · have i0 : (0 : Int) < (n : Int) := by omega
      go_enter Tryz.func38, Tryz.ntmps38
      go_wp2_with (fail)
      go_loopg [22] n (fun gk2 v wr => ∃ k : Nat, k + gk2 = n ∧ v = .int .i64 k ∧ Hid ((l.drop k).any (fun a => tipB t.data.toList a) = l.any fun a => tipB t.data.toList a) ∧ Hid (Below w.heap.size w wr))
      case atStart => exact ⟨0, by omega, rfl, by rw [List.drop_zero]; exact Lib.hid rfl, Lib.hid (Below.refl _ _)⟩
      case round =>
        obtain ⟨k, hk, rfl, HK, HB⟩ := hrel
        cases gk with
        | zero =>
          have hkn : ¬ (k : Int) < (n : Int) := by omega
          have HE : Hid (false = l.any fun a => tipB t.data.toList a) := Lib.hid (by rw [← HK.out, List.drop_of_length_le (by rw [← HN.out]; omega)]; rfl)
          clear hk c4 c5
          obtain ⟨d4, d5⟩ := HC.out wr HB.out
          go_wp2_with (fail)
          refine bodyPost_ret (v := .tuple #[.bool false, .nilIface]) (by simp [results, Tryz.results38, go_sem]) rfl ⟨by rw [← HE.out], HB.out⟩
        | succ g3 =>
          have hlt : k < n := by omega
          have hk1 : k + 1 + g3 = n := by omega
          have HK1 := Lib.hid hk1
          have hki : (k : Int) < (n : Int) := by omega
          obtain ⟨a, ha⟩ : ∃ a, l[k]? = some a := ⟨_, List.getElem?_eq_getElem (by rw [← HN.out]; exact hlt)⟩
          have ca := HCELL.out wr HB.out k a ha
          obtain ⟨hqa, hla⟩ := HQ.out a (List.mem_of_getElem? ha)
          have HP := fun w => Lib.hid (inPattern_any (t := t) (p := bs a) HT.out (by rw [bs_data]; exact hqa) htl (by rw [bs_size]; exact hla) w)
          unfold BoolP at HP
          simp only [bs_data] at HP
          obtain ⟨sa, hsa⟩ : ∃ sa, sa = bs a := ⟨_, rfl⟩
          obtain ⟨β, hβ⟩ : ∃ β, β = tipB t.data.toList a := ⟨_, rfl⟩
          rw [← hsa] at ca HP
          rw [← hβ] at HP
          have HST : Hid ((l.drop k).any (fun a => tipB t.data.toList a) = (β || (l.drop (k + 1)).any fun a => tipB t.data.toList a)) := Lib.hid (by rw [any_drop ha, hβ])
          clear hk hk1 ha hqa hla hsa hβ c4 c5
          cases β with
          | true =>
            have HE : Hid (true = l.any fun a => tipB t.data.toList a) := Lib.hid (by rw [← HK.out, HST.out, Bool.true_or])
            go_wp2_with (go_at_call 62; refine (HP _).out.mono ?_; rintro e w2 ⟨rfl, hb⟩)
            have HB2 := Lib.hid (HB.out.trans (hb.mono HB.out.size))
            clear hb
            refine bodyPost_ret (v := .tuple #[.bool true, .nilIface]) (by simp [results, Tryz.results38, go_sem]) rfl ⟨by rw [← HE.out], HB2.out⟩
          | false =>
            have HK2 : Hid ((l.drop (k + 1)).any (fun a => tipB t.data.toList a) = l.any fun a => tipB t.data.toList a) := Lib.hid (by rw [← HK.out, HST.out, Bool.false_or])
            go_wp2_with (go_at_call 62; refine (HP _).out.mono ?_; rintro e w2 ⟨rfl, hb⟩)
            have HB2 := Lib.hid (HB.out.trans (hb.mono HB.out.size))
            clear hb
            go_roundg g3
            case measure => omega
            case rel => exact ⟨k + 1, HK1.out, by first | rfl | go_num, HK2, HB2⟩
    · have hn0 : n = 0 := by omega
      subst hn0
      have HE : Hid (l = []) := Lib.hid (List.length_eq_zero_iff.1 HN.out.symm)
      go_enter Tryz.func38, Tryz.ntmps38
      go_wp2_with (fail)
      refine bodyPost_ret (v := .tuple #[.bool false, .nilIface]) (by simp [results, Tryz.results38, go_sem]) rfl ⟨by rw [HE.out]; rfl, Below.refl _ _⟩
end Go.Proofs.YtpanemfpipcggaaGreatDoor
