/- laws.FnCanonRefuses. -/
import Derived.Test.YtpkkokhoeiimcaaGreatDoorT6
import Derived.Test.YtpkkokhoeiimcaaGreatDoorT8
import Derived.Test.YtpkkokhoeiimcaaGreatDoorA1
open Go Go.RowKit
namespace Go.Proofs.YtpkkokhoeiimcaaGreatDoor
/-- What the loop keeps: the box holds a value that is refused. -/
def RefR (w : World) (B : Nat) (wr : World) : Prop :=
  ∃ (k x : ByteArray) (ko : Option Addr) (m kp : Nat) (lo : Option Addr) (n lp : Nat), Below B w wr ∧ wr.heap[B]? = some (.cells #[.string k, .string x, .slice ko m kp, .slice lo n lp] 56 (0, 0)) ∧ BadV B wr k x ko m kp lo n lp
/-- The box written, a new row laid. -/
def refW (wr : World) (B : Nat) (v0 v1 v2 v3 : Value) (o : Obj) : World := ((((wr.setCell ⟨B, 0, none⟩ v0).setCell ⟨B, 1, none⟩ v1).setCell ⟨B, 2, none⟩ v2).setCell ⟨B, 3, none⟩ v3).alloc o
theorem ref_size (wr : World) (B : Nat) (v0 v1 v2 v3 : Value) : ((((wr.setCell ⟨B, 0, none⟩ v0).setCell ⟨B, 1, none⟩ v1).setCell ⟨B, 2, none⟩ v2).setCell ⟨B, 3, none⟩ v3).heap.size = wr.heap.size := by
  rw [World.size_setCell', World.size_setCell', World.size_setCell', World.size_setCell']
theorem ref_heap {wr : World} {B : Nat} {u0 u1 u2 u3 : Value} (h : wr.heap[B]? = some (.cells #[u0, u1, u2, u3] 56 (0, 0))) (v0 v1 v2 v3 : Value) (o : Obj) :
    (refW wr B v0 v1 v2 v3 o).heap[B]? = some (.cells #[v0, v1, v2, v3] 56 (0, 0)) := by
  have hBl : B < wr.heap.size := (Array.getElem?_eq_some_iff.1 h).1
  unfold refW
  rw [Below.heap_alloc _ _ _ (by rw [ref_size]; exact hBl)]
  simp [World.setCell, Array.getElem?_modify, h]
theorem ref_fr (wr : World) (B : Nat) (v0 v1 v2 v3 : Value) (o : Obj) : Fr B wr (refW wr B v0 v1 v2 v3 o) :=
  (((((Fr.refl B wr).setCell (.inl rfl) v0).setCell (.inl rfl) v1).setCell (.inl rfl) v2).setCell (.inl rfl) v3).alloc o
theorem ref_new (wr : World) (B : Nat) (v0 v1 v2 v3 : Value) (C : Array Value) : (refW wr B v0 v1 v2 v3 (.cells C 56)).heap[wr.heap.size]? = some (.cells C 56 (0, 0)) := by
  have := alloc_at ((((wr.setCell ⟨B, 0, none⟩ v0).setCell ⟨B, 1, none⟩ v1).setCell ⟨B, 2, none⟩ v2).setCell ⟨B, 3, none⟩ v3) (.cells C 56)
  rw [ref_size] at this
  exact this
set_option maxRecDepth 100000 in
set_option maxHeartbeats 16000000 in
theorem fnCanonRefuses_any {v : Value} {t : VT} {w : World} (h : VR w v t) (d : Nat) (hd : d < 256) (hN : TL w.heap.size w) :
    Calls Tryz.prog 6 #[v, .int .u8 d] w fun e w' => e = .returned (.bool true) ∧ Below w.heap.size w w' := by
  obtain ⟨kv, lv, rfl, hk, ht, hs, hl⟩ := h.ex
  have hvl : VR w (.agg #[.string ⟨#[108, 105, 115, 116]⟩, .string ⟨#[]⟩, .slice none 0 0, lv]) (.mk ⟨#[108, 105, 115, 116]⟩ ⟨#[]⟩ [] t.list) := ⟨_, _, rfl, by show (4 : Nat) ≤ _; omega, by show (0 : Nat) ≤ _; omega, .inl ⟨rfl, rfl⟩, hl⟩
  obtain ⟨k, hkk⟩ : ∃ k, k = t.kind := ⟨_, rfl⟩
  obtain ⟨x, hxx⟩ : ∃ x, x = t.text := ⟨_, rfl⟩
  rw [← hkk] at hk h ⊢
  rw [← hxx] at ht h ⊢
  obtain ⟨lo, lp, rfl, hll⟩ := lr_slice hl
  obtain ⟨ko, kp, rfl, hkl⟩ := strR_slice hs
  obtain ⟨n, hn⟩ : ∃ n, n = t.list.length := ⟨_, rfl⟩
  obtain ⟨m, hm⟩ : ∃ m, m = t.keys.length := ⟨_, rfl⟩
  rw [← hn] at hll hl h hvl ⊢
  rw [← hm] at hkl hs h ⊢
  have HVR := Lib.hid h
  have HVL := Lib.hid hvl
  have HN := Lib.hid hN
  unfold maxLen at hll hkl
  clear h hs hl hkk hxx hn hm hvl hN
  obtain ⟨B, hB⟩ : ∃ B, B = w.heap.size := ⟨_, rfl⟩
  obtain ⟨W1, hW1⟩ : ∃ W1, W1 = w.alloc (.cells #[.string k, .string x, .slice ko m kp, .slice lo n lp] 56) := ⟨_, rfl⟩
  have HB1 : Hid (Below B w W1) := by rw [hW1, hB]; exact Lib.hid ((Below.refl _ _).alloc (Nat.le_refl _) _)
  have HS1 : Hid (W1.heap.size = B + 1) := by rw [hW1, World.size_alloc, hB]; exact Lib.hid rfl
  have HH1 : Hid (W1.heap[B]? = some (.cells #[.string k, .string x, .slice ko m kp, .slice lo n lp] 56 (0, 0))) := by rw [hW1, hB]; exact Lib.hid (alloc_at _ _)
  have HC : Hid (∀ W, Below W1.heap.size W1 W → VB B k x (.slice ko m kp) (.slice lo n lp) W) := by
    intro W hb
    have hc : W.heap[B]? = some (.cells #[.string k, .string x, .slice ko m kp, .slice lo n lp] 56 (0, 0)) := by
      rw [hb.block B (by rw [HS1.out]; omega)]; exact HH1.out
    refine ⟨?_, ?_, ?_, ?_⟩ <;> simp [World.cell?, hc]
  have HBS : Hid (B = w.heap.size) := hB
  have HW1 := Lib.hid hW1
  have HF := fits1_some (HVR.out.stay (by rw [← hB]; exact HB1.out))
  have HF := Lib.hid HF
  rw [← hB]
  clear hW1 hB
  have HAW : Hid (∀ W, Below B w W → Calls Tryz.prog 10 #[] W fun e w' => e = .returned (.bool true) ∧ Below W.heap.size W w') := by
    intro W hb
    exact awake_true _ W (HN.out.mono (Nat.le_refl _) (by rw [← HBS.out]; exact hb))
  have HS2 : Hid (∀ W, Below W1.heap.size W1 W → Below B w W) := fun W hb => HB1.out.trans (hb.mono (by rw [HS1.out]; omega))
  have HSZ : Hid (∀ W, Below B w W → B ≤ W.heap.size) := fun W hb => by rw [HBS.out]; exact hb.size
  obtain ⟨dm, hdm⟩ : ∃ dm, dm = d % 6 := ⟨_, rfl⟩
  have hdm1 : (d : Int) % 6 = (dm : Int) := by omega
  have hdm2 : dm ≤ 5 := by omega
  obtain ⟨c0, c1, c2, c3⟩ := HC.out W1 (Below.refl _ _)
  clear hdm
  go_enter Tryz.func6, Tryz.ntmps6
  go_wp2_with (fail)
  rw [← HBS.out, ← HW1.out]
  refine HF.out.mono ?_
  rintro e w2 ⟨b, rfl, hb⟩
  have HB2 := Lib.hid hb
  clear hb c0 c1 c2 c3
  obtain ⟨c0, c1, c2, c3⟩ := HC.out w2 HB2.out
  cases b with
  | false =>
    go_wp2_with (fail)
    go_ret
    exact ⟨rfl, HS2.out _ HB2.out⟩
  | true =>
    obtain ⟨W3, hW3⟩ : ∃ W3, W3 = w2.alloc (.cells #[.string ⟨#[110, 117, 108, 108]⟩, .string ⟨#[98, 111, 111, 108]⟩, .string ⟨#[110, 117, 109, 98, 101, 114]⟩, .string ⟨#[115, 116, 114, 105, 110, 103]⟩, .string ⟨#[108, 105, 115, 116]⟩, .string ⟨#[111, 98, 106, 101, 99, 116]⟩] 9) := ⟨_, rfl⟩
    have HB3 : Hid (Below W1.heap.size W1 W3) := by rw [hW3]; exact Lib.hid (HB2.out.alloc HB2.out.size _)
    have HAM : Hid (Calls Tryz.prog 17 #[.slice (some ⟨w2.heap.size, 0, none⟩) 6 6, .string k] W3 fun e w' => e = .returned (.bool (amB k kinds6)) ∧ W3 = w') := by
      have hg := alloc_at w2 (.cells #[.string ⟨#[110, 117, 108, 108]⟩, .string ⟨#[98, 111, 111, 108]⟩, .string ⟨#[110, 117, 109, 98, 101, 114]⟩, .string ⟨#[115, 116, 114, 105, 110, 103]⟩, .string ⟨#[108, 105, 115, 116]⟩, .string ⟨#[111, 98, 106, 101, 99, 116]⟩] 9)
      rw [← hW3] at hg
      refine (among_some k (l := kinds6) (fun j s hj => ?_) (by decide)).mono fun _ _ h => ⟨h.1, h.2.symm⟩
      rw [addrAdd, Nat.zero_add, World.cell?, hg]
      match j, hj with
      | 0, hj => cases hj; rfl
      | 1, hj => cases hj; rfl
      | 2, hj => cases hj; rfl
      | 3, hj => cases hj; rfl
      | 4, hj => cases hj; rfl
      | 5, hj => cases hj; rfl
      | j + 6, hj => cases hj
    have e0 := (HC.out W3 HB3.out).1
    rw [hW3] at e0
    have HW3 := Lib.hid hW3
    have HPA : Hid (Calls Tryz.prog 21 #[.agg #[.string ⟨#[108, 105, 115, 116]⟩, .string ⟨#[]⟩, .slice none 0 0, .slice lo n lp], .int .i64 20] W3 (SomeN W3)) :=
      parts_some 20 (by omega) _ _ _ (HVL.out.stay (by rw [← HBS.out]; exact HS2.out _ HB3.out))
    have HBV := fun (h : amB k kinds6 = false) (W : World) => (fun w' _ => value_unknown (x := x) (ko := ko) (lo := lo) (m := m) (kp := kp) (n := n) (lp := lp) (w := w') h : BadV B W k x ko m kp lo n lp)
    have HBO := fun (h : k.toList = [111, 98, 106, 101, 99, 116]) (hmn : m ≠ n) (W : World) => (fun w' _ => value_parts (x := x) (ko := ko) (lo := lo) (m := m) (kp := kp) (n := n) (lp := lp) (w := w') h hmn : BadV B W k x ko m kp lo n lp)
    obtain ⟨am, ham⟩ : ∃ am, am = amB k kinds6 := ⟨_, rfl⟩
    rw [← ham] at HAM HBV
    have HBV := Lib.hid HBV
    have HBO := Lib.hid HBO
    clear hW3 ham
    go_wp2_with (fail)
    rw [← HW3.out]
    refine HAM.out.mono ?_
    rintro e w' ⟨rfl, rfl⟩
    clear c0 c1 c2 c3 e0
    obtain ⟨c0, c1, c2, c3⟩ := HC.out W3 HB3.out
    clear HF HAM HW3
    cases am with
    | false =>
      have HBAD := Lib.hid (HBV.out rfl)
      go_wp2_with (fail)
      refine HPA.out.mono ?_
      rintro e w4 ⟨r, rfl, hr, hb⟩
      have HB4 := Lib.hid (HB3.out.trans (hb.mono HB3.out.size))
      clear hb c0 c1 c2 c3
      obtain ⟨c0, c1, c2, c3⟩ := HC.out w4 HB4.out
      by_cases hr80 : 80 < r
      · have r1 : decide ((80 : Int) < (r : Int)) = true := decide_eq_true (by omega)
        go_wp2_with (fail)
        refine (HAW.out _ (HS2.out _ HB4.out)).mono ?_
        rintro e w9 ⟨rfl, hb⟩
        have HB9 := Lib.hid ((HS2.out _ HB4.out).trans (hb.mono (HSZ.out _ (HS2.out _ HB4.out))))
        clear hb
        go_wp2_with (fail)
        go_ret
        exact ⟨rfl, HB9.out⟩
      have r1 : decide ((80 : Int) < (r : Int)) = false := decide_eq_false (by omega)
      by_cases hm80 : 80 < m
      · have r2 : decide ((80 : Int) < (m : Int)) = true := decide_eq_true (by omega)
        go_wp2_with (fail)
        refine (HAW.out _ (HS2.out _ HB4.out)).mono ?_
        rintro e w9 ⟨rfl, hb⟩
        have HB9 := Lib.hid ((HS2.out _ HB4.out).trans (hb.mono (HSZ.out _ (HS2.out _ HB4.out))))
        clear hb
        go_wp2_with (fail)
        go_ret
        exact ⟨rfl, HB9.out⟩
      have r2 : decide ((80 : Int) < (m : Int)) = false := decide_eq_false (by omega)
      clear hr80 hm80
      go_wp2_with (fail)
      go_loopw [46] (fun i wr => ∃ j : Nat, i = .int .u8 j ∧ j ≤ dm ∧ Hid (RefR w B wr)) (fun i _ => dm - (intOf i).toNat)
      case atStart => exact ⟨0, rfl, Nat.zero_le _, ⟨k, x, ko, m, kp, lo, n, lp, HS2.out _ HB4.out, by rw [HB4.out.block B (by rw [HS1.out]; omega)]; exact HH1.out, HBAD.out _⟩⟩
      case round =>
        obtain ⟨j, rfl, hj, HR⟩ := hrel
        clear c0 c1 c2 c3
        obtain ⟨k1, x1, ko1, m1, kp1, lo1, n1, lp1, hbr, hbh, hbad⟩ := HR.out
        have c0 : wr.cell? ⟨B, 0, none⟩ = some (.string k1) := by simp [World.cell?, hbh]
        have c1 : wr.cell? ⟨B, 1, none⟩ = some (.string x1) := by simp [World.cell?, hbh]
        have c2 : wr.cell? ⟨B, 2, none⟩ = some (.slice ko1 m1 kp1) := by simp [World.cell?, hbh]
        have c3 : wr.cell? ⟨B, 3, none⟩ = some (.slice lo1 n1 lp1) := by simp [World.cell?, hbh]
        have z0 : wr.frozen? ⟨B, 0, none⟩ = false := by simp [World.frozen?, hbh]
        have z1 : wr.frozen? ⟨B, 1, none⟩ = false := by simp [World.frozen?, hbh]
        have z2 : wr.frozen? ⟨B, 2, none⟩ = false := by simp [World.frozen?, hbh]
        have z3 : wr.frozen? ⟨B, 3, none⟩ = false := by simp [World.frozen?, hbh]
        have hBl : B < wr.heap.size := by
          rcases Nat.lt_or_ge B wr.heap.size with h | h
          · exact h
          · rw [Array.getElem?_eq_none h] at hbh; cases hbh
        have HBR := Lib.hid hbr
        have HBH := Lib.hid hbh
        have HBA := Lib.hid hbad
        clear hbr hbh hbad
        by_cases hjd : j < dm
        · have j1 : decide ((j : Int) < (dm : Int)) = true := decide_eq_true (by omega)
          have hj8 : (j : Int) ≤ 5 := by omega
          go_wp2_with (fail)
          go_roundw
          case rel =>
            refine ⟨j + 1, by go_num, by omega, ⟨_, _, _, _, _, _, _, _, ((((HBR.out.setCell (Nat.le_refl _) _).setCell (Nat.le_refl _) _).setCell (Nat.le_refl _) _).setCell (Nat.le_refl _) _).alloc (by rw [World.size_setCell', World.size_setCell', World.size_setCell', World.size_setCell']; omega) _, ref_heap HBH.out _ _ _ _ _, value_in_list (HBA.out.stay (ref_fr _ _ _ _ _ _ _)) wr.heap.size (by omega) (ref_new _ _ _ _ _ _ _)⟩⟩
          case measure => simp [intOf]; omega
        · have j1 : decide ((j : Int) < (dm : Int)) = false := decide_eq_false (by omega)
          have HCB := Lib.hid (canon_bad HBA.out)
          go_wp2_with (fail)
          refine HCB.out.mono ?_
          rintro e w5 ⟨rfl, hb⟩
          have HB5 := Lib.hid (HBR.out.trans (hb.mono (HSZ.out _ HBR.out)))
          clear hb
          go_wp2_with (fail)
          refine (HAW.out _ HB5.out).mono ?_
          rintro e w9 ⟨rfl, hb⟩
          have HB9 := Lib.hid (HB5.out.trans (hb.mono (HSZ.out _ HB5.out)))
          clear hb
          go_wp2_with (fail)
          go_ret
          exact ⟨rfl, HB9.out⟩
    | true =>
      by_cases hob : k.toList = [111, 98, 106, 101, 99, 116]
      · have o1 : (k.toList == [111, 98, 106, 101, 99, 116]) = true := by rw [hob]; decide
        have o2 : (k.toList != [111, 98, 106, 101, 99, 116]) = false := by rw [hob]; decide
        by_cases hmn : m = n
        · have i5 : ((m : Int) == (n : Int)) = true := by simp; omega
          clear hmn hob
          go_wp2_with (fail)
          refine (HAW.out _ (HS2.out _ HB3.out)).mono ?_
          rintro e w9 ⟨rfl, hb⟩
          have HB9 := Lib.hid ((HS2.out _ HB3.out).trans (hb.mono (HSZ.out _ (HS2.out _ HB3.out))))
          clear hb
          go_wp2_with (fail)
          go_ret
          exact ⟨rfl, HB9.out⟩
        · have i5 : ((m : Int) == (n : Int)) = false := by simp; omega
          have HBAD := Lib.hid (HBO.out hob hmn)
          clear hmn hob
          go_wp2_with (fail)
          refine HPA.out.mono ?_
          rintro e w4 ⟨r, rfl, hr, hb⟩
          have HB4 := Lib.hid (HB3.out.trans (hb.mono HB3.out.size))
          clear hb c0 c1 c2 c3
          obtain ⟨c0, c1, c2, c3⟩ := HC.out w4 HB4.out
          by_cases hr80 : 80 < r
          · have r1 : decide ((80 : Int) < (r : Int)) = true := decide_eq_true (by omega)
            go_wp2_with (fail)
            refine (HAW.out _ (HS2.out _ HB4.out)).mono ?_
            rintro e w9 ⟨rfl, hb⟩
            have HB9 := Lib.hid ((HS2.out _ HB4.out).trans (hb.mono (HSZ.out _ (HS2.out _ HB4.out))))
            clear hb
            go_wp2_with (fail)
            go_ret
            exact ⟨rfl, HB9.out⟩
          have r1 : decide ((80 : Int) < (r : Int)) = false := decide_eq_false (by omega)
          by_cases hm80 : 80 < m
          · have r2 : decide ((80 : Int) < (m : Int)) = true := decide_eq_true (by omega)
            go_wp2_with (fail)
            refine (HAW.out _ (HS2.out _ HB4.out)).mono ?_
            rintro e w9 ⟨rfl, hb⟩
            have HB9 := Lib.hid ((HS2.out _ HB4.out).trans (hb.mono (HSZ.out _ (HS2.out _ HB4.out))))
            clear hb
            go_wp2_with (fail)
            go_ret
            exact ⟨rfl, HB9.out⟩
          have r2 : decide ((80 : Int) < (m : Int)) = false := decide_eq_false (by omega)
          clear hr80 hm80
          go_wp2_with (fail)
          go_loopw [46] (fun i wr => ∃ j : Nat, i = .int .u8 j ∧ j ≤ dm ∧ Hid (RefR w B wr)) (fun i _ => dm - (intOf i).toNat)
          case atStart => exact ⟨0, rfl, Nat.zero_le _, ⟨k, x, ko, m, kp, lo, n, lp, HS2.out _ HB4.out, by rw [HB4.out.block B (by rw [HS1.out]; omega)]; exact HH1.out, HBAD.out _⟩⟩
          case round =>
            obtain ⟨j, rfl, hj, HR⟩ := hrel
            clear c0 c1 c2 c3
            obtain ⟨k1, x1, ko1, m1, kp1, lo1, n1, lp1, hbr, hbh, hbad⟩ := HR.out
            have c0 : wr.cell? ⟨B, 0, none⟩ = some (.string k1) := by simp [World.cell?, hbh]
            have c1 : wr.cell? ⟨B, 1, none⟩ = some (.string x1) := by simp [World.cell?, hbh]
            have c2 : wr.cell? ⟨B, 2, none⟩ = some (.slice ko1 m1 kp1) := by simp [World.cell?, hbh]
            have c3 : wr.cell? ⟨B, 3, none⟩ = some (.slice lo1 n1 lp1) := by simp [World.cell?, hbh]
            have z0 : wr.frozen? ⟨B, 0, none⟩ = false := by simp [World.frozen?, hbh]
            have z1 : wr.frozen? ⟨B, 1, none⟩ = false := by simp [World.frozen?, hbh]
            have z2 : wr.frozen? ⟨B, 2, none⟩ = false := by simp [World.frozen?, hbh]
            have z3 : wr.frozen? ⟨B, 3, none⟩ = false := by simp [World.frozen?, hbh]
            have hBl : B < wr.heap.size := by
              rcases Nat.lt_or_ge B wr.heap.size with h | h
              · exact h
              · rw [Array.getElem?_eq_none h] at hbh; cases hbh
            have HBR := Lib.hid hbr
            have HBH := Lib.hid hbh
            have HBA := Lib.hid hbad
            clear hbr hbh hbad
            by_cases hjd : j < dm
            · have j1 : decide ((j : Int) < (dm : Int)) = true := decide_eq_true (by omega)
              have hj8 : (j : Int) ≤ 5 := by omega
              go_wp2_with (fail)
              go_roundw
              case rel =>
                refine ⟨j + 1, by go_num, by omega, ⟨_, _, _, _, _, _, _, _, ((((HBR.out.setCell (Nat.le_refl _) _).setCell (Nat.le_refl _) _).setCell (Nat.le_refl _) _).setCell (Nat.le_refl _) _).alloc (by rw [World.size_setCell', World.size_setCell', World.size_setCell', World.size_setCell']; omega) _, ref_heap HBH.out _ _ _ _ _, value_in_list (HBA.out.stay (ref_fr _ _ _ _ _ _ _)) wr.heap.size (by omega) (ref_new _ _ _ _ _ _ _)⟩⟩
              case measure => simp [intOf]; omega
            · have j1 : decide ((j : Int) < (dm : Int)) = false := decide_eq_false (by omega)
              have HCB := Lib.hid (canon_bad HBA.out)
              go_wp2_with (fail)
              refine HCB.out.mono ?_
              rintro e w5 ⟨rfl, hb⟩
              have HB5 := Lib.hid (HBR.out.trans (hb.mono (HSZ.out _ HBR.out)))
              clear hb
              go_wp2_with (fail)
              refine (HAW.out _ HB5.out).mono ?_
              rintro e w9 ⟨rfl, hb⟩
              have HB9 := Lib.hid (HB5.out.trans (hb.mono (HSZ.out _ HB5.out)))
              clear hb
              go_wp2_with (fail)
              go_ret
              exact ⟨rfl, HB9.out⟩
      · have o1 : (k.toList == [111, 98, 106, 101, 99, 116]) = false := by simpa using hob
        have o2 : (k.toList != [111, 98, 106, 101, 99, 116]) = true := by simpa using hob
        clear hob
        go_wp2_with (fail)
        refine (HAW.out _ (HS2.out _ HB3.out)).mono ?_
        rintro e w9 ⟨rfl, hb⟩
        have HB9 := Lib.hid ((HS2.out _ HB3.out).trans (hb.mono (HSZ.out _ (HS2.out _ HB3.out))))
        clear hb
        go_wp2_with (fail)
        go_ret
        exact ⟨rfl, HB9.out⟩
theorem fnCanonRefuses_all {v : Value} {t : VT} {w : World} (x1 : Int) (h1 : (Go.Lit.int .u8 x1).wf = true) (h : VR w v t) (hN : TL w.heap.size w) :
    Calls Tryz.prog 6 #[v, .int .u8 x1] w fun e w' => e = .returned (.bool true) ∧ Below w.heap.size w w' := by
  have q1 : 0 ≤ x1 ∧ x1 ≤ 255 := by simpa [Go.Lit.wf, IntKind.min, IntKind.max, IntKind.signed, IntKind.bits] using h1
  obtain ⟨d, rfl⟩ : ∃ d : Nat, x1 = d := ⟨x1.toNat, by omega⟩
  exact fnCanonRefuses_any h d (by omega) hN
end Go.Proofs.YtpkkokhoeiimcaaGreatDoor
