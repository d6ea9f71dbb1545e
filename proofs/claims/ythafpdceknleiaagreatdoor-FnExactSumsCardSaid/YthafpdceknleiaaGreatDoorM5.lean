/- spec.tSums, spec.HashesEqual. -/
import Derived.Test.YthafpdceknleiaaGreatDoorH3
import Derived.Test.YthafpdceknleiaaGreatDoorM4
open Go Go.RowKit Go.Maps
namespace Go.Proofs.YthafpdceknleiaaGreatDoor
/-- An element of a map of texts, as it is. -/
def RT : Value → Option (DataW Value × List MemPlace)
  | .string s => some (.held (.string s), [])
  | _ => none
theorem RT_inv {v : Value} {y : DataW Value × List MemPlace} (h : RT v = some y) : ∃ s, v = .string s ∧ y = (.held (.string s), []) := by
  unfold RT at h
  split at h
  · cases h; exact ⟨_, rfl, rfl⟩
  · cases h
theorem zeroStr (w : World) : (zeroValue 9).run Tryz.prog w = .ok (.string ⟨#[]⟩) w := by kernel_rfl
/-- What the map of texts has at a kind. -/
def TAt (D : DataW Value) (o : Option (List UInt8)) (k : List UInt8) : Prop :=
  match o with
  | none => Maps.has D (.string k) = false
  | some s => Maps.has D (.string k) = true ∧ ∀ z, D.atKey (.string k) z = .held (.string ⟨s.toArray⟩)
/-- A map of texts. -/
def TM (w : World) (b : Nat) (L : List (List UInt8 × List UInt8)) : Prop :=
  ∃ (D : DataW Value) (n : Nat), w.ownsMap Tryz.prog 9 RT b n D ∧ n ≤ 1000 ∧ ∀ k, TAt D (lastS L k) k
theorem TM.stay {w w' : World} (hb : Below w.heap.size w w') {b : Nat} {L : List (List UInt8 × List UInt8)} (h : TM w b L) : TM w' b L := by
  obtain ⟨D, n, ⟨es, clock, h1, h4⟩, h2, h3⟩ := h
  have hlt : b < w.heap.size := by
    rcases Nat.lt_or_ge b w.heap.size with h | h
    · exact h
    · rw [Array.getElem?_eq_none h] at h1; cases h1
  exact ⟨D, n, ⟨es, clock, (hb.block b hlt).trans h1, h4⟩, h2, h3⟩
theorem tat_step {D : DataW Value} {L : List (List UInt8 × List UInt8)} {id s : List UInt8} (hM : IsMap D) (hA : ∀ k, TAt D (lastS L k) k) (k : List UInt8) : TAt (D.put (.string id) (.held (.string ⟨s.toArray⟩))) (lastS (L ++ [(id, s)]) k) k := by
  have hk : WideAt.IsKeyLit (.string id) := trivial
  rw [lastS_snoc]
  by_cases h : id = k
  · rw [if_pos h, ← h]
    exact ⟨Maps.has_put_same hM hk _, fun z => Maps.atKey_put_same hM hk _ z⟩
  · rw [if_neg h]
    have hne : (Go.Lit.string k) ≠ .string id := fun e => h (by cases e; rfl)
    have h0 := hA k
    cases e : lastS L k with
    | none =>
      rw [e] at h0
      show Maps.has _ _ = false
      rw [Maps.has_put_other hne]; exact h0
    | some s' =>
      rw [e] at h0
      obtain ⟨h1, h2⟩ := h0
      exact ⟨by rw [Maps.has_put_other hne]; exact h1, fun z => by rw [Maps.atKey_put_other hne]; exact h2 z⟩
/-- The head of a round of tSums. -/
def TsH (l : List (ByteArray × List UInt8)) (B : Nat) (w : World) (j : Nat) (wr : World) : Prop :=
  ∃ D : DataW Value, wr.ownsMap Tryz.prog 9 RT B j D ∧ Below B w wr ∧ ∀ k, TAt D (lastS (toL (l.take j)) k) k
/-- What tSums leaves. -/
def TsP (l : List (ByteArray × List UInt8)) (w : World) (e : Ending) (w' : World) : Prop := ∃ b, e = .returned (.map (some b)) ∧ TM w' b (toL l) ∧ Below w.heap.size w w'
set_option maxRecDepth 100000 in
set_option maxHeartbeats 8000000 in
theorem tSums_any {v : Value} {l : List (ByteArray × List UInt8)} {w : World} (h : HsR w v l) (hl : l.length ≤ 1000) :
    Calls Tryz.prog 51 #[v] w (TsP l w) := by
  have hmm := @run_makeMap Tryz.prog
  obtain ⟨ao, n, c, rfl, hn⟩ : ∃ ao n c, v = .slice ao n c ∧ n = l.length := by
    rcases h with ⟨rfl, h2⟩ | ⟨a, c, h1, _⟩
    · exact ⟨_, _, _, rfl, by rw [h2]; rfl⟩
    · exact ⟨_, _, _, h1, rfl⟩
  have HSR := Lib.hid h
  have HNL := Lib.hid hn
  have hn60 : n ≤ 1000 := by omega
  obtain ⟨B, hB⟩ : ∃ B, B = w.heap.size := ⟨_, rfl⟩
  have HBS := Lib.hid hB
  have H0 : Hid (TsH l w.heap.size w 0 (w.alloc (.map #[] 0))) := ⟨_, World.ownsMap_made w _ _ _, (Below.refl _ _).alloc (Nat.le_refl _) _, fun k => rfl⟩
  have HEND : Hid (∀ W, TsH l w.heap.size w n W → TsP l w (.returned (.map (some w.heap.size))) W) := by
    rintro W ⟨D, h1, h2, h3⟩
    rw [hn, List.take_length] at h3
    exact ⟨_, rfl, ⟨D, n, h1, hn60, h3⟩, h2⟩
  clear h hn hl hB
  go_enter Tryz.func51, Tryz.ntmps51
  go_wp2_with (fail)
  rw [← HBS.out]
  go_loopw [9] (fun i wr => ∃ j : Nat, i = .int .i64 j ∧ j ≤ n ∧ Hid (TsH l B w j wr)) (fun i _ => n - (intOf i).toNat)
  case atStart => exact ⟨0, rfl, Nat.zero_le _, by rw [HBS.out]; exact H0⟩
  case round =>
    obtain ⟨j, rfl, hj, HR⟩ := hrel
    by_cases hlt : j < n
    · have j1 : decide ((j : Int) < (n : Int)) = true := decide_eq_true (by omega)
      obtain ⟨D, hD, hbw, hA⟩ := HR.out
      obtain ⟨a, x, ao', n', cp', rfl, hx, e0, hx0, e1, hx1⟩ : ∃ a x ao' n' cp', ao = some a ∧ l[j]? = some x ∧ wr.cell? (a.add (j * 2)) = some (.string x.1) ∧ x.1.size ≤ 140737488351232 ∧ wr.cell? ⟨(a.add (j * 2)).block, (a.add (j * 2)).off + 1, none⟩ = some (.slice ao' n' cp') ∧ BSrc wr (.slice ao' n' cp') x.2 := by
        rcases (HSR.out.stay (by rw [← HBS.out]; exact hbw)) with ⟨h1, h2⟩ | ⟨a, c', h1, _, _, h3⟩
        · have := HNL.out; rw [h2] at this; simp at this; omega
        · injection h1 with h1 _ _
          obtain ⟨x, hx⟩ : ∃ x, l[j]? = some x := ⟨_, List.getElem?_eq_getElem (by rw [← HNL.out]; exact hlt)⟩
          obtain ⟨g1, g2, ao', n', cp', g3, g4⟩ := h3 j x hx
          exact ⟨a, x, ao', n', cp', h1, hx, g1, g2, g3, g4⟩
      obtain ⟨id, s⟩ := x
      change _ = some (Value.string id) at e0
      change BSrc wr _ s at hx1
      have HX := Lib.hid hx
      have HD := Lib.hid hD
      have HA := Lib.hid hA
      have HBW := Lib.hid hbw
      have hid : id.size ≤ maxLen := Nat.le_trans hx0 (by unfold maxLen; omega)
      have HKEY := Lib.hid (WideMaps.keyOf_string_mk Tryz.underlying9 hid)
      obtain ⟨Wb, hWb⟩ : ∃ Wb, Wb = wr.alloc (.cells #[.string id, .slice ao' n' cp'] 50) := ⟨_, rfl⟩
      have HWB : Hid (Below wr.heap.size wr Wb) := by rw [hWb]; exact Lib.hid ((Below.refl _ _).alloc (Nat.le_refl _) _)
      have HOB : Hid (Wb.ownsMap Tryz.prog 9 RT B j D) := by rw [hWb]; exact Lib.hid (hD.alloc _)
      have HCB : Hid (Wb.cell? ⟨wr.heap.size, 0, none⟩ = some (.string id) ∧ Wb.cell? ⟨wr.heap.size, 1, none⟩ = some (.slice ao' n' cp')) := by
        have hc := alloc_at wr (.cells #[.string id, .slice ao' n' cp'] 50)
        rw [← hWb] at hc
        refine ⟨?_, ?_⟩ <;> simp [World.cell?, hc]
      have hcv := (hx1.stay HWB.out).conv
      obtain ⟨S, hS⟩ : ∃ S : ByteArray, S = ⟨s.toArray⟩ := ⟨_, rfl⟩
      rw [← hS] at hcv
      have HSS := Lib.hid hS
      have HWE := Lib.hid hWb
      clear hx hD hA hbw hid hx0 hx1 hWb hS
      go_upto_region 5 with (fail)
      rw [← HWE.out]
      clear e0 e1
      obtain ⟨f0, f1⟩ := HCB.out
      go_wp2_with (at_mapUpdate; refine wpList_mapUpdate_own _ rfl _ _ _ 64 rfl 9 9 keyed_str Tryz.underlying64 RT B j _ rfl HOB.out (by unfold maxLen; omega) _ _ _ rfl rfl HKEY.out (.held (.string S)) [] rfl ?_)
      intro w1 hown1 hgrow1
      have HRN : Hid (TsH l B w (j + 1) w1) := by
        refine ⟨_, hown1, ((HBW.out.trans (HWB.out.mono (by have := HD.out.lt; omega))).grown hgrow1 (by have := HD.out.lt; have := HWB.out.size; omega) (fun k hk => by cases hk; exact Nat.le_refl _)), fun k => ?_⟩
        rw [toL_take HX.out, HSS.out]
        exact tat_step HD.out.isMap HA.out k
      clear hown1 hgrow1
      go_wp2_with (fail)
      go_roundw
      case rel => exact ⟨j + 1, by go_num, by omega, HRN⟩
      case measure => simp [intOf]; omega
    · have j1 : decide ((j : Int) < (n : Int)) = false := decide_eq_false (by omega)
      have HR2 := HR
      rw [show j = n by omega] at HR2
      go_wp2_with (fail)
      go_ret
      rw [HBS.out] at HR2 ⊢
      exact HEND.out _ HR2.out
end Go.Proofs.YthafpdceknleiaaGreatDoor
