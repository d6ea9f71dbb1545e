/- Maps of sums: what impl.hashesOf makes. -/
import Derived.Test.YthafpdceknleiaaGreatDoorH1
open Go Go.RowKit Go.Maps
namespace Go.Proofs.YthafpdceknleiaaGreatDoor
/-- Sums, as a slice of things of two cells. -/
def HsR (w : World) (v : Value) (l : List (ByteArray × List UInt8)) : Prop :=
  (v = .slice none 0 0 ∧ l = []) ∨ ∃ a c, v = .slice (some a) l.length c ∧ l.length ≤ c ∧ c ≤ maxLen ∧ ∀ (j : Nat) (x : ByteArray × List UInt8), l[j]? = some x → w.cell? (a.add (j * 2)) = some (.string x.1) ∧ x.1.size ≤ 140737488351232 ∧ ∃ ao n cp, w.cell? ⟨(a.add (j * 2)).block, (a.add (j * 2)).off + 1, none⟩ = some (.slice ao n cp) ∧ BSrc w (.slice ao n cp) x.2
theorem HsR.stay {w w' : World} (hb : Below w.heap.size w w') {v : Value} {l : List (ByteArray × List UInt8)} (h : HsR w v l) : HsR w' v l := by
  rcases h with h | ⟨a, c, h1, h2, h3, h4⟩
  · exact .inl h
  · refine .inr ⟨a, c, h1, h2, h3, fun j x hx => ?_⟩
    obtain ⟨g1, g2, ao, n, cp, g3, g4⟩ := h4 j x hx
    exact ⟨(hb.cell (cell_lt g1)).trans g1, g2, ao, n, cp, (hb.cell (cell_lt g3)).trans g3, g4.stay hb⟩
/-- The sums by the bytes of their kinds. -/
def toL (l : List (ByteArray × List UInt8)) : List (List UInt8 × List UInt8) := l.map fun x => (x.1.data.toList, x.2)
theorem toL_take {l : List (ByteArray × List UInt8)} {j : Nat} {x : ByteArray × List UInt8} (hx : l[j]? = some x) : toL (l.take (j + 1)) = toL (l.take j) ++ [(x.1.data.toList, x.2)] := by
  unfold toL
  rw [List.take_add_one, hx]
  simp
/-- An element of a map of sums: a slice, as it is. -/
def RV : Value → Option (DataW Value × List MemPlace)
  | .slice a n c => some (.held (.slice a n c), [])
  | _ => none
theorem RV_inv {v : Value} {y : DataW Value × List MemPlace} (h : RV v = some y) : ∃ a n c, v = .slice a n c ∧ y = (.held (.slice a n c), []) := by
  unfold RV at h
  split at h
  · cases h; exact ⟨_, _, _, rfl, rfl⟩
  · cases h
theorem keyed_str : Keyed Tryz.prog 9 := string_keyed Tryz.underlying9
theorem zeroHex (w : World) : (zeroValue 147).run Tryz.prog w = .ok (.slice none 0 0) w := by kernel_rfl
/-- What the map has at a kind. -/
def HAt (w : World) (D : DataW Value) (o : Option (List UInt8)) (k : List UInt8) : Prop :=
  match o with
  | none => Maps.has D (.string k) = false
  | some s => Maps.has D (.string k) = true ∧ ∃ ao n c, (∀ z, D.atKey (.string k) z = .held (.slice ao n c)) ∧ BSrc w (.slice ao n c) s
theorem HAt.stay {w w' : World} (hb : Below w.heap.size w w') {D : DataW Value} {o : Option (List UInt8)} {k : List UInt8} (h : HAt w D o k) : HAt w' D o k := by
  cases o with
  | none => exact h
  | some s => obtain ⟨h1, ao, n, c, h2, h3⟩ := h; exact ⟨h1, ao, n, c, h2, h3.stay hb⟩
theorem ownsMap_below {w w' : World} {b n : Nat} {D : DataW Value} (h : w.ownsMap Tryz.prog 9 RV b n D) (hb : Below w.heap.size w w') : w'.ownsMap Tryz.prog 9 RV b n D := by
  have hlt := h.lt
  obtain ⟨es, clock, h1, h2, h3, h4⟩ := h
  exact ⟨es, clock, (hb.block b hlt).trans h1, h2, h3, h4⟩
theorem bsrc_grown {w w' : World} {b n : Nat} {D : DataW Value} {u : Value} {s : List UInt8} (hs : BSrc w u s) (h : w.ownsMap Tryz.prog 9 RV b n D) (hg : w.grownBy w' (some b)) : BSrc w' u s := by
  obtain ⟨es, clock, h1, _⟩ := h
  rcases hs with h | ⟨ad, cp, rfl, hm, hc⟩
  · exact .inl h
  · refine .inr ⟨ad, cp, rfl, hm, fun j x hx => hg.cell (hc j x hx) ?_⟩
    intro e
    have e2 : (ad.add j).block = b := Option.some.inj e
    have := hc j x hx
    simp [World.cell?, e2, h1] at this
/-- The head of a round of hashesOf. -/
def HoH (l : List (ByteArray × List UInt8)) (B : Nat) (w : World) (j : Nat) (wr : World) : Prop :=
  ∃ D : DataW Value, wr.ownsMap Tryz.prog 9 RV B j D ∧ Below B w wr ∧ ∀ k, HAt wr D (lastS (toL (l.take j)) k) k
theorem hoh_step {l : List (ByteArray × List UInt8)} {B j : Nat} {w wr wp w1 : World} {id : ByteArray} {s : List UInt8} {D : DataW Value} {ao : Option Addr} {n c : Nat} (hx : l[j]? = some (id, s))
    (hD : wr.ownsMap Tryz.prog 9 RV B j D) (hA : ∀ k, HAt wr D (lastS (toL (l.take j)) k) k) (hbw : Below B w wr) (hb : Below wr.heap.size wr wp) (hu : BSrc wp (.slice ao n c) s)
    (hown : w1.ownsMap Tryz.prog 9 RV B (j + 1) (D.put (.string id.data.toList) (.held (.slice ao n c)))) (hg : wp.grownBy w1 (some B)) : HoH l B w (j + 1) w1 := by
  have hDp := ownsMap_below hD hb
  have hBlt := hD.lt
  have hk : WideAt.IsKeyLit (.string id.data.toList) := trivial
  refine ⟨_, hown, (hbw.trans (hb.mono (by omega))).grown hg (by have := hb.size; omega) (fun k hk => by cases hk; exact Nat.le_refl _), fun k => ?_⟩
  rw [toL_take hx, lastS_snoc]
  by_cases h : id.data.toList = k
  · rw [if_pos h, ← h]
    exact ⟨Maps.has_put_same hD.isMap hk _, ao, n, c, fun z => Maps.atKey_put_same hD.isMap hk _ z, bsrc_grown hu hDp hg⟩
  · rw [if_neg h]
    have hne : (Go.Lit.string k) ≠ .string id.data.toList := fun e => h (by cases e; rfl)
    have h0 := (hA k).stay hb
    cases e : lastS (toL (l.take j)) k with
    | none =>
      rw [e] at h0
      show Maps.has _ _ = false
      rw [Maps.has_put_other hne]; exact h0
    | some s' =>
      rw [e] at h0
      obtain ⟨h1, ao', n', c', h2, h3⟩ := h0
      exact ⟨by rw [Maps.has_put_other hne]; exact h1, ao', n', c', fun z => by rw [Maps.atKey_put_other hne]; exact h2 z, bsrc_grown h3 hDp hg⟩
/-- A map of sums. -/
def HM (w : World) (b : Nat) (L : List (List UInt8 × List UInt8)) : Prop :=
  ∃ (D : DataW Value) (n : Nat), w.ownsMap Tryz.prog 9 RV b n D ∧ n ≤ 1000 ∧ ∀ k, HAt w D (lastS L k) k
theorem HM.stay {w w' : World} (hb : Below w.heap.size w w') {b : Nat} {L : List (List UInt8 × List UInt8)} (h : HM w b L) : HM w' b L := by
  obtain ⟨D, n, h1, h2, h3⟩ := h
  exact ⟨D, n, ownsMap_below h1 hb, h2, fun k => (h3 k).stay hb⟩
/-- What hashesOf leaves. -/
def HoP (l : List (ByteArray × List UInt8)) (w : World) (e : Ending) (w' : World) : Prop := ∃ b, e = .returned (.map (some b)) ∧ HM w' b (toL l) ∧ Below w.heap.size w w'
set_option maxRecDepth 100000 in
set_option maxHeartbeats 8000000 in
theorem hashesOf_any {v : Value} {l : List (ByteArray × List UInt8)} {w : World} (h : HsR w v l) (hl : l.length ≤ 1000) (hs : ∀ x ∈ l, x.2.length ≤ 1073741824) :
    Calls Tryz.prog 49 #[v] w (HoP l w) := by
  have hmm := @run_makeMap Tryz.prog
  obtain ⟨ao, n, c, rfl, hn⟩ : ∃ ao n c, v = .slice ao n c ∧ n = l.length := by
    rcases h with ⟨rfl, h2⟩ | ⟨a, c, h1, _⟩
    · exact ⟨_, _, _, rfl, by rw [h2]; rfl⟩
    · exact ⟨_, _, _, h1, rfl⟩
  have HSR := Lib.hid h
  have HNL := Lib.hid hn
  have HSS := Lib.hid hs
  have hn60 : n ≤ 1000 := by omega
  obtain ⟨B, hB⟩ : ∃ B, B = w.heap.size := ⟨_, rfl⟩
  have HBS := Lib.hid hB
  have H0 : Hid (HoH l w.heap.size w 0 (w.alloc (.map #[] 0))) := ⟨_, World.ownsMap_made w _ _ _, (Below.refl _ _).alloc (Nat.le_refl _) _, fun k => rfl⟩
  have HEND : Hid (∀ W, HoH l w.heap.size w n W → HoP l w (.returned (.map (some w.heap.size))) W) := by
    rintro W ⟨D, h1, h2, h3⟩
    rw [hn, List.take_length] at h3
    exact ⟨_, rfl, ⟨D, n, h1, hn60, h3⟩, h2⟩
  clear h hn hs hl hB
  go_enter Tryz.func49, Tryz.ntmps49
  go_wp2_with (fail)
  rw [← HBS.out]
  go_loopw [9] (fun i wr => ∃ j : Nat, i = .int .i64 j ∧ j ≤ n ∧ Hid (HoH l B w j wr)) (fun i _ => n - (intOf i).toNat)
  case atStart => exact ⟨0, rfl, Nat.zero_le _, by rw [HBS.out]; exact H0⟩
  case round =>
    obtain ⟨j, rfl, hj, HR⟩ := hrel
    by_cases hlt : j < n
    · have j1 : decide ((j : Int) < (n : Int)) = true := decide_eq_true (by omega)
      obtain ⟨D, hD, hbw, hA⟩ := HR.out
      obtain ⟨a, x, ao', n', cp', rfl, hx, e0, hx0, e1, hx1⟩ : ∃ a x ao' n' cp', ao = some a ∧ l[j]? = some x ∧ wr.cell? (a.add (j * 2)) = some (.string x.1) ∧ x.1.size ≤ 140737488351232 ∧ wr.cell? ⟨(a.add (j * 2)).block, (a.add (j * 2)).off + 1, none⟩ = some (.slice ao' n' cp') ∧ BSrc wr (.slice ao' n' cp') x.2 := by
        rcases (HSR.out.stay (by rw [← HBS.out]; exact hbw)) with ⟨h1, h2⟩ | ⟨a, c', h1, _, _, h3⟩
        · have := HNL.out; rw [h2] at this; simp at this; omega
        · injection h1 with h1 _ _
          obtain ⟨x, hx⟩ : ∃ x, l[j]? = some x := ⟨_, List.getElem?_eq_getElem (by rw [← HNL.out]; exact hlt)⟩
          obtain ⟨g1, g2, ao', n', cp', g3, g4⟩ := h3 j x hx
          exact ⟨a, x, ao', n', cp', h1, hx, g1, g2, g3, g4⟩
      have hsl := HSS.out x (List.mem_of_getElem? hx)
      obtain ⟨id, s⟩ := x
      have HX := Lib.hid hx
      have HD := Lib.hid hD
      have HA := Lib.hid hA
      have HBW := Lib.hid hbw
      have hid : id.size ≤ maxLen := Nat.le_trans hx0 (by unfold maxLen; omega)
      have HKEY := Lib.hid (WideMaps.keyOf_string_mk Tryz.underlying9 hid)
      have HID := Lib.hid hid
      obtain ⟨Wb, hWb⟩ : ∃ Wb, Wb = wr.alloc (.cells #[.string id, .slice ao' n' cp'] 50) := ⟨_, rfl⟩
      have HWB : Hid (Below wr.heap.size wr Wb) := by rw [hWb]; exact Lib.hid ((Below.refl _ _).alloc (Nat.le_refl _) _)
      have HSB : Hid (Wb.heap.size = wr.heap.size + 1) := by rw [hWb, World.size_alloc]; exact Lib.hid rfl
      have HWC : Hid (∀ W, Below Wb.heap.size Wb W → W.cell? ⟨wr.heap.size, 0, none⟩ = some (.string id) ∧ W.cell? ⟨wr.heap.size, 1, none⟩ = some (.slice ao' n' cp')) := by
        intro W hb
        have hc := alloc_at wr (.cells #[.string id, .slice ao' n' cp'] 50)
        rw [← hWb, ← hb.block _ (by rw [HSB.out]; omega)] at hc
        refine ⟨?_, ?_⟩ <;> simp [World.cell?, hc]
      have HBS1 : Hid (BSrc Wb (.slice ao' n' cp') s) := Lib.hid (hx1.stay HWB.out)
      have HSL : Hid (s.length ≤ 1073741824) := hsl
      have HWE := Lib.hid hWb
      clear hx hD hA hbw hid hx0 hx1 hsl hWb
      have hbd : Below Wb.heap.size Wb Wb.drew := (Below.refl _ _).drew
      go_upto_region 5 with (fail)
      rw [← HWE.out]
      obtain ⟨f0, f1⟩ := HWC.out Wb (Below.refl _ _)
      go_region_with (first
        | (go_at_call 70; go_fit (clone_any (HBS1.out.stay (Below.refl _ _).drew) HSL.out); rintro e wp ⟨u', rfl, hu', hb⟩
           have hbp := hbd.trans hb
           obtain ⟨a2, n2, c2, rfl⟩ := hu'.slc
           have HU := Lib.hid hu'
           have HBP : Hid (Below wr.heap.size wr wp) := Lib.hid (HWB.out.trans (hbp.mono HWB.out.size))
           have HOP := Lib.hid (ownsMap_below HD.out HBP.out)
           obtain ⟨g0, g1⟩ := HWC.out wp hbp
           obtain ⟨w1, hrun, hown1, hgrow1⟩ := HOP.out.update keyed_str Tryz.underlying116 (by unfold maxLen; omega) HKEY.out (show RV (.slice a2 n2 c2) = some (.held (.slice a2 n2 c2), []) from rfl)
           have HRN := Lib.hid (hoh_step HX.out HD.out HA.out HBW.out HBP.out HU.out hown1 hgrow1)
           clear hu' hb hbp hown1 hgrow1))
      all_goals (go_wp2_with (fail); go_roundw; (case rel => exact ⟨j + 1, by go_num, by omega, HRN⟩); (case measure => simp [intOf]; omega))
    · have j1 : decide ((j : Int) < (n : Int)) = false := decide_eq_false (by omega)
      have HR2 := HR
      rw [show j = n by omega] at HR2
      go_wp2_with (fail)
      go_ret
      rw [HBS.out] at HR2 ⊢
      exact HEND.out _ HR2.out
end Go.Proofs.YthafpdceknleiaaGreatDoor
