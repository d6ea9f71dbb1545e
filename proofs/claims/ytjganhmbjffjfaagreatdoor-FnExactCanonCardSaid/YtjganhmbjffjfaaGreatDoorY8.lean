/- impl.value at objects; at every tree that has a canonical text; impl.Canon. impl.value at every tree that has a canonical text; impl.Canon there. -/
import Derived.Test.YtjganhmbjffjfaaGreatDoorY6
open Go Go.RowKit Go.Maps
namespace Go.Proofs.YtjganhmbjffjfaaGreatDoor
theorem strR_cells {w : World} {v : Value} {l : List ByteArray} (h : StrR w v l) : ∃ ao cp, v = .slice ao l.length cp ∧ ∀ W, Below w.heap.size w W → ∀ (j : Nat) (s : ByteArray), l[j]? = some s → ∃ ad, ao = some ad ∧ W.cell? (ad.add j) = some (.string s) := by
  rcases h with ⟨rfl, rfl⟩ | ⟨a, cap, rfl, h1, h2, h3⟩
  · exact ⟨none, 0, rfl, fun _ _ j s hj => by cases hj⟩
  · exact ⟨some a, cap, rfl, fun W hb j s hj => ⟨a, rfl, (hb.cell (p := a.add j) (cell_lt (h3 j s hj).1)).trans (h3 j s hj).1⟩⟩
/-- A datum that holds just these. -/
def HoldsA (D : DataW Value) (A : List (List UInt8 × Value)) : Prop := (∀ k, Maps.has D (.string k) = true ↔ ∃ v, (k, v) ∈ A) ∧ ∀ k v, (k, v) ∈ A → ∀ z, D.atKey (.string k) z = .held v
theorem holdsA_put {D : DataW Value} {A : List (List UInt8 × Value)} (h : HoldsA D A) (hM : IsMap D) {key : List UInt8} (hn : ∀ v, (key, v) ∉ A) (x : Value) : HoldsA (D.put (.string key) (.held x)) (A ++ [(key, x)]) := by
  have hk : WideAt.IsKeyLit (.string key) := trivial
  constructor
  · intro k
    by_cases e : k = key
    · subst e
      rw [Maps.has_put_same hM hk]
      simp only [true_iff]
      exact ⟨x, List.mem_append_right _ List.mem_cons_self⟩
    · have hne : (Go.Lit.string k) ≠ .string key := fun e2 => e (by cases e2; rfl)
      rw [Maps.has_put_other hne, h.1 k]
      constructor
      · rintro ⟨v, hv⟩; exact ⟨v, List.mem_append_left _ hv⟩
      · rintro ⟨v, hv⟩
        rcases List.mem_append.1 hv with hv | hv
        · exact ⟨v, hv⟩
        · rw [List.mem_singleton] at hv; cases hv; exact absurd rfl e
  · intro k v hv z
    rcases List.mem_append.1 hv with hv | hv
    · have hne : (Go.Lit.string k) ≠ .string key := fun e2 => by cases e2; exact hn v hv
      rw [Maps.atKey_put_other hne]
      exact h.2 k v hv z
    · rw [List.mem_singleton] at hv
      cases hv
      exact Maps.atKey_put_same hM hk _ z
/-- The head of value's loop over an object. -/
def VoR (ks L : List (List UInt8)) (w Wb : World) (g k : Nat) (wr : World) : Prop :=
  ∃ (D : DataW Value) (xs : List Value), wr.ownsMap Tryz.prog 9 RA g k D ∧ HoldsA D ((ks.take k).zip xs) ∧ xs.length = k ∧ Below Wb.heap.size Wb wr ∧ Wb.heap.size + 1 ≤ wr.heap.size ∧ ∀ (j : Nat) (x : Value) (u : List UInt8), xs[j]? = some x → L[j]? = some u → CX (RowP w.heap.size g) wr x u
theorem vo_step {ks L : List (List UInt8)} {w Wb : World} {g k : Nat} {D : DataW Value} {xs : List Value} {x : Value} {key u : List UInt8} {wr w3 w4 : World} (hd : ks.Nodup) (hkey : ks[k]? = some key) (hu : L[k]? = some u) (hg : g = Wb.heap.size) (hwb : w.heap.size ≤ Wb.heap.size) (hown : wr.ownsMap Tryz.prog 9 RA g k D) (hA : HoldsA D ((ks.take k).zip xs)) (hxl : xs.length = k) (hbw : Below Wb.heap.size Wb wr) (hsz : Wb.heap.size + 1 ≤ wr.heap.size)
    (hold : ∀ (j : Nat) (x : Value) (u : List UInt8), xs[j]? = some x → L[j]? = some u → CX (RowP w.heap.size g) wr x u) (hb3 : Below wr.heap.size wr w3) (hx : CX (FromB wr.heap.size) w3 x u) (hown4 : w4.ownsMap Tryz.prog 9 RA g (k + 1) (D.put (.string key) (.held x))) (hgr : w3.grownBy w4 (some g)) : VoR ks L w Wb g (k + 1) w4 := by
  have hs3 := hb3.size
  have hs4 := hgr.size
  have hkl : k < ks.length := (List.getElem?_eq_some_iff.1 hkey).1
  have hheap : ∀ i, i < w3.heap.size → i ≠ g → w4.heap[i]? = w3.heap[i]? := fun i hi hne => hgr.block i hi (by intro e; exact hne (by injection e))
  have hzip : (ks.take (k + 1)).zip (xs ++ [x]) = (ks.take k).zip xs ++ [(key, x)] := by
    rw [List.take_add_one, hkey]
    exact List.zip_append (by rw [List.length_take, hxl]; omega)
  refine ⟨_, xs ++ [x], hown4, ?_, by rw [List.length_append, hxl]; rfl, (hbw.trans (hb3.mono (by omega))).grown hgr (by omega) (fun i hi => by injection hi with hi; omega), by omega, fun j y t hy ht => ?_⟩
  · rw [hzip]
    refine holdsA_put hA hown.isMap (fun v hv => ?_) x
    obtain ⟨j, hj⟩ := List.mem_iff_getElem?.1 (List.of_mem_zip hv).1
    rw [List.getElem?_take] at hj
    split at hj
    · rename_i hjk
      have := (List.getElem?_inj (List.getElem?_eq_some_iff.1 hj).1 hd).1 (hj.trans hkey.symm)
      omega
    · cases hj
  · rcases Nat.lt_or_ge j xs.length with hj | hj
    · rw [List.getElem?_append_left hj] at hy
      exact (hold j y t hy ht).move (by omega) fun i hi hl => ⟨(hheap i (by omega) hi.2).trans (hb3.block i hl), hi⟩
    · rw [List.getElem?_append_right hj] at hy
      have hj0 : j = k := by
        have := (List.getElem?_eq_some_iff.1 hy).1
        simp at this
        omega
      subst hj0
      rw [hxl, Nat.sub_self] at hy
      cases hy
      rw [hu] at ht
      cases ht
      refine hx.move (by omega) fun i hi hl => ?_
      have hi' : wr.heap.size ≤ i := hi
      exact ⟨hheap i hl (by omega), by omega, by omega⟩
theorem zip3 {A : List (List UInt8)} {xs : List Value} {L : List (List UInt8)} (h1 : xs.length = A.length) (h2 : L.length = A.length) :
    (A.zip (xs.zip L)).map (·.1) = A ∧ (A.zip (xs.zip L)).map (fun x => (x.1, x.2.1)) = A.zip xs ∧ (A.zip (xs.zip L)).map (fun x => (x.1, x.2.2)) = A.zip L := by
  induction A generalizing xs L with
  | nil => exact ⟨rfl, rfl, rfl⟩
  | cons a A ih =>
    cases xs with
    | nil => cases h1
    | cons x xs =>
      cases L with
      | nil => cases h2
      | cons u L =>
        obtain ⟨i1, i2, i3⟩ := ih (xs := xs) (L := L) (by simpa using h1) (by simpa using h2)
        refine ⟨?_, ?_, ?_⟩ <;> simp only [List.zip_cons_cons, List.map_cons, i1, i2, i3]
/-- A whole object, read. -/
theorem vo_end {ks L : List (List UInt8)} {w Wb wr : World} {g k : Nat} (h : VoR ks L w Wb g k wr) (hk : ks.length = k) (hl : L.length = k) (hn : k ≤ 65536) (hg : g = Wb.heap.size) (hwb : Below w.heap.size w Wb) (hd : ks.Nodup) (hks : ∀ s ∈ ks, s.length ≤ 4294967296) :
    CX (FromB w.heap.size) wr (.iface 130 (.map (some g))) (123 :: joinC (itemsT (ks.zip L)) ++ [125]) ∧ Below w.heap.size w wr := by
  obtain ⟨D, xs, hown, hA, hxl, hbw, hsz, hold⟩ := h
  have hs0 := hwb.size
  rw [List.take_of_length_le (by omega)] at hA
  obtain ⟨z1, z2, z3⟩ := zip3 (A := ks) (xs := xs) (L := L) (by omega) (by omega)
  refine ⟨?_, hwb.trans (hbw.mono hs0)⟩
  have hc := CX.obj (P := FromB w.heap.size) (w := wr) g (ks.zip (xs.zip L)) (show w.heap.size ≤ g by omega) (by omega) (by rw [z2]; exact ⟨D, k, hown, by omega, hA.1, hA.2⟩) (by rw [z1]; exact hd)
    (fun x hx => hks _ (List.of_mem_zip hx).1) (by rw [List.length_zip, List.length_zip]; omega) (fun y hy => by
      obtain ⟨j, hj⟩ := List.mem_iff_getElem?.1 hy
      rw [List.getElem?_zip_eq_some, List.getElem?_zip_eq_some] at hj
      exact (hold j y.2.1 y.2.2 hj.2.1 hj.2.2).mono fun i hi _ => hi.1)
  rw [z3] at hc
  exact hc
set_option maxRecDepth 100000 in
set_option maxHeartbeats 8000000 in
theorem valueX_obj {L : List (List UInt8)} {l : List VT} {ks : List ByteArray} {w : World} {kv lv : Value} (x : ByteArray) (h : LR w lv l) (hkv : StrR w kv ks) (hl : L.length = l.length) (hn : L.length ≤ 65536) (hkl : ks.length = l.length) (hd : (ks.map (·.data.toList)).Nodup) (hks : ∀ s ∈ ks, s.size ≤ 4294967296)
    (ih : ∀ (j : Nat) (y : VT) (u : List UInt8), l[j]? = some y → L[j]? = some u → ∀ W v, VR W v y → Calls Tryz.prog 34 #[v] W (ValP u W)) :
    Calls Tryz.prog 34 #[.agg #[.string ⟨#[111, 98, 106, 101, 99, 116]⟩, .string x, kv, lv]] w (ValP (123 :: joinC (itemsT ((ks.map (·.data.toList)).zip L)) ++ [125]) w) := by
  have hmm := @run_makeMap Tryz.prog
  obtain ⟨ao, c, rfl, hlen, hcell⟩ := lr_cells h
  obtain ⟨ko, kc, rfl, hkcell⟩ := strR_cells hkv
  obtain ⟨n, hnn⟩ : ∃ n, n = l.length := ⟨_, rfl⟩
  rw [← hnn] at hl hlen hkl
  rw [← hnn, hkl]
  have hn6 : n ≤ 65536 := by omega
  have HNN := Lib.hid hnn
  have HL := Lib.hid hl
  have HC := Lib.hid hcell
  have HKC := Lib.hid hkcell
  have HKL := Lib.hid hkl
  have HD := Lib.hid hd
  have HKS := Lib.hid hks
  have HIH := Lib.hid ih
  obtain ⟨Wb, hWb⟩ : ∃ Wb, Wb = w.alloc (.cells #[.string ⟨#[111, 98, 106, 101, 99, 116]⟩, .string x, .slice ko n kc, .slice ao n c] 25) := ⟨_, rfl⟩
  have hsb : Wb.heap.size = w.heap.size + 1 := by rw [hWb, World.size_alloc]
  have HWB : Hid (Below w.heap.size w Wb) := by rw [hWb]; exact Lib.hid ((Below.refl _ _).alloc (Nat.le_refl _) _)
  have HCB : Hid (Wb.cell? ⟨w.heap.size, 2, none⟩ = some (.slice ko n kc)) := by
    have hc := alloc_at w (.cells #[.string ⟨#[111, 98, 106, 101, 99, 116]⟩, .string x, .slice ko n kc, .slice ao n c] 25)
    rw [← hWb] at hc
    refine Lib.hid ?_
    simp [World.cell?, hc]
  have H0 : Hid (VoR (ks.map (·.data.toList)) L w Wb (w.heap.size + 1) 0 (Wb.alloc (.map #[] 0))) := by
    refine Lib.hid ⟨.map [], [], ?_, ⟨fun k => ?_, fun k v hv => by cases hv⟩, rfl, (Below.refl _ _).alloc (Nat.le_refl _) _, by rw [World.size_alloc]; exact Nat.le_refl _, fun j y u hy => by cases hy⟩
    · rw [← hsb]; exact World.ownsMap_made Wb _ _ _
    · constructor
      · intro h0; cases h0
      · rintro ⟨v, hv⟩; cases hv
  have HSB := Lib.hid hsb
  have HWE := Lib.hid hWb
  clear h hkv hl hnn hcell hkcell hkl hd hks ih hn hWb hsb
  go_enter Tryz.func34, Tryz.ntmps34
  go_wp2_with (fail)
  rw [← HWE.out]
  go_loopg [79] n (fun gk2 i wr => ∃ k : Nat, k + gk2 = n ∧ i = .int .i64 k ∧ Hid (VoR (ks.map (·.data.toList)) L w Wb (w.heap.size + 1) k wr))
  case atStart => exact ⟨0, by omega, rfl, H0⟩
  case round =>
    obtain ⟨k, hk, rfl, HR⟩ := hrel
    cases gk with
    | zero =>
      have hkn : ¬ (k : Int) < (n : Int) := by omega
      have HKN : Hid (k = n) := Lib.hid (by omega)
      clear hk
      go_wp2_with (fail)
      have HEND : Hid (ValP (123 :: joinC (itemsT ((ks.map (·.data.toList)).zip L)) ++ [125]) w (.returned (.tuple #[.iface 130 (.map (some (w.heap.size + 1))), .bool true])) wr) := by
        obtain ⟨e1, e2⟩ := vo_end HR.out (by rw [List.length_map, HKL.out, HKN.out]) (by rw [HL.out, HKN.out]) (by rw [HKN.out]; exact hn6) HSB.out.symm HWB.out HD.out (fun s hs => by
          obtain ⟨t, ht, rfl⟩ := List.mem_map.1 hs
          have := HKS.out t ht
          rw [Lib.size_eq] at this
          exact this)
        exact Lib.hid ⟨_, rfl, e1, e2⟩
      go_ret2
      exact HEND.out
    | succ g2 =>
      obtain ⟨D, xs, hown, hA, hxl, hbw, hsz, hold⟩ := HR.out
      have HOWN := Lib.hid hown
      have HA := Lib.hid hA
      have HB := Lib.hid hbw
      have HOLD := Lib.hid hold
      have HXL := Lib.hid hxl
      clear hown hA hbw hold hxl
      have hlt : k < n := by omega
      have hk1 : k + 1 + g2 = n := by omega
      have HK1 := Lib.hid hk1
      have hki : (k : Int) < (n : Int) := by omega
      obtain ⟨y, hy⟩ : ∃ y, l[k]? = some y := ⟨_, List.getElem?_eq_getElem (by rw [← HNN.out]; exact hlt)⟩
      obtain ⟨u, hu⟩ : ∃ u, L[k]? = some u := ⟨_, List.getElem?_eq_getElem (by rw [HL.out]; exact hlt)⟩
      obtain ⟨key, hkey⟩ : ∃ key, ks[k]? = some key := ⟨_, List.getElem?_eq_getElem (by rw [HKL.out]; exact hlt)⟩
      have HBW : Hid (Below w.heap.size w wr) := Lib.hid (HWB.out.trans (HB.out.mono HWB.out.size))
      obtain ⟨a, p1, p2, p3, q1, q2, q3, rfl, c0, c1, c2, c3, hvr⟩ := HC.out wr HBW.out k y hy
      obtain ⟨yk, hyk⟩ : ∃ yk, yk = y.kind := ⟨_, rfl⟩
      obtain ⟨yt, hyt⟩ : ∃ yt, yt = y.text := ⟨_, rfl⟩
      rw [← hyk] at c0 hvr
      rw [← hyt] at c1 hvr
      obtain ⟨W2, hW2⟩ : ∃ W2, W2 = wr.alloc (.cells #[.string yk, .string yt, .slice p1 p2 p3, .slice q1 q2 q3] 25) := ⟨_, rfl⟩
      have HB2 : Hid (Below wr.heap.size wr W2) := by rw [hW2]; exact Lib.hid ((Below.refl _ _).alloc (Nat.le_refl _) _)
      have HV := Lib.hid (HIH.out k y u hy hu W2 _ (VR.stayB hvr HB2.out))
      unfold ValP at HV
      have HU := Lib.hid hu
      have HKEY := Lib.hid hkey
      have HW2 := Lib.hid hW2
      have hksz : key.size ≤ 4294967296 := HKS.out key (List.mem_of_getElem? hkey)
      have HLIT := Lib.hid (WideMaps.keyOf_string_mk Tryz.underlying9 (s := key) (Nat.le_trans hksz (by unfold maxLen; omega)))
      clear hk hk1 hy hu hkey hvr hyk hyt hW2
      go_upto_region 31 with (go_at_call 34; rw [← HW2.out]; (with_reducible refine HV.out.mono ?_); rintro e w3 ⟨xv, rfl, hx, hb⟩)
      have HB3 : Hid (Below wr.heap.size wr w3) := Lib.hid (HB2.out.trans (hb.mono HB2.out.size))
      have HX : Hid (CX (FromB wr.heap.size) w3 xv u) := Lib.hid (hx.mono fun i hi _ => Nat.le_trans HB2.out.size hi)
      have HBW3 : Hid (Below w.heap.size w w3) := Lib.hid (HBW.out.trans (HB3.out.mono HBW.out.size))
      have hgl : w.heap.size + 1 < wr.heap.size := by have := HSB.out; omega
      have HOWN3 : Hid (w3.ownsMap Tryz.prog 9 RA (w.heap.size + 1) k D) := Lib.hid (ownsMapA_at HOWN.out (HB3.out.block _ hgl))
      obtain ⟨ka, rfl, hkc⟩ := HKC.out w3 HBW3.out k key HKEY.out
      have hcb : w3.cell? ⟨w.heap.size, 2, none⟩ = some (.slice (some ka) n kc) := by
        refine (HB3.out.cell (p := ⟨w.heap.size, 2, none⟩) (by show w.heap.size < _; omega)).trans ((HB.out.cell (p := ⟨w.heap.size, 2, none⟩) (by show w.heap.size < _; have := HSB.out; omega)).trans HCB.out)
      have hone : xv.oneCell' = true := hx.one
      have HRA : Hid (RA xv = some (.held xv, [])) := by
        rcases hx.shape with rfl | ⟨Tx, yx, rfl⟩ <;> exact Lib.hid rfl
      clear hb hx c0 c1 c2 c3
      go_wp2_with (at_mapUpdate; refine wpList_mapUpdate_own _ rfl _ _ _ 130 rfl 9 20 keyedS Tryz.underlying130 RA (w.heap.size + 1) k _ rfl HOWN3.out (by unfold maxLen; omega) _ _ _ rfl rfl HLIT.out (.held xv) [] HRA.out ?_)
      intro w4 hown4 hgr4
      have HRN : Hid (VoR (ks.map (·.data.toList)) L w Wb (w.heap.size + 1) (k + 1) w4) := Lib.hid (vo_step (key := key.data.toList) HD.out (by rw [List.getElem?_map, HKEY.out]; rfl) HU.out HSB.out.symm HWB.out.size HOWN.out HA.out HXL.out HB.out hsz HOLD.out HB3.out HX.out hown4 hgr4)
      clear hown4 hgr4
      go_wp2_with (fail)
      go_roundg g2
      case measure => omega
      case rel => exact ⟨k + 1, HK1.out, by first | rfl | go_num, HRN⟩
theorem value_x {t : VT} {u : List UInt8} (h : CanT t u) : ∀ (W : World) (v : Value), VR W v t → Calls Tryz.prog 34 #[v] W (ValP u W) := by
  induction h with
  | null t hk =>
    intro W v hv
    obtain ⟨kv, lv, rfl, _, _, _, _⟩ := hv.ex
    rw [hk]
    exact valueX_null _ _ _ _
  | bool t β hk ht =>
    intro W v hv
    obtain ⟨kv, lv, rfl, _, _, _, _⟩ := hv.ex
    rw [hk, ht]
    exact valueX_bool β _ _ _
  | num t v0 hk hs hp =>
    intro W v hv
    obtain ⟨kv, lv, rfl, _, _, _, _⟩ := hv.ex
    rw [hk]
    exact valueX_num _ hs v0 hp _ _ _
  | str t hk hs =>
    intro W v hv
    obtain ⟨kv, lv, rfl, _, _, _, _⟩ := hv.ex
    rw [hk]
    exact valueX_str _ hs _ _ _
  | list t L hk hl hn hv ih =>
    intro W v hv'
    obtain ⟨kv, lv, rfl, _, _, h3, h4⟩ := hv'.ex
    obtain ⟨k1, k2, k3, rfl⟩ := strR_sl h3
    rw [hk]
    exact valueX_list _ h4 hl hn fun j y u hy hu => ih j y u hy hu
  | obj t L hk hl hn hkl hd hks hv ih =>
    intro W v hv'
    obtain ⟨kv, lv, rfl, _, _, h3, h4⟩ := hv'.ex
    rw [hk]
    exact valueX_obj _ h4 h3 hl hn hkl hd hks fun j y u hy hu => ih j y u hy hu
set_option maxRecDepth 100000 in
set_option maxHeartbeats 8000000 in
theorem canon_x {t : VT} {u : List UInt8} (h : CanT t u) (hu : u.length ≤ 4294967296) {w : World} {v : Value} (hv : VR w v t) :
    Calls Tryz.prog 14 #[v] w fun e w' => ∃ b, e = .returned (.tuple #[b, .bool true]) ∧ BSrc w' b u ∧ Below w.heap.size w w' := by
  obtain ⟨kv, lv, rfl, _, _, h3, h4⟩ := hv.ex
  obtain ⟨k1, k2, k3, rfl⟩ := strR_sl h3
  obtain ⟨l1, l2, l3, rfl⟩ := lr_sl h4
  obtain ⟨tk, htk⟩ : ∃ tk, tk = t.kind := ⟨_, rfl⟩
  obtain ⟨tt, htt⟩ : ∃ tt, tt = t.text := ⟨_, rfl⟩
  rw [← htk, ← htt] at hv ⊢
  obtain ⟨W, hW⟩ : ∃ W, W = w.alloc (.cells #[.string tk, .string tt, .slice k1 k2 k3, .slice l1 l2 l3] 25) := ⟨_, rfl⟩
  have HB : Hid (Below w.heap.size w W) := by show Below _ _ _; rw [hW]; exact (Below.refl _ _).alloc (Nat.le_refl _) _
  have HV := Lib.hid (value_x h W _ (hv.stayB HB.out))
  unfold ValP at HV
  have HW := Lib.hid hW
  have HU := Lib.hid hu
  clear hW hu hv h3 h4 htk htt
  go_enter Tryz.func14, Tryz.ntmps14
  go_wp2_with (fail)
  rw [← HW.out]
  clear HW
  (with_reducible refine HV.out.mono ?_)
  rintro e w1 ⟨x, rfl, hx, hb⟩
  have HB1 := Lib.hid (HB.out.trans (hb.mono HB.out.size))
  have HX : Hid (CX (fun i => i < w1.heap.size) w1 x u) := Lib.hid (hx.mono fun i _ hi => hi)
  clear hb hx
  have hs := HX.out.shape
  have HE := Lib.hid (encodeCanonical_x HX.out (fun i hi => hi) HU.out)
  rcases hs with rfl | ⟨Tx, yx, rfl⟩
  all_goals
    go_wp2_with (fail)
    (with_reducible refine HE.out.mono ?_)
    rintro e w2 ⟨v, rfl, hv, hb⟩
    have HVV := Lib.hid hv
    have HB2 := Lib.hid (HB1.out.trans (hb.mono HB1.out.size))
    clear hv hb
    go_wp2_with (fail)
    go_quiet (fail)
    go_wp2_with (fail)
    go_ret2
    exact ⟨v, rfl, HVV.out, ⟨HB2.out.os, HB2.out.tape, HB2.out.output, HB2.out.size, HB2.out.block⟩⟩
end Go.Proofs.YtjganhmbjffjfaaGreatDoor
