/- impl.value at null, a bool, a number, a string; the trees that have a canonical text. impl.value at lists. -/
import Derived.Test.YtjganhmbjffjfaaGreatDoorY4
import Derived.Test.YtjganhmbjffjfaaGreatDoorT1
open Go Go.RowKit Go.Maps
namespace Go.Proofs.YtjganhmbjffjfaaGreatDoor
theorem CX.stay {P : Nat → Prop} {w w' : World} (hb : Below w.heap.size w w') {x : Value} {t : List UInt8} (h : CX P w x t) : CX P w' x t := by
  induction h with
  | null => exact .null
  | bool β => exact .bool β
  | str s hs => exact .str s hs
  | num s hs v h => exact .num s hs v h
  | list g n c L hg hlt hn hc hm hv hcell ih =>
    exact .list g n c L hg (Nat.lt_of_lt_of_le hlt hb.size) hn hc hm ih fun j x hj => (hb.cell (p := ⟨g, j, none⟩) hlt).trans (hcell j x hj)
  | obj g K hg hlt hm hd hk hK hv ih => exact .obj g K hg (Nat.lt_of_lt_of_le hlt hb.size) (hm.at (hb.block g hlt)) hd hk hK ih
theorem CX.mono {P P' : Nat → Prop} {w : World} (hP : ∀ i, P i → i < w.heap.size → P' i) {x : Value} {t : List UInt8} (h : CX P w x t) : CX P' w x t := by
  induction h with
  | null => exact .null
  | bool β => exact .bool β
  | str s hs => exact .str s hs
  | num s hs v h => exact .num s hs v h
  | list g n c L hg hlt hn hc hm hv hcell ih => exact .list g n c L (hP g hg hlt) hlt hn hc hm ih hcell
  | obj g K hg hlt hm hd hk hK hv ih => exact .obj g K (hP g hg hlt) hlt hm hd hk hK ih
/-- The blocks from B on. -/
def FromB (B : Nat) (i : Nat) : Prop := B ≤ i
/-- What impl.value leaves. -/
def ValP (u : List UInt8) (w : World) (e : Ending) (w' : World) : Prop := ∃ x, e = .returned (.tuple #[x, .bool true]) ∧ CX (FromB w.heap.size) w' x u ∧ Below w.heap.size w w'
/-- A tree that has a canonical text. -/
inductive CanT : VT → List UInt8 → Prop
  | null (t : VT) (hk : t.kind = ⟨#[110, 117, 108, 108]⟩) : CanT t [110, 117, 108, 108]
  | bool (t : VT) (β : Bool) (hk : t.kind = ⟨#[98, 111, 111, 108]⟩) (ht : t.text = ⟨(boolT β).toArray⟩) : CanT t (boolT β)
  | num (t : VT) (v : Int) (hk : t.kind = ⟨#[110, 117, 109, 98, 101, 114]⟩) (hs : t.text.size ≤ 4294967296) (h : Lib.parseIntB 64 t.text.data.toList = .ok v) : CanT t t.text.data.toList
  | str (t : VT) (hk : t.kind = ⟨#[115, 116, 114, 105, 110, 103]⟩) (hs : t.text.size ≤ 4294967296) : CanT t (encStr t.text.data.toList)
  | list (t : VT) (L : List (List UInt8)) (hk : t.kind = ⟨#[108, 105, 115, 116]⟩) (hl : L.length = t.list.length) (hn : L.length ≤ 65536) (hv : ∀ (j : Nat) (x : VT) (u : List UInt8), t.list[j]? = some x → L[j]? = some u → CanT x u) : CanT t (91 :: joinC L ++ [93])
  | obj (t : VT) (L : List (List UInt8)) (hk : t.kind = ⟨#[111, 98, 106, 101, 99, 116]⟩) (hl : L.length = t.list.length) (hn : L.length ≤ 65536) (hkl : t.keys.length = t.list.length) (hd : (t.keys.map (·.data.toList)).Nodup) (hks : ∀ s ∈ t.keys, s.size ≤ 4294967296) (hv : ∀ (j : Nat) (x : VT) (u : List UInt8), t.list[j]? = some x → L[j]? = some u → CanT x u) :
      CanT t (123 :: joinC (itemsT ((t.keys.map (·.data.toList)).zip L)) ++ [125])
set_option maxRecDepth 100000 in
set_option maxHeartbeats 4000000 in
theorem valueX_null (x : ByteArray) (kv lv : Value) (w : World) : Calls Tryz.prog 34 #[.agg #[.string ⟨#[110, 117, 108, 108]⟩, .string x, kv, lv]] w (ValP [110, 117, 108, 108] w) := by
  go_enter Tryz.func34, Tryz.ntmps34
  go_wp2_with (fail)
  go_ret2
  exact ⟨_, rfl, .null, (Below.refl _ _).alloc (Nat.le_refl _) _⟩
set_option maxRecDepth 100000 in
set_option maxHeartbeats 4000000 in
theorem valueX_str (x : ByteArray) (hx : x.size ≤ 4294967296) (kv lv : Value) (w : World) : Calls Tryz.prog 34 #[.agg #[.string ⟨#[115, 116, 114, 105, 110, 103]⟩, .string x, kv, lv]] w (ValP (encStr x.data.toList) w) := by
  have HX := Lib.hid hx
  clear hx
  go_enter Tryz.func34, Tryz.ntmps34
  go_wp2_with (fail)
  go_ret2
  exact ⟨_, rfl, .str x HX.out, (Below.refl _ _).alloc (Nat.le_refl _) _⟩
set_option maxRecDepth 100000 in
set_option maxHeartbeats 4000000 in
theorem valueX_num (x : ByteArray) (hx : x.size ≤ 4294967296) (v : Int) (h : Lib.parseIntB 64 x.data.toList = .ok v) (kv lv : Value) (w : World) : Calls Tryz.prog 34 #[.agg #[.string ⟨#[110, 117, 109, 98, 101, 114]⟩, .string x, kv, lv]] w (ValP x.data.toList w) := by
  have HX := Lib.hid (And.intro hx h)
  clear hx h
  go_enter Tryz.func34, Tryz.ntmps34
  go_wp2_with (fail)
  go_ret2
  exact ⟨_, rfl, .num x HX.out.1 v HX.out.2, (Below.refl _ _).alloc (Nat.le_refl _) _⟩
set_option maxRecDepth 100000 in
set_option maxHeartbeats 4000000 in
theorem valueX_bool (β : Bool) (kv lv : Value) (w : World) : Calls Tryz.prog 34 #[.agg #[.string ⟨#[98, 111, 111, 108]⟩, .string ⟨(boolT β).toArray⟩, kv, lv]] w (ValP (boolT β) w) := by
  cases β with
  | true =>
    rw [show (⟨(boolT true).toArray⟩ : ByteArray) = ⟨#[116, 114, 117, 101]⟩ from rfl]
    go_enter Tryz.func34, Tryz.ntmps34
    go_wp2_with (fail)
    go_quiet (fail)
    go_wp2_with (fail)
    go_ret2
    exact ⟨_, rfl, .bool true, below_drewN ((Below.refl _ _).alloc (Nat.le_refl _) _) _⟩
  | false =>
    rw [show (⟨(boolT false).toArray⟩ : ByteArray) = ⟨#[102, 97, 108, 115, 101]⟩ from rfl]
    go_enter Tryz.func34, Tryz.ntmps34
    go_wp2_with (fail)
    go_quiet (fail)
    go_wp2_with (fail)
    go_ret2
    exact ⟨_, rfl, .bool false, below_drewN ((Below.refl _ _).alloc (Nat.le_refl _) _) _⟩
theorem field4 (ad : Addr) (m j : Nat) (hj : 0 < j) : ad.add (m + j) = ⟨(ad.add m).block, (ad.add m).off + j, none⟩ := by
  unfold Addr.add
  by_cases hm : m = 0
  · subst hm
    simp [Nat.ne_of_gt hj]
  · simp [hm, Nat.add_assoc]
theorem strR_sl {w : World} {v : Value} {l : List ByteArray} (h : StrR w v l) : ∃ a n c, v = .slice a n c := by
  rcases h with ⟨rfl, _⟩ | ⟨a, cap, rfl, _⟩
  · exact ⟨_, _, _, rfl⟩
  · exact ⟨_, _, _, rfl⟩
theorem lr_sl {w : World} {v : Value} {l : List VT} (h : LR w v l) : ∃ a n c, v = .slice a n c := by
  cases h
  · exact ⟨_, _, _, rfl⟩
  · exact ⟨_, _, _, rfl⟩
/-- A list of values, its cells at hand. -/
theorem lr_cells {w : World} {lv : Value} {l : List VT} (h : LR w lv l) : ∃ ao c, lv = .slice ao l.length c ∧ l.length ≤ 9223372036854775807 ∧ ∀ W, Below w.heap.size w W → ∀ (j : Nat) (x : VT), l[j]? = some x →
    ∃ a k1 k2 k3 l1 l2 l3, ao = some a ∧ W.cell? (a.add (j * 4)) = some (.string x.kind) ∧ W.cell? ⟨(a.add (j * 4)).block, (a.add (j * 4)).off + 1, none⟩ = some (.string x.text) ∧
      W.cell? ⟨(a.add (j * 4)).block, (a.add (j * 4)).off + 2, none⟩ = some (.slice k1 k2 k3) ∧ W.cell? ⟨(a.add (j * 4)).block, (a.add (j * 4)).off + 3, none⟩ = some (.slice l1 l2 l3) ∧ VR W (.agg #[.string x.kind, .string x.text, .slice k1 k2 k3, .slice l1 l2 l3]) x := by
  cases h with
  | none => exact ⟨none, 0, rfl, Nat.zero_le _, fun _ _ j x hj => by cases hj⟩
  | some a cap l kv lv hc hm hk hr =>
    refine ⟨some a, cap, rfl, by unfold maxLen at hm; omega, fun W hb j x hj => ?_⟩
    obtain ⟨h1, h2, h3, h4, h5, h6, h7⟩ := hk j x hj
    have h8 := hr j x hj
    obtain ⟨k1, k2, k3, hks⟩ := strR_sl h7
    obtain ⟨l1, l2, l3, hls⟩ := lr_sl h8
    have g1 := (hb.cell (cell_lt h1)).trans h1
    have g2 := (hb.cell (cell_lt h2)).trans h2
    have g3 := (hb.cell (cell_lt h3)).trans h3
    have g4 := (hb.cell (cell_lt h4)).trans h4
    rw [field4 a (j * 4) 1 (by omega)] at g2
    rw [field4 a (j * 4) 2 (by omega), hks] at g3
    rw [field4 a (j * 4) 3 (by omega), hls] at g4
    refine ⟨a, k1, k2, k3, l1, l2, l3, rfl, g1, g2, g3, g4, ⟨_, _, rfl, h5, h6, ?_, ?_⟩⟩
    · rw [← hks]; exact h7.stay hb
    · rw [← hls]; exact h8.stay hb
theorem CX.shape {P : Nat → Prop} {w : World} {x : Value} {t : List UInt8} (h : CX P w x t) : x = .nilIface ∨ ∃ T y, x = .iface T y := by
  cases h
  · exact .inl rfl
  all_goals exact .inr ⟨_, _, rfl⟩
theorem CX.move {P P' : Nat → Prop} {w w' : World} (hs : w.heap.size ≤ w'.heap.size) (hP : ∀ i, P i → i < w.heap.size → w'.heap[i]? = w.heap[i]? ∧ P' i) {x : Value} {t : List UInt8} (h : CX P w x t) : CX P' w' x t := by
  induction h with
  | null => exact .null
  | bool β => exact .bool β
  | str s hs => exact .str s hs
  | num s hs v h => exact .num s hs v h
  | list g n c L hg hlt hn hc hm hv hcell ih =>
    exact .list g n c L (hP g hg hlt).2 (Nat.lt_of_lt_of_le hlt hs) hn hc hm ih fun j x hj => (World.cell?_of_block (hP g hg hlt).1).trans (hcell j x hj)
  | obj g K hg hlt hm hd hk hK hv ih => exact .obj g K (hP g hg hlt).2 (Nat.lt_of_lt_of_le hlt hs) (hm.at (hP g hg hlt).1) hd hk hK ih
theorem VR.stayB {w w' : World} {v : Value} {t : VT} (h : VR w v t) (hb : Below w.heap.size w w') : VR w' v t := by
  obtain ⟨kv, lv, e, h1, h2, h3, h4⟩ := h.ex
  exact ⟨kv, lv, e, h1, h2, h3.stay hb, h4.stay hb⟩
/-- The blocks from B on, but g. -/
def RowP (B g i : Nat) : Prop := B ≤ i ∧ i ≠ g
/-- The head of value's loop over a list. -/
def VlR (L : List (List UInt8)) (w : World) (k : Nat) (v : Value) (wr : World) : Prop :=
  ∃ (xs : List Value) (g cap : Nat), v = .slice (some ⟨g, 0, none⟩) k cap ∧ xs.length = k ∧ wr.ownsRow (w.heap.size + 1) 20 1 v k xs ∧ Below w.heap.size w wr ∧ w.heap.size + 1 ≤ wr.heap.size ∧ ∀ (j : Nat) (x : Value) (u : List UInt8), xs[j]? = some x → L[j]? = some u → CX (RowP w.heap.size g) wr x u
theorem vl_step {L : List (List UInt8)} {w : World} {k g cap : Nat} {v' x : Value} {u : List UInt8} {wr w3 w4 : World} (hu : L[k]? = some u) (hb3 : Below wr.heap.size wr w3) (hx : CX (FromB wr.heap.size) w3 x u) (xs : List Value) (hxs : xs.length = k) (hbw : Below w.heap.size w wr) (hsz : w.heap.size + 1 ≤ wr.heap.size)
    (hold : ∀ (j : Nat) (x : Value) (u : List UInt8), xs[j]? = some x → L[j]? = some u → CX (RowP w.heap.size g) wr x u) (ho : wr.ownsRow (w.heap.size + 1) 20 1 (.slice (some ⟨g, 0, none⟩) k cap) k xs)
    (hown : w4.ownsRow (w.heap.size + 1) 20 1 v' (k + 1) (xs ++ [x])) (hgr : (w3.alloc (.cells #[x] 20)).grownBy w4 (some g)) (hat : v'.ownBlock = some g ∨ v'.ownBlock = some (w3.heap.size + 1)) : VlR L w (k + 1) v' w4 := by
  obtain ⟨g', cap', rfl⟩ : ∃ g cap, v' = .slice (some ⟨g, 0, none⟩) (k + 1) cap := by
    rcases hown.2 with ⟨_, h0⟩ | ⟨g, cap, cur, e, _⟩
    · cases h0
    · exact ⟨g, cap, e⟩
  have hgl := World.ownsRow.lt ho g rfl
  have hg' : g' = g ∨ g' = w3.heap.size + 1 := by simpa [Value.ownBlock] using hat
  have hs3 := hb3.size
  have hs4 : w3.heap.size + 1 ≤ w4.heap.size := by have := hgr.size; rw [World.size_alloc] at this; exact this
  have hheap : ∀ i, i < w3.heap.size → i ≠ g → w4.heap[i]? = w3.heap[i]? := fun i hi hne => by
    rw [hgr.block i (by rw [World.size_alloc]; omega) (by intro e; exact hne (by injection e))]
    exact Below.heap_alloc _ _ _ hi
  have hbel : Below w.heap.size w w4 := by
    have h1 : Below w.heap.size w (w3.alloc (.cells #[x] 20)) := (hbw.trans (hb3.mono hbw.size)).alloc (by have := hbw.size; omega) _
    exact h1.grown hgr (by rw [World.size_alloc]; have := hbw.size; omega) (fun k hk => by injection hk with hk; omega)
  refine ⟨xs ++ [x], g', cap', rfl, by rw [List.length_append, hxs]; rfl, hown, hbel, by omega, fun j y t hy ht => ?_⟩
  rcases Nat.lt_or_ge j xs.length with hj | hj
  · rw [List.getElem?_append_left hj] at hy
    refine (hold j y t hy ht).move (by omega) fun i hi hl => ?_
    refine ⟨(hheap i (by omega) hi.2).trans (hb3.block i hl), hi.1, ?_⟩
    rcases hg' with h | h
    · rw [h]; exact hi.2
    · omega
  · rw [List.getElem?_append_right hj] at hy
    have hj0 : j = k := by
      have := (List.getElem?_eq_some_iff.1 hy).1
      simp at this
      omega
    subst hj0
    rw [hxs, Nat.sub_self] at hy
    cases hy
    rw [hu] at ht
    cases ht
    refine hx.move (by omega) fun i hi hl => ?_
    have hi' : wr.heap.size ≤ i := hi
    refine ⟨hheap i hl (by omega), by have := hbw.size; omega, ?_⟩
    rcases hg' with h | h <;> omega
set_option maxRecDepth 100000 in
set_option maxHeartbeats 8000000 in
theorem valueX_list {L : List (List UInt8)} {l : List VT} {w : World} {lv : Value} (x : ByteArray) {k1 : Option Addr} {k2 k3 : Nat} (h : LR w lv l) (hl : L.length = l.length) (hn : L.length ≤ 65536)
    (ih : ∀ (j : Nat) (y : VT) (u : List UInt8), l[j]? = some y → L[j]? = some u → ∀ W v, VR W v y → Calls Tryz.prog 34 #[v] W (ValP u W)) :
    Calls Tryz.prog 34 #[.agg #[.string ⟨#[108, 105, 115, 116]⟩, .string x, .slice k1 k2 k3, lv]] w (ValP (91 :: joinC L ++ [93]) w) := by
  obtain ⟨i0, hi, hz0, hz1, hz2⟩ := info_parts info_any
  obtain ⟨ao, c, rfl, hlen, hcell⟩ := lr_cells h
  obtain ⟨n, hnn⟩ : ∃ n, n = l.length := ⟨_, rfl⟩
  rw [← hnn] at hl hlen
  rw [← hnn]
  have hn6 : n ≤ 65536 := by omega
  have HNN := Lib.hid hnn
  have HL := Lib.hid hl
  have HC := Lib.hid hcell
  have HIH := Lib.hid ih
  obtain ⟨W1, hW1⟩ : ∃ W1, W1 = (w.alloc (.cells #[.string ⟨#[108, 105, 115, 116]⟩, .string x, .slice k1 k2 k3, .slice ao n c] 25)).alloc (.cells #[] 20) := ⟨_, rfl⟩
  have H0 : Hid (VlR L w 0 (.slice (some ⟨w.heap.size + 1, 0, none⟩) 0 0) W1) := by
    refine Lib.hid ⟨[], w.heap.size + 1, 0, rfl, rfl, ⟨rfl, .inr ⟨w.heap.size + 1, 0, #[], rfl, Nat.le_refl _, ?_, Nat.le_refl _, by decide, rfl, rfl⟩⟩, ?_, ?_, fun j y u hy => by cases hy⟩
    · have := alloc_at (w.alloc (.cells #[.string ⟨#[108, 105, 115, 116]⟩, .string x, .slice k1 k2 k3, .slice ao n c] 25)) (.cells #[] 20)
      rw [World.size_alloc] at this
      rw [hW1]; exact this
    · rw [hW1]; exact ((Below.refl _ _).alloc (Nat.le_refl _) _).alloc (by rw [World.size_alloc]; omega) _
    · rw [hW1, World.size_alloc, World.size_alloc]; omega
  have HW1 := Lib.hid hW1
  clear h hl hnn hcell ih hn hW1
  go_enter Tryz.func34, Tryz.ntmps34
  go_wp2_with (fail)
  rw [← HW1.out]
  go_loopg [4, 48] n (fun gk2 v i wr => ∃ k : Nat, k + gk2 = n ∧ i = .int .i64 k ∧ Hid (VlR L w k v wr))
  case atStart => exact ⟨0, by omega, rfl, H0⟩
  case round =>
    obtain ⟨k, hk, rfl, HR⟩ := hrel
    obtain ⟨xs, g, cap, rfl, hxl, hown, hbw, hsz, hold⟩ := HR.out
    have HOWN := Lib.hid hown
    have HB := Lib.hid hbw
    have HOLD := Lib.hid hold
    have HXL := Lib.hid hxl
    clear hown hbw hold hxl
    cases gk with
    | zero =>
      have hkn : ¬ (k : Int) < (n : Int) := by omega
      have HKN : Hid (k = n) := Lib.hid (by omega)
      clear hk
      go_wp2_with (fail)
      have HEND : Hid (ValP (91 :: joinC L ++ [93]) w (.returned (.tuple #[.iface 129 (.slice (some ⟨g, 0, none⟩) k cap), .bool true])) wr) := by
        have hlc : g < wr.heap.size := (World.ownsRow.lt HOWN.out g rfl).2
        have hgb : w.heap.size ≤ g := by have := (World.ownsRow.lt HOWN.out g rfl).1; omega
        have hcc : k ≤ cap ∧ cap ≤ maxLen := by
          rcases HOWN.out.2 with ⟨e, _⟩ | ⟨g', cap', cur, e, _, _, h1, h2, _⟩
          · cases e
          · simp only [Value.slice.injEq] at e; obtain ⟨_, _, rfl⟩ := e; exact ⟨h1, h2⟩
        have hzs : (xs.zip L).map (·.2) = L := by rw [List.map_snd_zip (by rw [HXL.out, HL.out, HKN.out]; exact Nat.le_refl _)]
        have hc := CX.list (P := FromB w.heap.size) (w := wr) g k cap (xs.zip L) hgb hlc (by rw [List.length_zip, HXL.out, HL.out, HKN.out]; exact Nat.min_self _) hcc.1 hcc.2 (fun y hy => by
          obtain ⟨j, hj⟩ := List.mem_iff_getElem?.1 hy
          rw [List.getElem?_zip_eq_some] at hj
          exact (HOLD.out j y.1 y.2 hj.1 hj.2).mono fun i hi _ => hi.1) (fun j y hy => by
          rw [List.getElem?_zip_eq_some] at hy
          have := HOWN.out.cells (g := g) rfl j _ hy.1
          rw [addrAdd, Nat.zero_add] at this
          exact this)
        rw [hzs] at hc
        exact Lib.hid ⟨_, rfl, hc, HB.out⟩
      go_ret2
      exact HEND.out
    | succ g2 =>
      have hlt : k < n := by omega
      have hk1 : k + 1 + g2 = n := by omega
      have HK1 := Lib.hid hk1
      have hki : (k : Int) < (n : Int) := by omega
      obtain ⟨y, hy⟩ : ∃ y, l[k]? = some y := ⟨_, List.getElem?_eq_getElem (by rw [← HNN.out]; exact hlt)⟩
      obtain ⟨u, hu⟩ : ∃ u, L[k]? = some u := ⟨_, List.getElem?_eq_getElem (by rw [HL.out]; exact hlt)⟩
      obtain ⟨a, p1, p2, p3, q1, q2, q3, rfl, c0, c1, c2, c3, hvr⟩ := HC.out wr HB.out k y hy
      obtain ⟨yk, hyk⟩ : ∃ yk, yk = y.kind := ⟨_, rfl⟩
      obtain ⟨yt, hyt⟩ : ∃ yt, yt = y.text := ⟨_, rfl⟩
      rw [← hyk] at c0 hvr
      rw [← hyt] at c1 hvr
      obtain ⟨W2, hW2⟩ : ∃ W2, W2 = wr.alloc (.cells #[.string yk, .string yt, .slice p1 p2 p3, .slice q1 q2 q3] 25) := ⟨_, rfl⟩
      have HB2 : Hid (Below wr.heap.size wr W2) := by rw [hW2]; exact Lib.hid ((Below.refl _ _).alloc (Nat.le_refl _) _)
      have HV := Lib.hid (HIH.out k y u hy hu W2 _ (VR.stayB hvr HB2.out))
      unfold ValP at HV
      have HU := Lib.hid hu
      have HW2 := Lib.hid hW2
      clear hk hk1 hy hu hvr hyk hyt hW2
      go_upto_region 18 with (go_at_call 34; rw [← HW2.out]; (with_reducible refine HV.out.mono ?_); rintro e w3 ⟨xv, rfl, hx, hb⟩)
      have hsz3 : wr.heap.size ≤ w3.heap.size := Nat.le_trans HB2.out.size hb.size
      have HB3 : Hid (Below wr.heap.size wr w3) := Lib.hid (HB2.out.trans (hb.mono HB2.out.size))
      have HX : Hid (CX (FromB wr.heap.size) w3 xv u) := Lib.hid (hx.mono fun i hi _ => Nat.le_trans HB2.out.size hi)
      have HO3 := Lib.hid (own_below HOWN.out HB3.out)
      have hone : xv.oneCell' = true := hx.one
      have HONE := Lib.hid hone
      clear hb hx hone
      rcases HX.out.shape with rfl | ⟨Tx, yx, rfl⟩
      all_goals
        go_wp2_with (at_builtin; refine wpList_append_own_at _ rfl _ _ 129 rfl (w.heap.size + 1) 20 i0 .nilIface 1 16 Tryz.underlying129 hi hz0 hz1 hz2 rfl (by decide) _ _ _ rfl (ownsRow_alloc HO3.out _) ⟨w3.heap.size, 0, none⟩ 1 1 [_] rfl rfl (cell_one_new w3 _ 20) (by intro q hq; rw [List.mem_singleton.1 hq]; rfl) (by unfold maxLen; omega) (by omega) (by rw [World.size_alloc]; omega) ?_)
        intro v4 w4 hown4 hgr4 _ hat4
        have HRN : Hid (VlR L w (k + 1) v4 w4) := Lib.hid (vl_step HU.out HB3.out HX.out xs HXL.out HB.out hsz HOLD.out HOWN.out hown4 hgr4 hat4)
        clear hown4 hgr4 hat4
        go_wp2_with (fail)
        go_roundg g2
        case measure => omega
        case rel => exact ⟨k + 1, HK1.out, by first | rfl | go_num, HRN⟩
end Go.Proofs.YtjganhmbjffjfaaGreatDoor
