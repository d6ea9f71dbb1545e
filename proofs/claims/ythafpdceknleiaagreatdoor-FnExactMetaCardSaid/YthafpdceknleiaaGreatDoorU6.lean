/- metadata.CheckUniqueSignatures. -/
import Derived.Test.YthafpdceknleiaaGreatDoorU5
open Go Go.RowKit
namespace Go.Proofs.YthafpdceknleiaaGreatDoor
/-- The metadata that impl.Unique makes. -/
def rootM (so : Option Addr) (n c : Nat) : Value := .agg #[.string ⟨#[]⟩, .string ⟨#[]⟩, .bool false, .int .i64 0, .int .i64 0, .map none, .map none, .slice so n c, .slice none 0 0]
theorem sgCells_get : ∀ (l : List (ByteArray × Int)) (us : List Value), us.length = l.length → ∀ (j : Nat) (x : ByteArray × Int), l[j]? = some x → ∃ u, us[j]? = some u ∧ (sgCells l us)[j * 2]? = some (.string x.1) ∧ (sgCells l us)[j * 2 + 1]? = some u
  | [], _, _, j, x, hx => by cases hx
  | y :: l, [], h, _, _, _ => by cases h
  | y :: l, u :: us, h, 0, x, hx => by
      cases hx
      exact ⟨u, rfl, rfl, rfl⟩
  | y :: l, u :: us, h, j + 1, x, hx => by
      obtain ⟨u', h1, h2, h3⟩ := sgCells_get l us (by simpa using h) j x (by simpa using hx)
      have e : sgCells (y :: l) (u :: us) = .string y.1 :: u :: sgCells l us := rfl
      refine ⟨u', by simpa using h1, ?_, ?_⟩
      · rw [e, show (j + 1) * 2 = j * 2 + 1 + 1 by omega, List.getElem?_cons_succ, List.getElem?_cons_succ]; exact h2
      · rw [e, show (j + 1) * 2 + 1 = j * 2 + 1 + 1 + 1 by omega, List.getElem?_cons_succ, List.getElem?_cons_succ]; exact h3
theorem info_str : (Tryz.prog.info? 9).map (fun i => (i.zero, i.size, i.bytes)) = some (some (.string ⟨#[]⟩), 1, 16) := by kernel_rfl
theorem own_slice' {w : World} {R k n : Nat} {T : TypeId} {v : Value} {xs : List Value} (h : w.ownsRow R T k v n xs) : ∃ a c, v = .slice a n c := by
  rcases h.2 with ⟨rfl, rfl⟩ | ⟨g, cap, cur, rfl, _⟩
  · exact ⟨_, _, rfl⟩
  · exact ⟨_, _, rfl⟩
theorem txtR_own {w : World} {R : Nat} {a : Option Addr} {c : Nat} {l : List ByteArray} (h : w.ownsRow R 9 1 (.slice a l.length c) l.length (l.map .string)) : TxtR w a l := by
  intro j s hs
  rcases h.2 with ⟨h1, h0⟩ | ⟨g, cap, cur, h1, _⟩
  · rw [List.length_eq_zero_iff.1 h0] at hs
    cases hs
  · cases h1
    exact ⟨_, rfl, h.cells (g := g) rfl j _ (by rw [List.getElem?_map, hs]; rfl)⟩
/-- The head of a round. -/
def CuH (ids : List ByteArray) (R : Nat) (w : World) (j : Nat) (v : Value) (wr : World) : Prop :=
  wr.ownsRow R 9 1 v j ((ids.take j).map .string) ∧ Below R w wr ∧ DisT ids j
/-- What CheckUniqueSignatures leaves. -/
def CuP (ids : List ByteArray) (w : World) (e : Ending) (w' : World) : Prop :=
  Below w.heap.size w w' ∧ ((e = .returned .nilIface ∧ DisT ids ids.length) ∨ (∃ v, e = .returned (.iface 138 v)) ∧ ¬ DisT ids ids.length)
set_option maxRecDepth 100000 in
set_option maxHeartbeats 8000000 in
theorem checkUnique_any {so : Option Addr} {n c : Nat} {l : List (ByteArray × Int)} {us : List Value} {R : Nat} {w : World} (hus : us.length = l.length) (hsl : ∀ u ∈ us, ∃ a n c, u = Value.slice a n c) (hown : w.ownsRow R 149 2 (.slice so n c) l.length (sgCells l us)) (hn : n = l.length) (hl : l.length ≤ 60) :
    Calls Tryz.prog 39 #[rootM so n c] w (CuP (l.map (·.1)) w) := by
  obtain ⟨i0, hi, hz0, hz1, hz2⟩ := info_parts info_str
  have HN := Lib.hid hn
  have hn60 : n ≤ 60 := by omega
  have HCELL : Hid (∀ W, Below w.heap.size w W → ∀ j, j < n → ∃ a x u, so = some a ∧ l[j]? = some x ∧ (∃ a n c, u = Value.slice a n c) ∧ W.cell? (a.add (j * 2)) = some (.string x.1) ∧ W.cell? ⟨(a.add (j * 2)).block, (a.add (j * 2)).off + 1, none⟩ = some u) := by
    refine Lib.hid (fun W hb j hj => ?_)
    obtain ⟨x, hx⟩ : ∃ x, l[j]? = some x := ⟨_, List.getElem?_eq_getElem (by omega)⟩
    obtain ⟨u, h1, h2, h3⟩ := sgCells_get l us hus j x hx
    rcases hown.2 with ⟨g1, g2⟩ | ⟨g, cap, cur, g1, _⟩
    · omega
    · cases g1
      have k0 := hown.cells (g := g) rfl (j * 2) _ h2
      have k1 := hown.cells (g := g) rfl (j * 2 + 1) _ h3
      have k2 := (hb.cell (cell_lt k1)).trans k1
      rw [addrAdd] at k2
      exact ⟨_, x, u, rfl, hx, hsl u (List.mem_of_getElem? h1), (hb.cell (cell_lt k0)).trans k0, by rw [addrAdd, Nat.add_assoc]; exact k2⟩
  clear hown hus hsl hn
  obtain ⟨ids, hids⟩ : ∃ ids, ids = l.map (·.1) := ⟨_, rfl⟩
  have hidl : ids.length = n := by rw [hids, List.length_map, HN.out]
  have HIDL := Lib.hid hidl
  rw [← hids]
  have HGET : Hid (∀ (j : Nat) (x : ByteArray × Int), l[j]? = some x → ids[j]? = some x.1) := by
    refine Lib.hid (fun j x hx => ?_)
    rw [hids, List.getElem?_map, hx]; rfl
  clear hids hidl hl
  obtain ⟨B, hB⟩ : ∃ B, B = w.heap.size := ⟨_, rfl⟩
  obtain ⟨W1, hW1⟩ : ∃ W1, W1 = (w.alloc (.cells #[.string ⟨#[]⟩, .string ⟨#[]⟩, .bool false, .int .i64 0, .int .i64 0, .map none, .map none, .slice so n c, .slice none 0 0] 91)).alloc (.cells #[] 9) := ⟨_, rfl⟩
  have HB1 : Hid (Below w.heap.size w W1) := by rw [hW1]; exact Lib.hid (((Below.refl _ _).alloc (Nat.le_refl _) _).alloc (by rw [World.size_alloc]; omega) _)
  have HS1 : Hid (W1.heap.size = w.heap.size + 2) := by rw [hW1, World.size_alloc, World.size_alloc]; exact Lib.hid rfl
  have HO1 : Hid (W1.ownsRow (w.heap.size + 1) 9 1 (.slice (some ⟨w.heap.size + 1, 0, none⟩) 0 0) 0 []) := by
    have hc := alloc_at (w.alloc (.cells #[.string ⟨#[]⟩, .string ⟨#[]⟩, .bool false, .int .i64 0, .int .i64 0, .map none, .map none, .slice so n c, .slice none 0 0] 91)) (.cells #[] 9)
    rw [← hW1, World.size_alloc] at hc
    refine Lib.hid ⟨rfl, .inr ⟨w.heap.size + 1, 0, _, rfl, by omega, hc, Nat.le_refl _, by unfold maxLen; omega, rfl, rfl⟩⟩
  unfold rootM
  go_enter Tryz.func39, Tryz.ntmps39
  go_wp2_with (fail)
  rw [← hW1]
  clear hW1 hB B
  go_loopw [3, 10] (fun v i wr => ∃ j : Nat, i = .int .i64 j ∧ j ≤ n ∧ Hid (CuH ids (w.heap.size + 1) W1 j v wr)) (fun _ i _ => n - (intOf i).toNat)
  case atStart => exact ⟨0, rfl, Nat.zero_le _, HO1.out, Below.refl _ _, fun j x h => by omega⟩
  case round =>
    obtain ⟨j, rfl, hj, HR⟩ := hrel
    by_cases hlt : j < n
    · have j1 : decide ((j : Int) < (n : Int)) = true := decide_eq_true (by omega)
      obtain ⟨hown, hbr, hdis⟩ := HR.out
      have HBR : Hid (Below w.heap.size w wr) := Lib.hid (HB1.out.trans (hbr.mono (by omega)))
      obtain ⟨a, x, u, rfl, hx, ⟨ua, un, uc, rfl⟩, e0, e1⟩ := HCELL.out wr HBR.out j hlt
      obtain ⟨sa, sc, rfl⟩ := own_slice' hown
      have HX := Lib.hid (HGET.out j x hx)
      obtain ⟨id, hid⟩ : ∃ id, id = x.1 := ⟨_, rfl⟩
      rw [← hid] at e0 HX
      have HLT : Hid ((ids.take j).length = j) := Lib.hid (by rw [List.length_take, HIDL.out]; omega)
      have HOWN := Lib.hid hown
      have HBR1 := Lib.hid hbr
      have HDIS := Lib.hid hdis
      clear hx hid hown hbr hdis
      have hsz1 : w.heap.size + 1 ≤ wr.heap.size := by have := HBR1.out.size; rw [HS1.out] at this; omega
      have HOWB : Hid ((wr.alloc (.cells #[.string id, .slice ua un uc] 149)).ownsRow (w.heap.size + 1) 9 1 (.slice sa j sc) j ((ids.take j).map .string)) := Lib.hid (ownsRow_alloc HOWN.out _)
      have HBWB : Hid (Below (w.heap.size + 1) W1 (wr.alloc (.cells #[.string id, .slice ua un uc] 149))) := Lib.hid (HBR1.out.alloc hsz1 _)
      have hszb : w.heap.size + 1 ≤ (wr.alloc (.cells #[.string id, .slice ua un uc] 149)).heap.size := by have := HBWB.out.size; rw [HS1.out] at this; omega
      have hf0 : (wr.alloc (.cells #[.string id, .slice ua un uc] 149)).cell? ⟨wr.heap.size, 0, none⟩ = some (.string id) := by rw [World.cell?, alloc_at]; rfl
      have HEND : Hid (∀ o, Below w.heap.size w ((wr.alloc (.cells #[.string id, .slice ua un uc] 149)).alloc o)) := Lib.hid (fun o => (HBR.out.alloc HBR.out.size _).alloc (by rw [World.size_alloc]; have := HBR.out.size; omega) o)
      have HNEW : Hid (∀ (i : Nat) (q : Value), [.string id][i]? = some q → ((wr.alloc (.cells #[.string id, .slice ua un uc] 149)).alloc (.cells #[.string id] 9)).cell? ((⟨wr.heap.size + 1, 0, none⟩ : Addr).add i) = some q) := by
        have := cell_one_new (wr.alloc (.cells #[.string id, .slice ua un uc] 149)) (.string id) 9
        rw [World.size_alloc] at this
        exact Lib.hid this
      have HCON : Hid (Calls Tryz.prog 67 #[.slice sa j sc, .string id] (wr.alloc (.cells #[.string id, .slice ua un uc] 149)) fun e w' => e = .returned (.bool (amB id (ids.take j))) ∧ w' = (wr.alloc (.cells #[.string id, .slice ua un uc] 149))) := by
        have h1 := HOWB.out
        rw [← HLT.out] at h1
        rw [show (ids.take (ids.take j).length) = ids.take j by rw [HLT.out]] at h1
        have := slContainsStr_any (cp := sc) id (txtR_own h1) (by rw [HLT.out]; omega)
        rw [HLT.out] at this
        exact Lib.hid this
      obtain ⟨b, hb⟩ : ∃ b, b = amB id (ids.take j) := ⟨_, rfl⟩
      rw [← hb] at HCON
      have HB := Lib.hid hb
      clear hb
      cases b with
      | true =>
        go_wp2_with (first
          | (go_at_call 67; refine HCON.out.mono ?_; rintro e w' ⟨rfl, rfl⟩))
        go_ret
        have hj1 : ids.length = n := HIDL.out
        refine ⟨HEND.out _, .inr ⟨⟨_, rfl⟩, fun h => ?_⟩⟩
        have := h j id (by omega) HX.out
        rw [← HB.out] at this
        cases this
      | false =>
        go_wp2_with (first
          | (go_at_call 67; refine HCON.out.mono ?_; rintro e w' ⟨rfl, rfl⟩)
          | (at_builtin; refine wpList_append_own_at _ rfl _ _ 26 rfl (w.heap.size + 1) 9 i0 (.string ⟨#[]⟩) 1 16 Tryz.underlying26 hi hz0 hz1 hz2 rfl (by decide) _ _ _ rfl (ownsRow_alloc HOWB.out _) ⟨wr.heap.size + 1, 0, none⟩ 1 1 [.string id] rfl rfl HNEW.out (by intro q hq; rw [List.mem_singleton.1 hq]; rfl) (by unfold maxLen; omega) (by omega) (by rw [World.size_alloc]; omega) ?_))
        intro v' w4 hown hgr _ _
        have HRN : Hid (CuH ids (w.heap.size + 1) W1 (j + 1) v' w4) := by
          refine Lib.hid ⟨?_, grown_belowK (HBWB.out.alloc hszb _) (ownsRow_alloc HOWB.out _) (by rw [World.size_alloc]; omega) hgr, ?_⟩
          · rw [List.take_add_one, HX.out, List.map_append, List.map_take]; exact hown
          · intro i y hi hy
            rcases Nat.lt_or_ge i j with h | h
            · exact HDIS.out i y h hy
            · have hij : i = j := by omega
              subst hij
              have hxx := HX.out
              rw [hy] at hxx
              cases hxx
              exact HB.out.symm
        clear hown hgr
        go_wp2_with (fail)
        go_roundw
        case rel => exact ⟨j + 1, by go_num, by omega, HRN⟩
        case measure => simp [intOf]; omega
    · have j1 : decide ((j : Int) < (n : Int)) = false := decide_eq_false (by omega)
      have HR2 := HR
      rw [show j = n by omega] at HR2
      have HF : Hid (Below w.heap.size w wr) := Lib.hid (HB1.out.trans (HR2.out.2.1.mono (by omega)))
      go_wp2_with (fail)
      go_ret
      exact ⟨HF.out, .inl ⟨rfl, by rw [HIDL.out]; exact HR2.out.2.2⟩⟩
end Go.Proofs.YthafpdceknleiaaGreatDoor
