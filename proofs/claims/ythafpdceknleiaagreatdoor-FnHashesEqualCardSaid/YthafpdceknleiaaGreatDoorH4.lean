/- laws.FnHashesEqual. -/
import Derived.Test.YthafpdceknleiaaGreatDoorH6
import Derived.Test.YthafpdceknleiaaGreatDoorU2
import Derived.Test.YthafpdceknleiaaGreatDoorA1
import Derived.Deep.RegionLaw
import Derived.Lib.LazyBuf
open Go Go.RowKit Go.Maps
namespace Go.Proofs.YthafpdceknleiaaGreatDoor
theorem info_hash : (Tryz.prog.info? 50).map (fun i => (i.zero, i.size, i.bytes)) = some (some (.agg #[.string ⟨#[]⟩, .slice none 0 0]), 2, 40) := by kernel_rfl
theorem hsCells_one {w : World} {us : List Value} {l : List (ByteArray × List UInt8)} (h : SumsR w us l) : ∀ q ∈ hsCells l us, q.oneCell' = true := by
  intro q hq
  unfold hsCells at hq
  obtain ⟨p, hp, hq⟩ := List.mem_flatMap.1 hq
  simp only [List.mem_cons, List.not_mem_nil, or_false] at hq
  rcases hq with rfl | rfl
  · rfl
  · obtain ⟨j, hj⟩ := List.mem_iff_getElem?.1 hp
    rw [List.getElem?_zip_eq_some] at hj
    obtain ⟨⟨ao, n, c, e⟩, _⟩ := h.2 j _ _ hj.1 hj.2
    rw [e]; rfl
theorem addr_add_add (a : Addr) (i j : Nat) : (a.add i).add j = a.add (i + j) := by
  unfold Addr.add
  by_cases h : i = 0
  · subst h; simp
  · by_cases h2 : j = 0
    · subst h2; simp [h]
    · simp [h, h2, Nat.add_assoc]
theorem cells_snoc (s : List UInt8) {x : Int} (hx : 0 ≤ x ∧ x ≤ 255) : Lib.byteCells (s ++ [UInt8.ofNat x.toNat]) = Lib.byteCells s ++ [.int .u8 x] := by
  rw [byteCells_append]
  congr 1
  show [Value.int .u8 ((UInt8.ofNat x.toNat).toNat : Int)] = _
  rw [UInt8.toNat_ofNat_of_lt' (by show x.toNat < 256; omega)]
  congr 2
  omega
/-- The head of a round: the kinds so far. -/
def HqH (l : List (ByteArray × List UInt8)) (R : Nat) (w : World) (j : Nat) (v : Value) (wr : World) : Prop :=
  wr.ownsRow R 9 1 v j ((l.take j).map fun x => .string x.1) ∧ Below R w wr ∧ ∀ x ∈ l.take j, x.2.length ≤ 300
set_option maxRecDepth 100000 in
set_option maxHeartbeats 16000000 in
theorem fnHashesEqual_any {v : Value} {x1 x2 : Int} {w : World} (hsl : SL PHashB 2 w v) (hx1 : -9223372036854775808 ≤ x1 ∧ x1 ≤ 9223372036854775807) (hx2 : 0 ≤ x2 ∧ x2 ≤ 255) (hN : TL w.heap.size w) :
    Calls Tryz.prog 5 #[v, .int .i64 x1, .int .u8 x2] w fun e w' => e = .returned (.bool true) ∧ Below w.heap.size w w' := by
  obtain ⟨i0, hi, hz0, hz1, hz2⟩ := info_parts info_str
  obtain ⟨k0, ki, kz0, kz1, kz2⟩ := info_parts info_hash
  obtain ⟨j0, ji, jz0, jz1, jz2⟩ := info_parts info_u8
  have HF := Lib.hid (fitsS_Hash (slB_to hsl))
  obtain ⟨l, hl, hss⟩ := hsR_ofB hsl
  have HSS := Lib.hid hss
  obtain ⟨ao, n, c, rfl, hn, hnm⟩ : ∃ ao n c, v = .slice ao n c ∧ n = l.length ∧ n ≤ maxLen := by
    rcases hl with ⟨rfl, h2⟩ | ⟨a, c, h1, h2, h3, _⟩
    · exact ⟨_, _, _, rfl, by rw [h2]; rfl, by decide⟩
    · exact ⟨_, _, _, h1, rfl, by omega⟩
  unfold maxLen at hnm
  have HSR := Lib.hid hl
  have HNL := Lib.hid hn
  have HN := Lib.hid hN
  have HAW : Hid (∀ W, Below w.heap.size w W → Calls Tryz.prog 10 #[] W fun e w' => e = .returned (.bool true) ∧ Below W.heap.size W w') := by
    intro W hb
    exact awake_true _ W (HN.out.mono (Nat.le_refl _) hb)
  clear hsl hl hn hN hss
  go_enter Tryz.func5, Tryz.ntmps5
  go_upto_if 13 with (go_at_call 18; refine HF.out.mono ?_; rintro e w2 ⟨b, rfl, hb⟩)
  have HB2 := Lib.hid hb
  clear hb
  cases b with
  | false =>
    go_wp2_with (fail)
    go_ret
    exact ⟨rfl, HB2.out⟩
  | true =>
    rw [show (!true) = false from rfl]
    have go : ∀ W, Below w.heap.size w W → Calls Tryz.prog 10 #[] W fun e w' => e = .returned (.bool true) ∧ Below w.heap.size w w' := fun W hb => (HAW.out W hb).mono fun _ _ h => ⟨h.1, hb.trans (h.2.mono hb.size)⟩
    have HGO := Lib.hid go
    clear go
    by_cases g1 : n = 0
    · have e1 : ((n : Int) == 0) = true := by subst g1; rfl
      go_wp2_with (go_at_call 10; refine (HGO.out _ HB2.out).mono ?_; rintro e w' ⟨rfl, hb⟩)
      go_ret
      exact ⟨rfl, hb⟩
    · have e1 : ((n : Int) == 0) = false := by simp; omega
      by_cases g2 : 20 < n
      · have e2 : decide ((20 : Int) < (n : Int)) = true := decide_eq_true (by omega)
        go_wp2_with (go_at_call 10; refine (HGO.out _ HB2.out).mono ?_; rintro e w' ⟨rfl, hb⟩)
        go_ret
        exact ⟨rfl, hb⟩
      · have e2 : decide ((20 : Int) < (n : Int)) = false := decide_eq_false (by omega)
        by_cases g3 : x1 < 0
        · have e3 : decide (x1 < 0) = true := decide_eq_true g3
          go_wp2_with (go_at_call 10; refine (HGO.out _ HB2.out).mono ?_; rintro e w' ⟨rfl, hb⟩)
          go_ret
          exact ⟨rfl, hb⟩
        · have e3 : decide (x1 < 0) = false := decide_eq_false g3
          by_cases g4 : (n : Int) ≤ x1
          · have e4 : decide ((n : Int) ≤ x1) = true := decide_eq_true g4
            go_wp2_with (go_at_call 10; refine (HGO.out _ HB2.out).mono ?_; rintro e w' ⟨rfl, hb⟩)
            go_ret
            exact ⟨rfl, hb⟩
          · have e4 : decide ((n : Int) ≤ x1) = false := decide_eq_false g4
            go_wp2_with (fail)
            have g1' : 1 ≤ n := by omega
            obtain ⟨at', rfl⟩ : ∃ k : Nat, x1 = (k : Int) := ⟨x1.toNat, by omega⟩
            have g4' : at' < n := by omega
            have HG := Lib.hid (And.intro g1' g4')
            have hn20 : n ≤ 20 := by omega
            clear g1 e1 g2 e2 g3 e3 g4 e4 g1' g4'
            obtain ⟨B, hB⟩ : ∃ B, B = w.heap.size := ⟨_, rfl⟩
            have HBS := Lib.hid hB
            clear hB
            go_loopw [7, 35] (fun v i wr => ∃ j : Nat, i = .int .i64 j ∧ j ≤ n ∧ Hid (HqH l w.heap.size w j v wr)) (fun _ i _ => n - (intOf i).toNat)
            case atStart => exact ⟨0, rfl, Nat.zero_le _, ⟨rfl, .inl ⟨rfl, rfl⟩⟩, HB2.out, fun _ h => by simp at h⟩
            case round =>
              obtain ⟨j, rfl, hj, HR⟩ := hrel
              by_cases hlt : j < n
              · have j1 : decide ((j : Int) < (n : Int)) = true := decide_eq_true (by omega)
                obtain ⟨hown, hbw, hA⟩ := HR.out
                obtain ⟨a, x, ao', n', cp', rfl, hx, e0, hx0, e1, hx1⟩ : ∃ a x ao' n' cp', ao = some a ∧ l[j]? = some x ∧ wr.cell? (a.add (j * 2)) = some (.string x.1) ∧ x.1.size ≤ 140737488351232 ∧ wr.cell? ⟨(a.add (j * 2)).block, (a.add (j * 2)).off + 1, none⟩ = some (.slice ao' n' cp') ∧ BSrc wr (.slice ao' n' cp') x.2 := by
                  rcases (HSR.out.stay hbw) with ⟨h1, h2⟩ | ⟨a, c', h1, _, _, h3⟩
                  · have := HNL.out; rw [h2] at this; simp at this; omega
                  · injection h1 with h1 _ _
                    obtain ⟨x, hx⟩ : ∃ x, l[j]? = some x := ⟨_, List.getElem?_eq_getElem (by rw [← HNL.out]; exact hlt)⟩
                    obtain ⟨g1, g2, ao', n', cp', g3, g4⟩ := h3 j x hx
                    exact ⟨a, x, ao', n', cp', h1, hx, g1, g2, g3, g4⟩
                obtain ⟨id, s⟩ := x
                change _ = some (Value.string id) at e0
                change BSrc wr _ s at hx1
                have hns : n' = s.length := by
                  rcases hx1 with ⟨h1, h2⟩ | ⟨ad, cp, h1, _⟩
                  · injection h1 with _ h1 _; rw [h1]; show 0 = s.length; rw [show s = [] from h2]; rfl
                  · injection h1
                have hsm : s.length ≤ 140737488351232 := HSS.out _ (List.mem_of_getElem? hx)
                subst hns
                have HX := Lib.hid hx
                have HOWN := Lib.hid hown
                have HBW := Lib.hid hbw
                have HA := Lib.hid hA
                obtain ⟨m, hm⟩ : ∃ m, m = s.length := ⟨_, rfl⟩
                rw [← hm] at e1 hsm
                have HM := Lib.hid hm
                have hx2 : id.size ≤ 140737488351232 := hx0
                obtain ⟨z, hz⟩ : ∃ z, z = id.size := ⟨_, rfl⟩
                rw [← hz] at hx2
                have hzz := hz.symm
                have HWR : Hid (wrap64 ((z : Int) + (m : Int)) = (z : Int) + (m : Int)) := Lib.hid (by unfold wrap64; omega)
                obtain ⟨Wb, hWb⟩ : ∃ Wb, Wb = (wr.alloc (.cells #[.string id, .slice ao' m cp'] 50)) := ⟨_, rfl⟩
                have hsz1 : w.heap.size ≤ wr.heap.size := hbw.size
                have hf0 : Wb.cell? ⟨wr.heap.size, 0, none⟩ = some (.string id) := by rw [hWb, World.cell?, alloc_at]; rfl
                have HOWB0 := ownsRow_alloc hown (.cells #[.string id, .slice ao' m cp'] 50)
                rw [← hWb] at HOWB0
                have HOWB := Lib.hid HOWB0
                have HBWB : Hid (Below w.heap.size w Wb) := by rw [hWb]; exact Lib.hid (hbw.alloc hsz1 _)
                have HSB : Hid (Wb.heap.size = wr.heap.size + 1) := by rw [hWb, World.size_alloc]; exact Lib.hid rfl
                have HWE := Lib.hid hWb
                clear hx hown hbw hA hx0 hx1 hm hz hWb HOWB0
                go_upto_region 9 with (fail)
                rw [← HWE.out]
                have HNEW := Lib.hid (cell_one_new Wb (.string id) 9)
                have HCB : Hid (Wb.cell? ⟨wr.heap.size, 0, none⟩ = some (.string id) ∧ Wb.cell? ⟨wr.heap.size, 1, none⟩ = some (.slice ao' m cp')) := by
                  have hc := alloc_at wr (.cells #[.string id, .slice ao' m cp'] 50)
                  rw [← HWE.out] at hc
                  refine ⟨?_, ?_⟩ <;> simp [World.cell?, hc]
                have HNE : Hid (some wr.heap.size ≠ Value.ownBlock _) := Lib.hid (fun e => by have := HOWN.out.lt _ e.symm; omega)
                go_wp2_with (at_builtin; refine wpList_append_own_at _ rfl _ _ 26 rfl w.heap.size 9 i0 (.string ⟨#[]⟩) 1 16 Tryz.underlying26 hi hz0 hz1 hz2 rfl (by decide) _ _ _ rfl (ownsRow_alloc HOWB.out _) ⟨Wb.heap.size, 0, none⟩ 1 1 [.string id] rfl rfl HNEW.out (by intro q hq; rw [List.mem_singleton.1 hq]; rfl) (by unfold maxLen; omega) (by omega) (by rw [World.size_alloc]; have := HBWB.out.size; omega) ?_)
                intro v' w4 hown hgr _ _
                have HRN : Hid (w4.ownsRow w.heap.size 9 1 v' (j + 1) ((l.take (j + 1)).map fun x => .string x.1) ∧ Below w.heap.size w w4) := by
                  refine Lib.hid ⟨?_, grown_belowK (HBWB.out.alloc HBWB.out.size _) (ownsRow_alloc HOWB.out _) (by rw [World.size_alloc]; have := HBWB.out.size; omega) hgr⟩
                  rw [List.take_add_one, HX.out, List.map_append]
                  simpa using hown
                have f0 : w4.cell? ⟨wr.heap.size, 0, none⟩ = some (.string id) := hgr.cell (Lib.cell?_alloc_some _ HCB.out.1) HNE.out
                have f1 : w4.cell? ⟨wr.heap.size, 1, none⟩ = some (.slice ao' m cp') := hgr.cell (Lib.cell?_alloc_some _ HCB.out.2) HNE.out
                clear hown hgr hf0 e0 e1
                by_cases hbig : 300 < z + m
                · have d1 : decide ((300 : Int) < wrap64 ((z : Int) + (m : Int))) = true := decide_eq_true (by rw [HWR.out]; omega)
                  go_wp2_with (go_at_call 10; refine (HGO.out _ HRN.out.2).mono ?_; rintro e w' ⟨rfl, hb⟩)
                  go_ret
                  exact ⟨rfl, hb⟩
                · have d1 : decide ((300 : Int) < wrap64 ((z : Int) + (m : Int))) = false := decide_eq_false (by rw [HWR.out]; omega)
                  have HQ : Hid (HqH l w.heap.size w (j + 1) v' w4) := by
                    refine ⟨HRN.out.1, HRN.out.2, fun x hx => ?_⟩
                    rw [List.take_add_one, HX.out] at hx
                    rcases List.mem_append.1 hx with h | h
                    · exact HA.out x h
                    · have : x = (id, s) := by simpa using h
                      rw [this]
                      show s.length ≤ 300
                      rw [← HM.out]; omega
                  go_wp2_with (fail)
                  go_roundw
                  case rel => exact ⟨j + 1, by go_num, by omega, HQ⟩
                  case measure => simp [intOf]; omega
              · have j1 : decide ((j : Int) < (n : Int)) = false := decide_eq_false (by omega)
                obtain rfl : n = j := by omega
                obtain ⟨hown, hbw, hA⟩ := HR.out
                have htk : l.take n = l := List.take_of_length_le (by rw [HNL.out]; exact Nat.le_refl _)
                rw [htk] at hown hA
                obtain ⟨a, rfl⟩ : ∃ a, ao = some a := by
                  rcases HSR.out with ⟨h1, h2⟩ | ⟨a, c', h1, _⟩
                  · have := HNL.out; rw [h2] at this; have := HG.out.1; simp at *; omega
                  · injection h1 with h1 _ _; exact ⟨a, h1⟩
                obtain ⟨us, hus, -, hnc, hcm, hids, hcells⟩ := hsR_cells HSR.out
                have HCELLS : Hid (∀ W, Below w.heap.size w W → ∀ (i : Nat) (q : Value), (hsCells l us)[i]? = some q → W.cell? (a.add i) = some q) := fun W hb i q hq => (hb.cell (cell_lt (hcells i q hq))).trans (hcells i q hq)
                have HSUM : Hid (∀ W, Below w.heap.size w W → SumsR W us l) := fun W hb => ⟨hus.1, fun j x u h1 h2 => ⟨(hus.2 j x u h1 h2).1, (hus.2 j x u h1 h2).2.stay hb⟩⟩
                have HBW := Lib.hid hbw
                have HA := Lib.hid hA
                have HIDS := Lib.hid hids
                have HONE : Hid (∀ q ∈ hsCells l us, q.oneCell' = true) := Lib.hid (hsCells_one hus)
                have HNC : Hid (n ≤ c ∧ c ≤ maxLen) := Lib.hid ⟨hnc, hcm⟩
                obtain ⟨sa, sc, rfl⟩ := own_slice' hown
                obtain ⟨β, hβ, HDI0⟩ := distinct_own (ids := l.map (·.1)) (n := n) (by rw [List.length_map]; exact HNL.out.symm) (by rw [List.map_map]; exact hown) (by omega)
                have HDI := Lib.hid HDI0
                have HBE := Lib.hid hβ
                clear hown hbw hA hus hnc hcm hids hcells HDI0 hβ htk
                cases β with
                | false =>
                  go_wp2_with (first
                    | (go_at_call 13; refine HDI.out.mono ?_; rintro e w' ⟨rfl, rfl⟩)
                    | (go_at_call 10; refine (HGO.out _ HBW.out).mono ?_; rintro e w' ⟨rfl, hb⟩))
                  go_ret
                  exact ⟨rfl, hb⟩
                | true =>
                  have HND := Lib.hid (dis_nodup (HBE.out.1 rfl))
                  have hle : ∀ x ∈ l, x.2.length ≤ 1073741824 := fun x hx => Nat.le_trans (HA.out x hx) (by omega)
                  have HLE := Lib.hid hle
                  have HLL : Hid (l.length ≤ 1000) := by rw [← HNL.out]; exact Lib.hid (by omega)
                  have HIE : Hid (Calls Tryz.prog 19 #[.slice (some a) n c, .slice (some a) n c] wr fun e w' => e = .returned (.bool true) ∧ Below w.heap.size w w') := by
                    refine (implHashesEqual_any (HSR.out.stay HBW.out) (HSR.out.stay HBW.out) HLL.out HLL.out hle hle).mono ?_
                    rintro e w' ⟨β2, rfl, h2, hb⟩
                    have : β2 = true := h2.2 ((heq_sub HND.out HND.out (fun _ h => h)).1.2 (fun h => by
                      have h3 : l.length = 0 := by have := congrArg List.length h; simpa [toL] using this
                      have := HNL.out; have := HG.out.1; omega))
                    rw [this]
                    exact ⟨rfl, HBW.out.trans (hb.mono HBW.out.size)⟩
                  clear hle
                  go_upto_region 15 with (first
                    | (go_at_call 13; refine HDI.out.mono ?_; rintro e w' ⟨rfl, rfl⟩)
                    | (go_at_call 19; refine HIE.out.mono ?_; rintro e w5 ⟨rfl, hb5⟩
                       have HB5 := Lib.hid hb5
                       clear hb5))
                  have HNEW : Hid (∀ (i : Nat) (q : Value), (hsCells l us)[i]? = some q → (w5.alloc (.cells #[] 50)).cell? (a.add i) = some q) := fun i q hq => Lib.cell?_alloc_some _ (HCELLS.out w5 HB5.out i q hq)
                  have HLEN : Hid ((hsCells l us).length = n * 2) := by rw [hsCells_length l us (HSUM.out w5 HB5.out).1, HNL.out]; exact Lib.hid rfl
                  go_wp2_with (at_builtin; refine wpList_append_own_at _ rfl _ _ 47 rfl w5.heap.size 50 k0 (.agg #[.string ⟨#[]⟩, .slice none 0 0]) 2 40 Tryz.underlying47 ki kz0 kz1 kz2 rfl (by decide) _ _ _ rfl (World.ownsRow_made w5 #[] 0 (Nat.le_refl _) (Nat.zero_le _) rfl) a n c (hsCells l us) rfl HLEN.out HNEW.out HONE.out (by unfold maxLen; omega) (by omega) (by rw [World.size_alloc]; omega) ?_)
                  intro v' w6 hown hgr _ _
                  obtain ⟨g, cap, cur, rfl, hg0, hg1, hg2, hg3, hg4, hg5⟩ : ∃ g cap cur, v' = .slice (some ⟨g, 0, none⟩) n cap ∧ w5.heap.size ≤ g ∧ w6.heap[g]? = some (.cells cur 50 (0, 0)) ∧ n ≤ cap ∧ cap ≤ maxLen ∧ cur.size = cap * 2 ∧ cur.toList.take (n * 2) = hsCells l us := by
                    rcases hown.2 with ⟨_, h⟩ | h
                    · have := HG.out.1; omega
                    · exact h
                  have HB6 : Hid (Below w.heap.size w w6) := Lib.hid ((HB5.out.alloc HB5.out.size _).grown hgr (by rw [World.size_alloc]; have := HB5.out.size; omega) (fun k hk => by cases hk; exact HB5.out.size))
                  have HGC : Hid (w.heap.size ≤ g ∧ w6.heap[g]? = some (.cells cur 50 (0, 0)) ∧ n ≤ cap ∧ cap ≤ maxLen ∧ cur.size = cap * 2 ∧ cur.toList.take (n * 2) = hsCells l us) := Lib.hid (And.intro (Nat.le_trans HB5.out.size hg0) (And.intro hg1 (And.intro hg2 (And.intro hg3 (And.intro hg4 hg5)))))
                  have HO6 := Lib.hid hown
                  clear hown hgr hg0 hg1 hg2 hg3 hg4 hg5
                  have hwr : IntKind.i64.wrap ((at' : Int) + 1) = (at' : Int) + 1 := by rw [IntKind.wrap_i64]; have := HG.out.2; omega
                  have hp0 : (0 : Int) ≤ (at' : Int) + 1 := by omega
                  have hp1 : (at' : Int) + 1 ≤ (n : Int) := by have := HG.out.2; omega
                  have hp2 : ((at' : Int) + 1).toNat = at' + 1 := by omega
                  have hic : at' ≤ cap := by have := HG.out.2; have := HGC.out.2.2.1; omega
                  have hlt2 : at' < n := HG.out.2
                  by_cases hpar : x2 % 2 = 0
                  · have e5 : (x2 % 2 == 0) = true := beq_iff_eq.2 hpar
                    obtain ⟨A, hA, hnews⟩ : ∃ A : Addr, (if c = at' + 1 then some a else some (a.add ((at' + 1) * 2))) = some A ∧ Hid (∀ (j : Nat) (u : Value), ((hsCells l us).drop ((at' + 1) * 2))[j]? = some u → w6.drew.cell? (A.add j) = some u) := by
                      have hg := HCELLS.out w6 HB6.out
                      by_cases h : c = at' + 1
                      · refine ⟨a, by simp [h], fun j u hu => ?_⟩
                        rw [List.getElem?_drop] at hu
                        have := (List.getElem?_eq_some_iff.1 hu).1
                        rw [HLEN.out] at this
                        have := HNC.out.1
                        omega
                      · refine ⟨a.add ((at' + 1) * 2), by simp [h], fun j u hu => ?_⟩
                        rw [List.getElem?_drop] at hu
                        have h2 := hg _ u hu
                        rw [show (a.add ((at' + 1) * 2)).add j = a.add ((at' + 1) * 2 + j) from addr_add_add _ _ _]
                        exact h2
                    have s1 : Hid (((hsCells l us).drop ((at' + 1) * 2)).length = (n - (at' + 1)) * 2) := by rw [List.length_drop, HLEN.out]; exact Lib.hid (by omega)
                    have s2 : Hid (∀ u ∈ (hsCells l us).drop ((at' + 1) * 2), u.oneCell' = true) := fun u hu => HONE.out u (List.mem_of_mem_drop hu)
                    have hget : Hid (∀ i, i < cap * 2 → (w6.cell? ⟨g, 0 + i, none⟩).isSome = true ∧ w6.frozen? ⟨g, 0 + i, none⟩ = false) := by
                      intro i hi
                      obtain ⟨_, q1, _, _, q4, _⟩ := HGC.out
                      refine ⟨?_, ?_⟩
                      · simp [World.cell?, q1, q4, hi]
                      · simp [World.frozen?, q1]
                    have s3 : Hid (∀ j, j < ((hsCells l us).drop ((at' + 1) * 2)).length → (w6.drew.cell? ⟨g, 0 + at' * 2 + j, none⟩).isSome = true ∧ w6.drew.frozen? ⟨g, 0 + at' * 2 + j, none⟩ = false) := by
                      intro j hj
                      rw [s1.out] at hj
                      have := hget.out (at' * 2 + j) (by have := HGC.out.2.2.1; omega)
                      rw [Nat.add_assoc]
                      exact this
                    have hncap : n ≤ cap := HGC.out.2.2.1
                    obtain ⟨W7, hW7⟩ : ∃ W7, W7 = w6.drew.setCells g (0 + at' * 2) ((hsCells l us).drop ((at' + 1) * 2)) := ⟨_, rfl⟩
                    have HB7 : Hid (Below w.heap.size w W7) := by rw [hW7]; exact Lib.hid (below_setCells HGC.out.1 _ _ _ HB6.out.drew)
                    have HS7 : Hid (HsR W7 (.slice (some ⟨g, 0, none⟩) (at' + (n - (at' + 1))) cap) (l.eraseIdx at')) := by
                      obtain ⟨_, q1, q2, q3, q4, q5⟩ := HGC.out
                      rw [hW7]
                      exact hsR_erased q1 q2 q3 q4 q5 HNL.out HG.out.2 HLEN.out (by rw [← hW7]; exact HSUM.out W7 HB7.out) HIDS.out
                    have HW7 : Hid (W7 = w6.drew.setCells g (at' * 2) ((hsCells l us).drop ((at' + 1) * 2))) := by rw [hW7, Nat.zero_add]; exact Lib.hid rfl
                    clear hW7
                    have HLE2 : Hid (∀ x ∈ l.eraseIdx at', x.2.length ≤ 1073741824) := fun x hx => HLE.out x ((List.eraseIdx_sublist _ _).subset hx)
                    have HLL2 : Hid ((l.eraseIdx at').length ≤ 1000) := Nat.le_trans ((List.eraseIdx_sublist _ _).length_le) HLL.out
                    have HE := Lib.hid (heq_erased HNL.out HG.out.2 HND.out)
                    obtain ⟨bd, hbd⟩ : ∃ b, decide ((1 : Int) < (n : Int)) = b := ⟨_, rfl⟩
                    have HBD : Hid (bd = true ↔ 1 < n) := by rw [← hbd]; exact Lib.hid (by simp; omega)
                    have HC1 : Hid (Calls Tryz.prog 19 #[.slice (some a) n c, .slice (some ⟨g, 0, none⟩) (at' + (n - (at' + 1))) cap] W7 fun e w' => e = .returned (.bool bd) ∧ Below W7.heap.size W7 w') := by
                      refine (implHashesEqual_any (HSR.out.stay HB7.out) HS7.out HLL.out HLL2.out HLE.out HLE2.out).mono ?_
                      rintro e w' ⟨β2, rfl, h2, hb⟩
                      rw [Bool.eq_iff_iff.2 (h2.trans (HE.out.1.trans HBD.out.symm))]
                      exact ⟨rfl, hb⟩
                    have HC2 : Hid (∀ W, Below W7.heap.size W7 W → Calls Tryz.prog 19 #[.slice (some ⟨g, 0, none⟩) (at' + (n - (at' + 1))) cap, .slice (some a) n c] W fun e w' => e = .returned (.bool bd) ∧ Below W.heap.size W w') := by
                      intro W hb
                      refine (implHashesEqual_any (HS7.out.stay hb) (HSR.out.stay (HB7.out.trans (hb.mono HB7.out.size))) HLL2.out HLL.out HLE2.out HLE.out).mono ?_
                      rintro e w' ⟨β2, rfl, h2, hb⟩
                      rw [Bool.eq_iff_iff.2 (h2.trans (HE.out.2.trans HBD.out.symm))]
                      exact ⟨rfl, hb⟩
                    go_upto_region 17 with (fail)
                    go_region_law (refine step_append_room rfl (.tmp 77) (.tmp 81) 47 rfl 50 k0 2 Tryz.underlying47 ki kz1 g 0 at' cap (by simp [Act.eval, Act.put]) A (n - (at' + 1)) (c - (at' + 1)) ((hsCells l us).drop ((at' + 1) * 2)) (by simp [Act.eval, Act.put]) s1.out hnews.out s2.out (by omega) s3.out ?_)
                    all_goals rw [← HW7.out]
                    all_goals clear hwr hp0 hp1 hp2 hic hlt2 hpar e5 hA hnews hget s1 s2 s3 hncap
                    all_goals go_wp2_with (first
                      | (go_at_call 19; refine HC1.out.mono ?_; rintro e w8 ⟨rfl, hb8⟩
                         have HB8 := Lib.hid hb8
                         have HC3 := Lib.hid (HC2.out w8 hb8)
                         have HAW2 : Hid (Calls Tryz.prog 10 #[] w8 fun e w' => e = .returned (.bool true) ∧ Below w.heap.size w w') := HGO.out w8 (HB7.out.trans (hb8.mono HB7.out.size))
                         clear hb8 HC1 HC2)
                      | (go_at_call 19; refine HC3.out.mono ?_; rintro e w9 ⟨rfl, hb9⟩
                         have HAW3 : Hid (Calls Tryz.prog 10 #[] w9 fun e w' => e = .returned (.bool true) ∧ Below w.heap.size w w') := HGO.out w9 (HB7.out.trans ((HB8.out.trans (hb9.mono HB8.out.size)).mono HB7.out.size))
                         clear hb9)
                      | (go_at_call 10; refine HAW3.out.mono ?_; rintro e w' ⟨rfl, hb⟩))
                    all_goals (go_ret; exact ⟨rfl, hb⟩)
                  · have e5 : (x2 % 2 == 0) = false := beq_eq_false_iff_ne.2 hpar
                    obtain ⟨x, hx⟩ : ∃ x, l[at']? = some x := ⟨_, List.getElem?_eq_getElem (by rw [← HNL.out]; exact hlt2)⟩
                    obtain ⟨id, s⟩ := x
                    obtain ⟨u, e1, e2, e3⟩ := hsCells_get l us (HSUM.out w6 HB6.out).1 at' _ hx
                    obtain ⟨⟨ao', m', cp', rfl⟩, hbs⟩ := (HSUM.out w6 HB6.out).2 at' _ _ hx e1
                    have hc1 := HCELLS.out w6 HB6.out _ _ e3
                    rw [fieldU _ _ 1 (by omega)] at hc1
                    have HX := Lib.hid hx
                    have hsl : s.length ≤ 300 := HA.out _ (List.mem_of_getElem? hx)
                    change BSrc w6 _ s at hbs
                    have hgs : g < w6.heap.size := by
                      rcases Nat.lt_or_ge g w6.heap.size with h | h
                      · exact h
                      · have := HGC.out.2.1
                        rw [Array.getElem?_eq_none h] at this; cases this
                    have k1 : (w6.alloc (.cells #[] 5)).cell? ⟨(a.add (at' * 2)).block, (a.add (at' * 2)).off + 1, none⟩ = some (.slice ao' m' cp') := Lib.cell?_alloc_some _ hc1
                    have HC1 := Lib.hid hc1
                    clear e1 e2 e3 hc1 hx
                    rcases hbs with ⟨h1, h2⟩ | ⟨ad, cp2, h1, h2, h3⟩
                    · injection h1 with h1 h4 h5
                      subst h1 h4 h5
                      have h2' : s = [] := h2
                      subst h2'
                      have HNEW2 : Hid (∀ (i : Nat) (q : Value), [Value.int .u8 x2][i]? = some q → ((w6.alloc (.cells #[] 5)).alloc (.cells #[.int .u8 x2] 5)).cell? ((⟨w6.heap.size + 1, 0, none⟩ : Addr).add i) = some q) := by
                        have := cell_one_new (w6.alloc (.cells #[] 5)) (.int .u8 x2) 5
                        rw [World.size_alloc] at this
                        exact Lib.hid this
                      go_upto_region 19 with (fail)
                      go_wp2_with (at_builtin; refine wpList_append_own_at _ rfl _ _ 32 rfl w6.heap.size 5 j0 (.int .u8 0) 1 1 Tryz.underlying32 ji jz0 jz1 jz2 rfl (by decide) _ _ _ rfl (ownsRow_alloc (World.ownsRow_made w6 #[] 0 (Nat.le_refl _) (Nat.zero_le _) rfl) _) ⟨w6.heap.size + 1, 0, none⟩ 1 1 [.int .u8 x2] rfl rfl HNEW2.out (by intro q hq; rw [List.mem_singleton.1 hq]; rfl) (by decide) (by omega) (by rw [World.size_alloc, World.size_alloc]; omega) ?_)
                      intro v8 w8 hown8 hgr8 _ _
                      obtain ⟨g8, cap8, cur8, rfl, hg8⟩ : ∃ g8 cap8 cur8, v8 = .slice (some ⟨g8, 0, none⟩) 1 cap8 ∧ w6.heap.size ≤ g8 ∧ w8.heap[g8]? = some (.cells cur8 5 (0, 0)) := by
                        rcases hown8.2 with ⟨_, h⟩ | ⟨g8, cap8, cur8, h1, h2, h3, _⟩
                        · omega
                        · exact ⟨g8, cap8, cur8, h1, h2, h3⟩
                      have hb8 : Below w6.heap.size w6 w8 := (((Below.refl _ _).alloc (Nat.le_refl _) _).alloc (by rw [World.size_alloc]; omega) _).grown hgr8 (by rw [World.size_alloc, World.size_alloc]; omega) (fun k hk => by cases hk; exact Nat.le_refl _)
                      have hbs8 : BSrc w8 (.slice (some ⟨g8, 0, none⟩) 1 cap8) (([] : List UInt8) ++ [UInt8.ofNat x2.toNat]) := by
                        refine BSrc.of_row (B := w6.heap.size) ?_
                        rw [cells_snoc _ hx2, List.length_append]
                        exact hown8
                      have hg9 : w8.heap[g]? = _ := (hb8.block g hgs).trans HGC.out.2.1
                      obtain ⟨W9, hW9⟩ : ∃ W9, W9 = w8.setCell ⟨g, at' * 2 + 1, none⟩ (.slice (some ⟨g8, 0, none⟩) 1 cap8) := ⟨_, rfl⟩
                      have HB9 : Hid (Below w.heap.size w W9) := by
                        rw [hW9]
                        exact Lib.hid ((HB6.out.trans (hb8.mono HB6.out.size)).setCell HGC.out.1 _)
                      have HS9 : Hid (HsR W9 (.slice (some ⟨g, 0, none⟩) n cap) (l.set at' (id, ([] : List UInt8) ++ [UInt8.ofNat x2.toNat]))) := by
                        obtain ⟨_, q1, q2, q3, q4, q5⟩ := HGC.out
                        rw [hW9]
                        exact hsR_turned hg9 q2 q3 q4 q5 HNL.out HX.out (by rw [← hW9]; exact HSUM.out W9 HB9.out) (bsrc_setCell hbs8 (fun ad n c e => by cases e; show g8 ≠ g; omega)) HIDS.out
                      have HW9 := Lib.hid hW9
                      have hlt9 : at' * 2 + 1 < _ := (by have := HGC.out.2.2.1; have := HGC.out.2.2.2.2.1; omega : at' * 2 + 1 < cur.size)
                      have st1 : w8.cell? ⟨g, at' * 2 + 1, none⟩ = some cur[at' * 2 + 1] := by simp [World.cell?, hg9, hlt9]
                      have st2 : w8.frozen? ⟨g, at' * 2 + 1, none⟩ = false := by simp [World.frozen?, hg9]
                      have HTU : Hid (¬ HEqP (toL l) (toL (l.set at' (id, ([] : List UInt8) ++ [UInt8.ofNat x2.toNat]))) ∧ ¬ HEqP (toL (l.set at' (id, ([] : List UInt8) ++ [UInt8.ofNat x2.toNat]))) (toL l)) := by
                        rw [toL_set]
                        exact Lib.hid (heq_turned HND.out (by unfold toL; rw [List.getElem?_map, HX.out]; rfl) _)
                      have HLE2 : Hid (∀ x ∈ l.set at' (id, ([] : List UInt8) ++ [UInt8.ofNat x2.toNat]), x.2.length ≤ 1073741824) := fun x hx => by
                        rcases List.mem_or_eq_of_mem_set hx with h | h
                        · exact HLE.out x h
                        · rw [h]; exact Nat.le_trans (Nat.le_of_eq (show (([] : List UInt8) ++ [UInt8.ofNat x2.toNat]).length = (([] : List UInt8)).length + 1 from List.length_append)) (by first | decide | (have := HM.out; show s.length + 1 ≤ _; omega))
                      have HLL2 : Hid ((l.set at' (id, ([] : List UInt8) ++ [UInt8.ofNat x2.toNat])).length ≤ 1000) := by rw [List.length_set]; exact HLL
                      have HC2 : Hid (∀ W, Below W9.heap.size W9 W → Calls Tryz.prog 19 #[.slice (some ⟨g, 0, none⟩) n cap, .slice (some a) n c] W fun e w' => e = .returned (.bool false) ∧ Below W.heap.size W w') := by
                        intro W hb
                        refine (implHashesEqual_any (HS9.out.stay hb) (HSR.out.stay (HB9.out.trans (hb.mono HB9.out.size))) HLL2.out HLL.out HLE2.out HLE.out).mono ?_
                        rintro e w' ⟨β2, rfl, h2, hb⟩
                        rw [show β2 = false from by cases β2; rfl; exact absurd (h2.1 rfl) HTU.out.2]
                        exact ⟨rfl, hb⟩
                      have HC0 : Hid (Calls Tryz.prog 19 #[.slice (some a) n c, .slice (some ⟨g, 0, none⟩) n cap] W9 fun e w' => e = .returned (.bool false) ∧ Below W9.heap.size W9 w') := by
                        refine (implHashesEqual_any (HSR.out.stay HB9.out) HS9.out HLL.out HLL2.out HLE.out HLE2.out).mono ?_
                        rintro e w' ⟨β2, rfl, h2, hb⟩
                        rw [show β2 = false from by cases β2; rfl; exact absurd (h2.1 rfl) HTU.out.1]
                        exact ⟨rfl, hb⟩
                      clear hown8 hgr8 hg8 hbs8 hg9 hW9 hb8
                      go_upto_region 20 with (fail)
                      rw [← HW9.out]
                      clear st1 st2
                      go_wp2_with (first
                        | (go_at_call 19; refine HC0.out.mono ?_; rintro e wA ⟨rfl, hbA⟩
                           have HBA := Lib.hid hbA
                           have HC3 := Lib.hid (HC2.out wA hbA)
                           clear hbA HC0 HC2)
                        | (go_at_call 19; refine HC3.out.mono ?_; rintro e wB ⟨rfl, hbB⟩
                           have HAW3 : Hid (Calls Tryz.prog 10 #[] wB fun e w' => e = .returned (.bool true) ∧ Below w.heap.size w w') := HGO.out wB (HB9.out.trans ((HBA.out.trans (hbB.mono HBA.out.size)).mono HB9.out.size))
                           clear hbB)
                        | (go_at_call 10; refine HAW3.out.mono ?_; rintro e w' ⟨rfl, hb⟩))
                      go_ret
                      exact ⟨rfl, hb⟩
                    · injection h1 with h1 h4 h5
                      subst h1 h4 h5
                      have HNEW1 : Hid (∀ (i : Nat) (q : Value), (Lib.byteCells s)[i]? = some q → (w6.alloc (.cells #[] 5)).cell? (ad.add i) = some q) := by
                        intro i q hq
                        obtain ⟨x, hx, rfl⟩ := byteCells_get hq
                        exact Lib.cell?_alloc_some _ (h3 i x hx)
                      have HLN1 : Hid ((Lib.byteCells s).length = s.length * 1) := by rw [Nat.mul_one]; exact Lib.hid (byteCells_length s)
                      obtain ⟨m, hm⟩ : ∃ m, m = s.length := ⟨_, rfl⟩
                      rw [← hm] at k1 HC1 hsl HLN1
                      have HM := Lib.hid hm
                      clear h2 h3 hm
                      go_upto_region 19 with (fail)
                      try rw [← HM.out]
                      go_wp2_with (at_builtin; refine wpList_append_own_at _ rfl _ _ 32 rfl w6.heap.size 5 j0 (.int .u8 0) 1 1 Tryz.underlying32 ji jz0 jz1 jz2 rfl (by decide) _ _ _ rfl (World.ownsRow_made w6 #[] 0 (Nat.le_refl _) (Nat.zero_le _) rfl) _ m _ (Lib.byteCells s) rfl HLN1.out HNEW1.out (byteCells_one s) (by unfold maxLen; omega) (by omega) (by rw [World.size_alloc]; omega) ?_)
                      intro v7 w7 hown7 hgr7 _ _
                      have hb7 : Below w6.heap.size w6 w7 := ((Below.refl _ _).alloc (Nat.le_refl _) _).grown hgr7 (by rw [World.size_alloc]; omega) (fun k hk => by cases hk; exact Nat.le_refl _)
                      have HO7 := Lib.hid hown7
                      have HB7 := Lib.hid hb7
                      have hsz7 : w6.heap.size ≤ w7.heap.size := hb7.size
                      have HNEW2 := Lib.hid (cell_one_new w7 (.int .u8 x2) 5)
                      clear hown7 hgr7 hb7
                      go_wp2_with (at_builtin; refine wpList_append_own_at _ rfl _ _ 32 rfl w6.heap.size 5 j0 (.int .u8 0) 1 1 Tryz.underlying32 ji jz0 jz1 jz2 rfl (by decide) _ _ _ rfl (ownsRow_alloc HO7.out _) ⟨w7.heap.size, 0, none⟩ 1 1 [.int .u8 x2] rfl rfl HNEW2.out (by intro q hq; rw [List.mem_singleton.1 hq]; rfl) (by unfold maxLen; omega) (by omega) (by rw [World.size_alloc]; omega) ?_)
                      intro v8 w8 hown8 hgr8 _ _
                      obtain ⟨g8, cap8, cur8, rfl, hg8⟩ : ∃ g8 cap8 cur8, v8 = .slice (some ⟨g8, 0, none⟩) (m + 1) cap8 ∧ w6.heap.size ≤ g8 ∧ w8.heap[g8]? = some (.cells cur8 5 (0, 0)) := by
                        rcases hown8.2 with ⟨_, h⟩ | ⟨g8, cap8, cur8, h1, h2, h3, _⟩
                        · omega
                        · exact ⟨g8, cap8, cur8, h1, h2, h3⟩
                      have hb8 : Below w6.heap.size w6 w8 := (HB7.out.alloc hsz7 _).grown hgr8 (by rw [World.size_alloc]; omega) (fun k hk => (HO7.out.lt k hk).1)
                      have hbs8 : BSrc w8 (.slice (some ⟨g8, 0, none⟩) (m + 1) cap8) (s ++ [UInt8.ofNat x2.toNat]) := by
                        refine BSrc.of_row (B := w6.heap.size) ?_
                        rw [cells_snoc _ hx2, List.length_append, ← HM.out]
                        exact hown8
                      have hg9 : w8.heap[g]? = _ := (hb8.block g hgs).trans HGC.out.2.1
                      obtain ⟨W9, hW9⟩ : ∃ W9, W9 = w8.setCell ⟨g, at' * 2 + 1, none⟩ (.slice (some ⟨g8, 0, none⟩) (m + 1) cap8) := ⟨_, rfl⟩
                      have HB9 : Hid (Below w.heap.size w W9) := by
                        rw [hW9]
                        exact Lib.hid ((HB6.out.trans (hb8.mono HB6.out.size)).setCell HGC.out.1 _)
                      have HS9 : Hid (HsR W9 (.slice (some ⟨g, 0, none⟩) n cap) (l.set at' (id, s ++ [UInt8.ofNat x2.toNat]))) := by
                        obtain ⟨_, q1, q2, q3, q4, q5⟩ := HGC.out
                        rw [hW9]
                        exact hsR_turned hg9 q2 q3 q4 q5 HNL.out HX.out (by rw [← hW9]; exact HSUM.out W9 HB9.out) (bsrc_setCell hbs8 (fun ad n c e => by cases e; show g8 ≠ g; omega)) HIDS.out
                      have HW9 := Lib.hid hW9
                      have hlt9 : at' * 2 + 1 < _ := (by have := HGC.out.2.2.1; have := HGC.out.2.2.2.2.1; omega : at' * 2 + 1 < cur.size)
                      have st1 : w8.cell? ⟨g, at' * 2 + 1, none⟩ = some cur[at' * 2 + 1] := by simp [World.cell?, hg9, hlt9]
                      have st2 : w8.frozen? ⟨g, at' * 2 + 1, none⟩ = false := by simp [World.frozen?, hg9]
                      have HTU : Hid (¬ HEqP (toL l) (toL (l.set at' (id, s ++ [UInt8.ofNat x2.toNat]))) ∧ ¬ HEqP (toL (l.set at' (id, s ++ [UInt8.ofNat x2.toNat]))) (toL l)) := by
                        rw [toL_set]
                        exact Lib.hid (heq_turned HND.out (by unfold toL; rw [List.getElem?_map, HX.out]; rfl) _)
                      have HLE2 : Hid (∀ x ∈ l.set at' (id, s ++ [UInt8.ofNat x2.toNat]), x.2.length ≤ 1073741824) := fun x hx => by
                        rcases List.mem_or_eq_of_mem_set hx with h | h
                        · exact HLE.out x h
                        · rw [h]; exact Nat.le_trans (Nat.le_of_eq (show (s ++ [UInt8.ofNat x2.toNat]).length = (s).length + 1 from List.length_append)) (by first | decide | (have := HM.out; show s.length + 1 ≤ _; omega))
                      have HLL2 : Hid ((l.set at' (id, s ++ [UInt8.ofNat x2.toNat])).length ≤ 1000) := by rw [List.length_set]; exact HLL
                      have HC2 : Hid (∀ W, Below W9.heap.size W9 W → Calls Tryz.prog 19 #[.slice (some ⟨g, 0, none⟩) n cap, .slice (some a) n c] W fun e w' => e = .returned (.bool false) ∧ Below W.heap.size W w') := by
                        intro W hb
                        refine (implHashesEqual_any (HS9.out.stay hb) (HSR.out.stay (HB9.out.trans (hb.mono HB9.out.size))) HLL2.out HLL.out HLE2.out HLE.out).mono ?_
                        rintro e w' ⟨β2, rfl, h2, hb⟩
                        rw [show β2 = false from by cases β2; rfl; exact absurd (h2.1 rfl) HTU.out.2]
                        exact ⟨rfl, hb⟩
                      have HC0 : Hid (Calls Tryz.prog 19 #[.slice (some a) n c, .slice (some ⟨g, 0, none⟩) n cap] W9 fun e w' => e = .returned (.bool false) ∧ Below W9.heap.size W9 w') := by
                        refine (implHashesEqual_any (HSR.out.stay HB9.out) HS9.out HLL.out HLL2.out HLE.out HLE2.out).mono ?_
                        rintro e w' ⟨β2, rfl, h2, hb⟩
                        rw [show β2 = false from by cases β2; rfl; exact absurd (h2.1 rfl) HTU.out.1]
                        exact ⟨rfl, hb⟩
                      clear hown8 hgr8 hg8 hbs8 hg9 hW9 hb8
                      go_upto_region 20 with (fail)
                      rw [← HW9.out]
                      clear st1 st2
                      go_wp2_with (first
                        | (go_at_call 19; refine HC0.out.mono ?_; rintro e wA ⟨rfl, hbA⟩
                           have HBA := Lib.hid hbA
                           have HC3 := Lib.hid (HC2.out wA hbA)
                           clear hbA HC0 HC2)
                        | (go_at_call 19; refine HC3.out.mono ?_; rintro e wB ⟨rfl, hbB⟩
                           have HAW3 : Hid (Calls Tryz.prog 10 #[] wB fun e w' => e = .returned (.bool true) ∧ Below w.heap.size w w') := HGO.out wB (HB9.out.trans ((HBA.out.trans (hbB.mono HBA.out.size)).mono HB9.out.size))
                           clear hbB)
                        | (go_at_call 10; refine HAW3.out.mono ?_; rintro e w' ⟨rfl, hb⟩))
                      go_ret
                      exact ⟨rfl, hb⟩
end Go.Proofs.YthafpdceknleiaaGreatDoor
