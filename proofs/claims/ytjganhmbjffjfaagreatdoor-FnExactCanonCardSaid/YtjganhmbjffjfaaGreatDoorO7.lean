/- cjson.encodeCanonical at values that are refused. Printed by gen_O1.py. cjson.EncodeCanonical at values that are refused. impl.value at lists and objects with parts that are refused. Printed by gen_O3.py. impl.Canon at every tree that is refused. laws.short at texts of 400 bytes; laws.deepOf: at most 400 only at trees that are small. spec.jDigits, spec.JNumber: that they answer. spec.jHas, spec.jWhole, spec.jPlain. -/
import Derived.Test.YtjganhmbjffjfaaGreatDoorY8
import Derived.Test.YtjganhmbjffjfaaGreatDoorC9
import Derived.Shelf.Strconv.ParseIntPublic10
import Derived.Test.YtjganhmbjffjfaaGreatDoorT8
import Derived.Test.YtjganhmbjffjfaaGreatDoorZ0
import Derived.Test.YtjganhmbjffjfaaGreatDoorT5
import Derived.Deep.Cut
import Derived.Deep.DeepCutAuto
import Derived.Deep.CutBlock
import Derived.Test.YtjganhmbjffjfaaGreatDoorShelj
import Derived.Test.YtjganhmbjffjfaaGreatDoorV2
import Derived.Test.YtjganhmbjffjfaaGreatDoorZ7
open Go Go.RowKit Go.Maps
namespace Go.Proofs.YtjganhmbjffjfaaGreatDoor
/-- What a panic leaves. -/
def PanK (R b : Nat) (w : World) (e : Ending) (w' : World) : Prop := ∃ m : ByteArray, e = .panicked [{ v := .iface 9 (.string m), recovered := false }] ∧ FrR R b w w'
/-- A value that is refused. -/
def PanX (P : Nat → Prop) (w0 : World) (N : Nat) (x : Value) (t : List UInt8) : Prop := ∀ (R b : Nat) (l : List UInt8) (w : World), PX P w0 b w → PB R b l w → l.length + t.length ≤ 70368744177664 → TL N w → N ≤ R → N ≤ b → Calls Tryz.prog 64 #[x, .pointer (some ⟨b, 0, none⟩)] w (PanK R b w)
/-- strconv.ParseInt at texts that are no numerals of 64 bits. -/
theorem parseInt_no (s : ByteArray) (hs : s.size ≤ 4294967296) (h : ∀ v, Lib.parseIntB 64 s.data.toList ≠ .ok v) {N : Nat} {W : World} (hN : TL N W) : Calls Tryz.prog 94 #[.string s, .int .i64 10, .int .i64 64] W fun e w' => ∃ z T M, e = .returned (.tuple #[.int .i64 z, .iface T M]) ∧ Below W.heap.size W w' := by
  rcases hp : Lib.parseIntB 64 s.data.toList with v | _ | _
  · exact absurd hp (h v)
  · obtain ⟨ev, hc, hev⟩ := hN.errSyntax
    refine (Any.strconv_ParseInt_10_at64_syntax Tryz.laysC174 s (by omega) hp ev W hc hev).mono ?_
    rintro e w' ⟨M, he, _, _, hb⟩
    exact ⟨_, _, _, he, hb⟩
  · obtain ⟨ev, hc, hev⟩ := hN.errRange
    refine (Any.strconv_ParseInt_10_at64_range Tryz.laysC174 s (by omega) hp ev W hc hev).mono ?_
    rintro e w' ⟨M, he, _, _, hb⟩
    exact ⟨_, _, _, he, hb⟩
set_option maxRecDepth 100000 in
set_option maxHeartbeats 4000000 in
theorem panX_num {P : Nat → Prop} {w0 : World} {N : Nat} (s : ByteArray) (hs : s.size ≤ 4294967296) (h : ∀ v, Lib.parseIntB 64 s.data.toList ≠ .ok v) (t : List UInt8) : PanX P w0 N (.iface 128 (.string s)) t := by
  intro R b l w _ hS _ hN _ _
  have HPI := Lib.hid (parseInt_no s hs h hN)
  have HR := Lib.hid hS.R
  clear h hN hS
  have a1 := as_n_s
  have a2 := as_n_b
  have a3 := as_n_yes
  go_enter Tryz.func64, Tryz.ntmps64
  go_wp2_with (fail)
  refine HPI.out.mono ?_
  rintro e w1 ⟨z, T, M, rfl, hb⟩
  have HB : Hid (FrR R b w w1) := Lib.hid ((FrR.refl R b w).below HR.out hb)
  clear hb HPI
  go_wp2_with (fail)
  exact ⟨rfl, ⟨_, rfl, HB.out⟩⟩
theorem nodup_key {K : List (List UInt8 × Value × List UInt8 × Bool)} (hd : (K.map (·.1)).Nodup) {x y : List UInt8 × Value × List UInt8 × Bool} (hx : x ∈ K) (hy : y ∈ K) (h : x.1 = y.1) : x = y := by
  induction K with
  | nil => cases hx
  | cons q K ih =>
    rw [List.map_cons, List.nodup_cons] at hd
    rcases List.mem_cons.1 hx with h1 | h1
    · rcases List.mem_cons.1 hy with h2 | h2
      · rw [h1, h2]
      · exact absurd (show q.1 ∈ K.map (·.1) from List.mem_map.2 ⟨y, h2, by rw [← h, h1]⟩) hd.1
    · rcases List.mem_cons.1 hy with h2 | h2
      · exact absurd (show q.1 ∈ K.map (·.1) from List.mem_map.2 ⟨x, h1, by rw [h, h2]⟩) hd.1
      · exact ih hd.2 h1 h2
set_option maxRecDepth 100000 in
set_option maxHeartbeats 4000000 in
theorem panX_list {P : Nat → Prop} {w0 : World} {N g c : Nat} {L : List (Value × List UInt8 × Bool)} (hb : P g) (hlt : g < w0.heap.size) (hc : L.length ≤ c) (hm : c ≤ maxLen)
    (hcell : ∀ (j : Nat) (x : Value × List UInt8 × Bool), L[j]? = some x → w0.cell? ⟨g, j, none⟩ = some x.1) (ih : ∀ x ∈ L, x.2.2 = true → EncX P w0 x.1 x.2.1) (ihb : ∀ x ∈ L, x.2.2 = false → PanX P w0 N x.1 x.2.1) (hbad : ∃ x ∈ L, x.2.2 = false) :
    PanX P w0 N (.iface 129 (.slice (some ⟨g, 0, none⟩) L.length c)) (91 :: joinC (L.map (·.2.1)) ++ [93]) := by
  intro R b l w hpx hS hl hTLN hNR hNb
  have HTLN := Lib.hid (And.intro hTLN (And.intro hNR hNb))
  have HIHB := Lib.hid ihb
  have HBAD := Lib.hid hbad
  clear ihb hbad hTLN hNR hNb
  obtain ⟨T, hT⟩ : ∃ T, T = L.map (·.2.1) := ⟨_, rfl⟩
  have hTl : T.length = L.length := by rw [hT, List.length_map]
  have HT := Lib.hid hT
  have HTL := Lib.hid hTl
  rw [← hT] at hl
  have HIH := Lib.hid ih
  have HPX := Lib.hid hpx
  have HCELL := Lib.hid hcell
  have HG := Lib.hid (And.intro hb hlt)
  have HS := Lib.hid hS
  simp only [List.length_append, List.length_cons, List.length_nil] at hl
  have HL := Lib.hid hl
  unfold maxLen at hm
  clear hT hTl ih hpx hcell hb hlt hS
  have a1 := as_l_s
  have a2 := as_l_b
  have a3 := as_l_n
  have a4 := as_l_yes
  have HW0 := Lib.hid (writeString_pb ⟨#[91]⟩ HS.out (by simp only [ByteArray.size, List.size_toArray, List.length_cons, List.length_nil]; omega))
  go_enter Tryz.func64, Tryz.ntmps64
  go_wp2_with (go_at_call 92; (with_reducible refine HW0.out.mono ?_); rintro e w1 ⟨rfl, hf, hk, hp⟩; have HL1 : Hid (LX P w0 R b l [91] T w 0 w1) := (by refine Lib.hid ⟨hf, hk, ?_⟩; unfold listTo; rw [if_pos rfl, List.append_nil]; exact hp); clear hf hk hp)
  go_loopg [64] L.length (fun gk2 i wr => ∃ k : Nat, k + gk2 = L.length ∧ i = .int .i64 k ∧ Hid (LX P w0 R b l [91] T w k wr) ∧ Hid (∀ (j : Nat) (x : Value × List UInt8 × Bool), j < k → L[j]? = some x → x.2.2 = true))
  case atStart => exact ⟨0, by omega, rfl, HL1, Lib.hid fun j x hj => by omega⟩
  case round =>
    obtain ⟨k, hk, rfl, HR, HGD⟩ := hrel
    cases gk with
    | zero =>
      exfalso
      obtain ⟨x, hx, hxb⟩ := HBAD.out
      obtain ⟨j, hj⟩ := List.mem_iff_getElem?.1 hx
      have hlt := (List.getElem?_eq_some_iff.1 hj).1
      rw [HGD.out j x (by omega) hj] at hxb
      cases hxb
    | succ g2 =>
      have hlt : k < L.length := by omega
      have hk1 : k + 1 + g2 = L.length := by omega
      have HK1 := Lib.hid hk1
      have hki : (k : Int) < (L.length : Int) := by omega
      obtain ⟨y, hx⟩ : ∃ y, L[k]? = some y := ⟨_, List.getElem?_eq_getElem hlt⟩
      have hmem : y ∈ L := List.mem_of_getElem? hx
      obtain ⟨v, t, β⟩ := y
      have HPR := Lib.hid (HPX.out.keep HR.out.kp)
      have hcl : wr.cell? ⟨g, k, none⟩ = some v := (World.cell?_of_block (HPR.out g HG.out.1 HG.out.2).2.1).trans (HCELL.out k _ hx)
      have ht : T[k]? = some t := by rw [HT.out, List.getElem?_map, hx]; rfl
      have hle2 := listTo_le T (k + 1)
      have HST := Lib.hid (listTo_step T k t ht)
      have hle3 : (listTo T k).length + t.length ≤ (listTo T (k + 1)).length := by
        rw [HST.out, List.length_append, List.length_append]; omega
      cases β with
      | false =>
        have HTW : TL N wr := HTLN.out.1.mono (Nat.le_refl _) (HR.out.fr.toBelow HTLN.out.2.1 HTLN.out.2.2)
        have HCALL := Lib.hid (HIHB.out (v, t, false) hmem rfl R b (l ++ [91] ++ listTo T k) wr HPR.out HR.out.pb (by simp only [List.length_append, List.length_cons, List.length_nil]; omega) HTW HTLN.out.2.1 HTLN.out.2.2)
        unfold PanK at HCALL
        clear hk hk1 hx hmem ht HTW
        go_wp2_with (fail)
        (with_reducible refine HCALL.out.mono ?_)
        rintro e w2 ⟨m, rfl, hf⟩
        have HF := Lib.hid (HR.out.fr.trans hf)
        clear hf
        go_wp2_with (fail)
        exact ⟨rfl, ⟨_, rfl, HF.out⟩⟩
      | true =>
      have HGD1 : Hid (∀ (j : Nat) (x : Value × List UInt8 × Bool), j < k + 1 → L[j]? = some x → x.2.2 = true) := Lib.hid fun j x hj hxj => by
        rcases Nat.lt_or_ge j k with h | h
        · exact HGD.out j x h hxj
        · have : j = k := by omega
          subst this
          rw [hx] at hxj
          injection hxj with hxj
          rw [← hxj]
      have HCALL := Lib.hid (HIH.out (v, t, true) hmem rfl R b (l ++ [91] ++ listTo T k) wr HPR.out HR.out.pb (by simp only [List.length_append, List.length_cons, List.length_nil]; omega))
      unfold EncK at HCALL
      clear hk hk1 hx hmem ht
      by_cases hlast : k + 1 = L.length
      · have hn1 : ¬ ((k : Int) < (L.length : Int) - 1) := by omega
        rw [if_pos (by rw [HTL.out]; exact hlast), List.append_nil] at HST
        clear hlast
        go_wp2_with (go_at_call 64; (with_reducible refine HCALL.out.mono ?_); rintro e w2 ⟨rfl, hf, hk, hp⟩; have HL2 : Hid (LX P w0 R b l [91] T w (k + 1) w2) := (by refine Lib.hid ⟨HR.out.fr.trans hf, HR.out.kp.trans hk, ?_⟩; rw [HST.out, ← List.append_assoc]; exact hp); clear hf hk hp)
        go_roundg g2
        case measure => omega
        case rel => exact ⟨k + 1, HK1.out, by first | rfl | go_num, HL2, HGD1⟩
      · have hn1 : (k : Int) < (L.length : Int) - 1 := by omega
        rw [if_neg (by rw [HTL.out]; exact hlast)] at HST
        have hle4 : (listTo T k).length + t.length + 1 ≤ (listTo T (k + 1)).length := by rw [HST.out, List.length_append, List.length_append]; simp
        clear hlast
        go_wp2_with (first
          | (go_at_call 64; (with_reducible refine HCALL.out.mono ?_); rintro e w2 ⟨rfl, hf, hk, hp⟩
             have HF2 := Lib.hid (And.intro (HR.out.fr.trans hf) (HR.out.kp.trans hk))
             have HW := Lib.hid (writeString_pb ⟨#[44]⟩ hp (by simp only [ByteArray.size, List.size_toArray, List.length_append, List.length_cons, List.length_nil]; omega))
             clear hf hk hp)
          | (go_at_call 92; (with_reducible refine HW.out.mono ?_); rintro e w3 ⟨rfl, hf, hk, hp⟩
             have HL2 : Hid (LX P w0 R b l [91] T w (k + 1) w3) := (by refine Lib.hid ⟨HF2.out.1.trans hf, HF2.out.2.trans hk, ?_⟩; rw [HST.out]; simpa only [List.append_assoc] using hp)
             clear hf hk hp))
        go_roundg g2
        case measure => omega
        case rel => exact ⟨k + 1, HK1.out, by first | rfl | go_num, HL2, HGD1⟩
set_option maxRecDepth 100000 in
set_option maxHeartbeats 8000000 in
theorem panX_obj {P : Nat → Prop} {w0 : World} {N g : Nat} {K : List (List UInt8 × Value × List UInt8 × Bool)} (hb : P g) (hlt : g < w0.heap.size) (hm : MA w0 g (K.map fun x => (x.1, x.2.1))) (hd : (K.map (·.1)).Nodup) (hk : ∀ x ∈ K, x.1.length ≤ 4294967296) (hK : K.length ≤ 65536) (ih : ∀ x ∈ K, x.2.2.2 = true → EncX P w0 x.2.1 x.2.2.1) (ihb : ∀ x ∈ K, x.2.2.2 = false → PanX P w0 N x.2.1 x.2.2.1) (hbad : ∃ x ∈ K, x.2.2.2 = false) :
    PanX P w0 N (.iface 130 (.map (some g))) (123 :: joinC (itemsT (K.map fun x => (x.1, x.2.2.1))) ++ [125]) := by
  intro R b l w hpx hS hl hTLN hNR hNb
  have HTLN := Lib.hid (And.intro hTLN (And.intro hNR hNb))
  have HIHB := Lib.hid ihb
  have HBAD := Lib.hid hbad
  clear ihb hbad hTLN hNR hNb
  obtain ⟨T, hT⟩ : ∃ T, T = itemsT (K.map fun x => (x.1, x.2.2.1)) := ⟨_, rfl⟩
  obtain ⟨S, hSS⟩ : ∃ S, S = (K.map (·.1)).mergeSort leB := ⟨_, rfl⟩
  have hTS : T = S.map fun k => encStr k ++ 58 :: lookT (K.map fun x => (x.1, x.2.2.1)) k := by rw [hT, hSS, itemsT, List.map_map]; rfl
  have hTl : T.length = S.length := by rw [hTS, List.length_map]
  have hSl : S.length ≤ 65536 := by rw [hSS, List.length_mergeSort, List.length_map]; exact hK
  have HTS := Lib.hid hTS
  have HTL := Lib.hid hTl
  rw [← hT] at hl
  have HIH := Lib.hid ih
  have HKS := Lib.hid hk
  have HPX := Lib.hid hpx
  have HSK := Lib.hid hSS
  have HD := Lib.hid hd
  have HG := Lib.hid (And.intro hb hlt)
  have HS := Lib.hid hS
  obtain ⟨D, nn, hown, hnn, hhas, hat⟩ := hm
  have HOW : Hid (∀ W, PX P w0 b W → W.ownsMap Tryz.prog 9 RA g nn D) := Lib.hid fun W hp => ownsMapA_at hown (hp g hb hlt).2.1
  have HSZ : Hid (Maps.size D ≤ nn) := Lib.hid hown.size_le
  have HHAS := Lib.hid hhas
  have HAT := Lib.hid hat
  simp only [List.length_append, List.length_cons, List.length_nil] at hl
  have HL := Lib.hid hl
  clear hT hTl hTS hSS ih hk hpx hd hb hlt hS hown hhas hat hK
  have a1 := as_m_s
  have a2 := as_m_b
  have a3 := as_m_n
  have a4 := as_m_l
  have a5 := as_m_yes
  have HW0 := Lib.hid (writeString_pb ⟨#[123]⟩ HS.out (by simp only [ByteArray.size, List.size_toArray, List.length_cons, List.length_nil]; omega))
  go_enter Tryz.func64, Tryz.ntmps64
  go_upto_region 38 with (go_at_call 92; (with_reducible refine HW0.out.mono ?_); rintro e w1 ⟨rfl, hf, hk, hp⟩; have HL1 : Hid (LX P w0 R b l [123] T w 0 w1) := (by refine Lib.hid ⟨hf, hk, ?_⟩; unfold listTo; rw [if_pos rfl, List.append_nil]; exact hp); clear hf hk hp)
  have HPX1 := Lib.hid (HPX.out.keep HL1.out.kp)
  have HOW1 := Lib.hid (HOW.out w1 HPX1.out)
  clear a1 a2 a3 a4 a5
  go_wp2_with (at_range; refine wpList_range_own _ rfl _ 130 rfl 9 20 keyedS Tryz.underlying130 RA g nn D rfl HOW1.out ?_; intro w2 hrg0 hg0 hs0)
  have HK0 : Hid (KsR D w1 g nn (.slice none 0 0) w2) := Lib.hid ⟨_, _, [], OwnS.nil _ _, hrg0, Collected.start D, ⟨hg0.os, hg0.tape, hg0.output, hg0.size, fun k hk => hg0.block k hk (by simp)⟩, by omega, by have := HSZ.out; simp only [List.length_nil]; omega⟩
  clear hrg0 hg0 hs0
  go_frame
  go_loopw [16] (fun v wr => Hid (KsR D w1 g nn v wr)) (fun _ wr => wr.rangeLeft g w1.heap.size)
  case atStart => exact HK0
  case round =>
    obtain ⟨left, cnt, ss, hown, hrg, hC, hbw, hsz, hcn⟩ := hrel.out
    have HOWN := Lib.hid hown
    have HRG := Lib.hid hrg
    have HC := Lib.hid hC
    have HB := Lib.hid hbw
    clear hrel hown hrg hC hbw
    go_wp2_with (at_next; refine wpList_next_any _ rfl _ rfl g w1.heap.size nn D left cnt rfl HRG.out ?_ ?_)
    · intro hl0
      have HPM : Hid (ss.mergeSort leB = S) := Lib.hid (by rw [HSK.out]; exact mergeSort_of_perm (by have h := keys_perm (K := K.map fun x => (x.1, x.2.1, x.2.2.1)) HC.out hl0 (by rw [List.map_map]; exact HD.out) (by rw [List.map_map]; exact HHAS.out); rw [List.map_map] at h; exact h))
      clear hl0
      have hsl2 : ss.length ≤ 4294967296 := by omega
      have HSO := Lib.hid (sortS_any HOWN.out hsz hsl2)
      obtain ⟨ka, kc, rfl, -⟩ := HOWN.out.slice
      obtain ⟨q, hq⟩ : ∃ q, q = ss.length := ⟨_, rfl⟩
      have HQ : Hid (q = S.length) := Lib.hid (by rw [hq, ← HPM.out, List.length_mergeSort])
      have hq6 : q ≤ 65536 := by rw [HQ.out]; exact hSl
      rw [HPM.out, ← hq] at HSO
      rw [← hq]
      clear hq hcn HOWN
      go_upto_region 43 with (go_at_call 95; (with_reducible refine HSO.out.mono ?_); rintro e w4 ⟨rfl, ho4, hb4⟩)
      have HB4 : Hid (Below w1.heap.size w1 w4) := Lib.hid (HB.out.trans (hb4.mono (by omega)))
      have HKP4 := Lib.hid (Kp.below HL1.out.pb.lt HB4.out)
      have HL4 : Hid (LX P w0 R b l [123] T w 0 w4) := Lib.hid ⟨HL1.out.fr.below HL1.out.pb.R HB4.out, HL1.out.kp.trans HKP4.out, HL1.out.pb.below HB4.out⟩
      have HCS : Hid (∀ W, Kp b w4 W → ∀ (j : Nat) (a : List UInt8), S[j]? = some a → ∃ ad, ka = some ad ∧ W.cell? (ad.add j) = some (.string (bs a))) := Lib.hid (by
        intro W hkp j a hj
        obtain ⟨ka', kc', e, hc⟩ := ho4.slice
        injection e with e1 _ _
        subst e1
        obtain ⟨ad, rfl, hcell⟩ := hc j a hj
        refine ⟨ad, rfl, ?_⟩
        obtain ⟨hl1, hl2⟩ := World.ownsRow.lt ho4 ad.block rfl
        have hbl := HL1.out.pb.lt
        have hne := HL1.out.pb.rowlt ad.block (by omega)
        have hrow : bRow w4 b = bRow w1 b := by unfold bRow; rw [HB4.out.block b hbl]
        have h3 := (hkp.2 ad.block hl2 (by omega) (by rw [hrow]; exact hne)).1
        have hbk : (ad.add j).block = ad.block := by unfold Addr.add; split <;> rfl
        exact (World.cell?_of_block (by rw [hbk]; exact h3)).trans hcell)
      clear ho4 hb4 HSO hsl2 HRG HC HK0 HPM
      go_wp2_with (fail)
      go_loopg [104] q (fun g3 v wr => ∃ k : Nat, k + g3 = q ∧ v = .int .i64 k ∧ Hid (LX P w0 R b l [123] T w k wr) ∧ Hid (Kp b w4 wr) ∧ Hid (∀ (j : Nat) (x : List UInt8 × Value × List UInt8 × Bool), j < k → x ∈ K → S[j]? = some x.1 → x.2.2.2 = true))
      case atStart => exact ⟨0, by omega, rfl, HL4, Lib.hid (Kp.refl _ _), Lib.hid fun j x hj => by omega⟩
      case round =>
        obtain ⟨k, hk, rfl, HR, HKP, HGD⟩ := hrel
        cases gk with
        | zero =>
          exfalso
          obtain ⟨x, hx, hxb⟩ := HBAD.out
          have h1 : x.1 ∈ S := by
            rw [HSK.out]
            exact (List.mergeSort_perm _ _).mem_iff.2 (List.mem_map.2 ⟨x, hx, rfl⟩)
          obtain ⟨j, hj⟩ := List.mem_iff_getElem?.1 h1
          have hlt := (List.getElem?_eq_some_iff.1 hj).1
          rw [HGD.out j x (by have := HQ.out; omega) hx hj] at hxb
          cases hxb
        | succ g3 =>
          have hlt : k < q := by omega
          have hk1 : k + 1 + g3 = q := by omega
          have HK1 := Lib.hid hk1
          have hki : (k : Int) < (q : Int) := by omega
          obtain ⟨a, ha⟩ : ∃ a, S[k]? = some a := ⟨_, List.getElem?_eq_getElem (by rw [← HQ.out]; exact hlt)⟩
          obtain ⟨ad, rfl, c0⟩ := HCS.out wr HKP.out k a ha
          obtain ⟨x, hx, rfl⟩ : ∃ x ∈ K, x.1 = a := by
            have h1 : a ∈ K.map (·.1) := by
              have := List.mem_of_getElem? ha
              rw [HSK.out] at this
              exact (List.mergeSort_perm _ _).mem_iff.1 this
            obtain ⟨x, h2, h3⟩ := List.mem_map.1 h1
            exact ⟨x, h2, h3⟩
          have ht : T[k]? = some (encStr x.1 ++ 58 :: x.2.2.1) := by
            have h9 := lookT_mem (K := K.map fun x => (x.1, x.2.1, x.2.2.1)) (by rw [List.map_map]; exact HD.out) (x.1, x.2.1, x.2.2.1) (List.mem_map.2 ⟨x, hx, rfl⟩)
            rw [List.map_map] at h9
            rw [HTS.out, List.getElem?_map, ha]
            simp only [Option.map_some]
            exact congrArg (fun z => some (encStr x.1 ++ 58 :: z)) h9
          have hle2 := listTo_le T (k + 1)
          have HST := Lib.hid (listTo_step T k _ ht)
          have hle3 : (listTo T k).length + ((encStr x.1).length + (1 + x.2.2.1.length)) ≤ (listTo T (k + 1)).length := by
            rw [HST.out, List.length_append, List.length_append, List.length_append, List.length_cons]; omega
          have hkx := HKS.out x hx
          obtain ⟨sk, hsk⟩ : ∃ sk, sk = bs x.1 := ⟨_, rfl⟩
          have HSKD : Hid (sk.data.toList = x.1) := Lib.hid (by rw [hsk, bs_data])
          have hsks : sk.size ≤ 4294967296 := by rw [hsk, bs_size]; exact hkx
          have hskm : sk.size ≤ maxLen := by unfold maxLen; omega
          have HA1 := Lib.hid (encP_str sk hsks HR.out.pb (by rw [HSKD.out]; simp only [List.length_append, List.length_cons, List.length_nil]; omega))
          unfold EncK at HA1
          rw [HSKD.out] at HA1
          rw [← hsk] at c0
          obtain ⟨xv, hxv⟩ : ∃ xv, xv = x.2.1 := ⟨_, rfl⟩
          have HLA : Hid (∀ z, D.atKey (.string sk.data.toList) z = .held xv) := Lib.hid (by rw [HSKD.out, hxv]; exact HAT.out x.1 x.2.1 (List.mem_map.2 ⟨x, hx, rfl⟩))
          have hwl : (l ++ [123] ++ listTo T k ++ encStr x.1).length + 1 ≤ 140737488355328 := by simp only [List.length_append, List.length_cons, List.length_nil]; omega
          have HWL := Lib.hid hwl
          clear hwl
          by_cases hβ : x.2.2.2 = false
          · have HC2 : Hid (∀ W, PX P w0 b W → PB R b (l ++ [123] ++ listTo T k ++ encStr x.1 ++ [58]) W → FrR R b w W → Calls Tryz.prog 64 #[xv, .pointer (some ⟨b, 0, none⟩)] W (PanK R b W)) := Lib.hid fun W h1 h2 h3 => by
              rw [hxv]
              exact HIHB.out x hx hβ R b _ W h1 h2 (by simp only [List.length_append, List.length_cons, List.length_nil]; omega) (HTLN.out.1.mono (Nat.le_refl _) (h3.toBelow HTLN.out.2.1 HTLN.out.2.2)) HTLN.out.2.1 HTLN.out.2.2
            unfold PanK at HC2
            clear hk hk1 ha ht hx hsk hxv hle2 hle3 hkx hsks hβ
            go_wp2_with (first
              | (go_at_call 64; (with_reducible refine HA1.out.mono ?_); rintro e u1 ⟨rfl, hf, hk, hp⟩
                 have HF1 := Lib.hid (And.intro (HR.out.fr.trans hf) (And.intro (HR.out.kp.trans hk) (HKP.out.trans hk)))
                 have HW1 := Lib.hid (writeString_pb ⟨#[58]⟩ hp HWL.out)
                 clear hf hk hp HA1)
              | (go_at_call 92; (with_reducible refine HW1.out.mono ?_); rintro e u2 ⟨rfl, hf, hk, hp⟩
                 have HF2 := Lib.hid (And.intro (HF1.out.1.trans hf) (And.intro (HF1.out.2.1.trans hk) (HF1.out.2.2.trans hk)))
                 have HPU := Lib.hid (HPX.out.keep HF2.out.2.1)
                 have HOU := Lib.hid (HOW.out u2 HPU.out)
                 have HC3 := Lib.hid (HC2.out u2 HPU.out hp HF2.out.1)
                 clear hf hk hp HW1)
              | (at_lookup; refine wpList_lookup_any _ rfl _ _ rfl g nn D rfl HOU.out sk rfl hskm xv HLA.out ?_))
            (with_reducible refine HC3.out.mono ?_)
            rintro e u3 ⟨m, rfl, hf⟩
            have HF3 := Lib.hid (HF2.out.1.trans hf)
            clear hf
            go_wp2_with (fail)
            exact ⟨rfl, ⟨_, rfl, HF3.out⟩⟩
          have hβ : x.2.2.2 = true := by simpa using hβ
          have HGD1 : Hid (∀ (j : Nat) (y : List UInt8 × Value × List UInt8 × Bool), j < k + 1 → y ∈ K → S[j]? = some y.1 → y.2.2.2 = true) := Lib.hid fun j y hj hy hyj => by
            rcases Nat.lt_or_ge j k with h | h
            · exact HGD.out j y h hy hyj
            · have : j = k := by omega
              subst this
              rw [ha] at hyj
              injection hyj with hyj
              rw [← nodup_key HD.out hx hy hyj]
              exact hβ
          have HC2 : Hid (∀ W, PX P w0 b W → PB R b (l ++ [123] ++ listTo T k ++ encStr x.1 ++ [58]) W → Calls Tryz.prog 64 #[xv, .pointer (some ⟨b, 0, none⟩)] W (EncK R b (l ++ [123] ++ listTo T k ++ encStr x.1 ++ [58]) x.2.2.1 W)) := Lib.hid fun W h1 h2 => by
            rw [hxv]
            exact HIH.out x hx hβ R b _ W h1 h2 (by simp only [List.length_append, List.length_cons, List.length_nil]; omega)
          unfold EncK at HC2
          have hwm : (l ++ [123] ++ listTo T k ++ encStr x.1 ++ [58] ++ x.2.2.1).length + 1 ≤ 140737488355328 := by simp only [List.length_append, List.length_cons, List.length_nil]; omega
          have HWM := Lib.hid hwm
          clear hk hk1 ha ht hx hsk hxv hle2 hle3 hkx hwm hsks
          by_cases hlast : k + 1 = q
          · have hn1 : ¬ ((k : Int) < (q : Int) - 1) := by omega
            rw [if_pos (by rw [HTL.out, ← HQ.out]; exact hlast), List.append_nil] at HST
            clear hlast
            go_wp2_with (first
              | (go_at_call 64; (with_reducible refine HA1.out.mono ?_); rintro e u1 ⟨rfl, hf, hk, hp⟩
                 have HF1 := Lib.hid (And.intro (HR.out.fr.trans hf) (And.intro (HR.out.kp.trans hk) (HKP.out.trans hk)))
                 have HW1 := Lib.hid (writeString_pb ⟨#[58]⟩ hp HWL.out)
                 clear hf hk hp HA1)
              | (go_at_call 92; (with_reducible refine HW1.out.mono ?_); rintro e u2 ⟨rfl, hf, hk, hp⟩
                 have HF2 := Lib.hid (And.intro (HF1.out.1.trans hf) (And.intro (HF1.out.2.1.trans hk) (HF1.out.2.2.trans hk)))
                 have HPU := Lib.hid (HPX.out.keep HF2.out.2.1)
                 have HOU := Lib.hid (HOW.out u2 HPU.out)
                 have HC3 := Lib.hid (HC2.out u2 HPU.out hp)
                 clear hf hk hp HW1)
              | (at_lookup; refine wpList_lookup_any _ rfl _ _ rfl g nn D rfl HOU.out sk rfl hskm xv HLA.out ?_)
              | (go_at_call 64; (with_reducible refine HC3.out.mono ?_); rintro e u3 ⟨rfl, hf, hk, hp⟩
                 have HLL : Hid (LX P w0 R b l [123] T w (k + 1) u3) := (by refine Lib.hid ⟨HF2.out.1.trans hf, HF2.out.2.1.trans hk, ?_⟩; rw [HST.out]; simpa only [List.append_assoc, List.cons_append, List.nil_append] using hp)
                 have HKL := Lib.hid (HF2.out.2.2.trans hk)
                 clear hf hk hp))
            go_roundg g3
            case measure => omega
            case rel => exact ⟨k + 1, HK1.out, by first | rfl | go_num, HLL, HKL, HGD1⟩
          · have hn1 : (k : Int) < (q : Int) - 1 := by omega
            rw [if_neg (by rw [HTL.out, ← HQ.out]; exact hlast)] at HST
            clear hlast
            go_wp2_with (first
              | (go_at_call 64; (with_reducible refine HA1.out.mono ?_); rintro e u1 ⟨rfl, hf, hk, hp⟩
                 have HF1 := Lib.hid (And.intro (HR.out.fr.trans hf) (And.intro (HR.out.kp.trans hk) (HKP.out.trans hk)))
                 have HW1 := Lib.hid (writeString_pb ⟨#[58]⟩ hp HWL.out)
                 clear hf hk hp HA1)
              | (go_at_call 92; (with_reducible refine HW1.out.mono ?_); rintro e u2 ⟨rfl, hf, hk, hp⟩
                 have HF2 := Lib.hid (And.intro (HF1.out.1.trans hf) (And.intro (HF1.out.2.1.trans hk) (HF1.out.2.2.trans hk)))
                 have HPU := Lib.hid (HPX.out.keep HF2.out.2.1)
                 have HOU := Lib.hid (HOW.out u2 HPU.out)
                 have HC3 := Lib.hid (HC2.out u2 HPU.out hp)
                 clear hf hk hp HW1)
              | (at_lookup; refine wpList_lookup_any _ rfl _ _ rfl g nn D rfl HOU.out sk rfl hskm xv HLA.out ?_)
              | (go_at_call 64; (with_reducible refine HC3.out.mono ?_); rintro e u3 ⟨rfl, hf, hk, hp⟩
                 have HF3 := Lib.hid (And.intro (HF2.out.1.trans hf) (And.intro (HF2.out.2.1.trans hk) (HF2.out.2.2.trans hk)))
                 have HW3 := Lib.hid (writeString_pb ⟨#[44]⟩ hp HWM.out)
                 clear hf hk hp HC3)
              | (go_at_call 92; (with_reducible refine HW3.out.mono ?_); rintro e u4 ⟨rfl, hf, hk, hp⟩
                 have HLL : Hid (LX P w0 R b l [123] T w (k + 1) u4) := (by refine Lib.hid ⟨HF3.out.1.trans hf, HF3.out.2.1.trans hk, ?_⟩; rw [HST.out]; simpa only [List.append_assoc, List.cons_append, List.nil_append] using hp)
                 have HKL := Lib.hid (HF3.out.2.2.trans hk)
                 clear hf hk hp))
            go_roundg g3
            case measure => omega
            case rel => exact ⟨k + 1, HK1.out, by first | rfl | go_num, HLL, HKL, HGD1⟩
    · intro s v' w3 cnt2 hlk hat hrg2 hlt hszs hgr hen
      have hsl : ss.length + 1 ≤ 4294967300 := by omega
      have hl3 : w1.heap.size + 1 ≤ w3.heap.size := Nat.le_trans hsz hgr.size
      have HO3 : Hid (OwnS w3 (w1.heap.size + 1) _ ss) := Lib.hid (World.ownsRow.kept HOWN.out hgr (.inr (fun e => by have := (World.ownsRow.lt HOWN.out _ e).1; omega)))
      have HC3 := Lib.hid (HC.out.step hlk hat)
      have HB3 : Hid (Below w1.heap.size w1 w3) := Lib.hid (HB.out.grown hgr HB.out.size (fun k hk => by cases hk; exact Nat.le_refl _))
      have HRG3 := Lib.hid hrg2
      have HLT := Lib.hid hlt
      have HGL : Hid (g < w1.heap.size) := Lib.hid (HPX1.out g HG.out.1 HG.out.2).1
      have hcn2 : (ss ++ [s.data.toList]).length + cnt2 ≤ 4294967296 := by rw [List.length_append, List.length_singleton]; omega
      have HCN := Lib.hid hcn2
      clear hlk hat hrg2 hlt hszs hgr hcn hcn2
      go_wp2_with (at_builtin; refine wpList_appS1 rfl _ _ rfl (w1.heap.size + 1) w3 ss s s.data.toList (bs_of s).symm HO3.out hl3 hsl rfl rfl ?_)
      intro v4 w4 hown4 hb4
      have HR4 : Hid (KsR D w1 g nn v4 w4) := Lib.hid ⟨_, cnt2, _, hown4, rangesA_at HRG3.out (hb4.block g (by have := HGL.out; omega)) (hb4.block _ (by omega)), HC3.out, HB3.out.trans (hb4.mono (by omega)), Nat.le_trans hl3 hb4.size, HCN.out⟩
      have HM4 : Hid (w4.rangeLeft g w1.heap.size < wr.rangeLeft g w1.heap.size) := by
        have e1 : w4.rangeLeft g w1.heap.size = cnt2 := (rangesA_at HRG3.out (hb4.block g (by have := HGL.out; omega)) (hb4.block _ (by omega))).left_eq
        rw [e1, HRG.out.left_eq]; exact HLT
      clear hown4 hb4
      go_wp2_with (fail)
      go_roundw
      case rel => exact HR4
      case measure => exact HM4.out
/-- A value as it lies in memory; false: it is refused (its text then only bounds what is written). -/
inductive CE (P : Nat → Prop) (w : World) : Value → List UInt8 → Bool → Prop
  | good (x : Value) (t : List UInt8) (h : CX P w x t) : CE P w x t true
  | num (s : ByteArray) (hs : s.size ≤ 4294967296) (h : ∀ v, Lib.parseIntB 64 s.data.toList ≠ .ok v) : CE P w (.iface 128 (.string s)) [] false
  | list (g n c : Nat) (L : List (Value × List UInt8 × Bool)) (hb : P g) (hlt : g < w.heap.size) (hn : L.length = n) (hc : n ≤ c) (hm : c ≤ maxLen) (hv : ∀ x ∈ L, CE P w x.1 x.2.1 x.2.2) (hbad : ∃ x ∈ L, x.2.2 = false)
      (hcell : ∀ (j : Nat) (x : Value × List UInt8 × Bool), L[j]? = some x → w.cell? ⟨g, j, none⟩ = some x.1) :
      CE P w (.iface 129 (.slice (some ⟨g, 0, none⟩) n c)) (91 :: joinC (L.map (·.2.1)) ++ [93]) false
  | obj (g : Nat) (K : List (List UInt8 × Value × List UInt8 × Bool)) (hb : P g) (hlt : g < w.heap.size) (hm : MA w g (K.map fun x => (x.1, x.2.1))) (hd : (K.map (·.1)).Nodup) (hk : ∀ x ∈ K, x.1.length ≤ 4294967296) (hK : K.length ≤ 65536) (hv : ∀ x ∈ K, CE P w x.2.1 x.2.2.1 x.2.2.2) (hbad : ∃ x ∈ K, x.2.2.2 = false) :
      CE P w (.iface 130 (.map (some g))) (123 :: joinC (itemsT (K.map fun x => (x.1, x.2.2.1))) ++ [125]) false
theorem ce_any {P : Nat → Prop} {w0 : World} {N : Nat} {x : Value} {t : List UInt8} {β : Bool} (h : CE P w0 x t β) : (β = true → EncX P w0 x t) ∧ (β = false → PanX P w0 N x t) := by
  induction h with
  | good x t h => exact ⟨fun _ => encX_any h, fun h => by cases h⟩
  | num s hs h => exact ⟨(fun h => by cases h), fun _ => panX_num s hs h _⟩
  | list g n c L hb hlt hn hc hm hv hbad hcell ih =>
    subst hn
    exact ⟨(fun h => by cases h), fun _ => panX_list hb hlt hc hm hcell (fun x hx => (ih x hx).1) (fun x hx => (ih x hx).2) hbad⟩
  | obj g K hb hlt hm hd hk hK hv hbad ih => exact ⟨(fun h => by cases h), fun _ => panX_obj hb hlt hm hd hk hK (fun x hx => (ih x hx).1) (fun x hx => (ih x hx).2) hbad⟩
set_option maxRecDepth 100000 in
set_option maxHeartbeats 8000000 in
theorem encodeCanonical_no {P : Nat → Prop} {w : World} {N : Nat} {x : Value} {t : List UInt8} (h : CE P w x t false) (hl : t.length ≤ 4294967296) (hN : TL N w) :
    Calls Tryz.prog 35 #[x] w fun e w' => ∃ T M, e = .returned (.tuple #[.slice none 0 0, .iface T M]) ∧ Below w.heap.size w w' := by
  have hmf : ∀ (fn : Fn) (first cap : Array Value) (w : World), (Instr.makeFunc fn first cap).run Tryz.prog w = .ok (.func fn first cap) w := fun _ _ _ _ => rfl
  have HN := Lib.hid hN
  obtain ⟨W2, hW2⟩ : ∃ W2, W2 = (w.alloc (.cells #[.nilIface] 85)).alloc (.cells #[.pointer none, .slice none 0 0] 134) := ⟨_, rfl⟩
  have HB2 : Hid (Below w.heap.size w W2) := by
    show Below _ _ _
    rw [hW2]; exact ((Below.refl _ _).alloc (Nat.le_refl _) _).alloc (by rw [World.size_alloc]; omega) _
  have hs2 : W2.heap.size = w.heap.size + 2 := by rw [hW2, World.size_alloc, World.size_alloc]
  have hcb : W2.heap[w.heap.size + 1]? = some (.cells #[.pointer none, .slice none 0 0] 134 (0, 0)) := by
    have := alloc_at (w.alloc (.cells #[.nilIface] 85)) (.cells #[.pointer none, .slice none 0 0] 134)
    rw [World.size_alloc] at this
    rw [hW2]; exact this
  have hrw : ∀ i, bRow W2 (w.heap.size + 1) ≠ some i := fun i e => by unfold bRow at e; rw [hcb] at e; simp [Value.ownBlock] at e
  have hsb : PB (w.heap.size + 2) (w.heap.size + 1) [] W2 := PB.new hcb (by omega)
  have hpx : PX P w (w.heap.size + 1) W2 := fun i hi hi2 => ⟨by omega, HB2.out.block i hi2, by omega, hrw i⟩
  have HE2 : Hid (W2.heap[w.heap.size]? = some (.cells #[.nilIface] 85 (0, 0))) := by
    show _ = _
    rw [hW2, Below.heap_alloc _ _ _ (by rw [World.size_alloc]; omega)]
    exact alloc_at _ _
  have HEN := Lib.hid ((ce_any (N := N) h).2 rfl (w.heap.size + 2) (w.heap.size + 1) [] W2 hpx hsb (by simp only [List.length_nil]; omega) (HN.out.mono HN.out.le HB2.out) (by have := HN.out.le; omega) (by have := HN.out.le; omega))
  unfold PanK at HEN
  have HW2 := Lib.hid hW2
  clear h hN hW2 hcb hrw hsb hpx
  go_enter_defers Tryz.func35, Tryz.ntmps35
  go_wp2_with (fail)
  rw [← HW2.out]
  clear HW2
  refine HEN.out.mono ?_
  rintro e w3 ⟨m, rfl, hf⟩
  have HB3 : Hid (Below w.heap.size w w3) := HB2.out.trans (hf.toBelow (by omega) (by omega))
  have HE3 : w3.heap[w.heap.size]? = some (.cells #[.nilIface] 85 (0, 0)) := by rw [hf.block _ (by omega) (by omega)]; exact HE2.out
  have r0 : w3.cell? ⟨w.heap.size, 0, none⟩ = some .nilIface := by simp [World.cell?, HE3]
  have z0 : w3.frozen? ⟨w.heap.size, 0, none⟩ = false := by simp [World.frozen?, HE3]
  clear hf HE3
  go_wp2_with (fail)
  refine leaves_cons (f := 62) (args := #[.pointer (some ⟨w.heap.size, 0, none⟩)]) (by simp) (by simp [go_sem]) ?_
  refine (encD_panic _ m _ w3 r0 z0).mono ?_
  rintro e u' w9 ⟨rfl, rfl, T, M, rfl⟩
  have hbl : Below w3.heap.size w3 (w3.alloc (.cells #[.string m] 223)) := (Below.refl _ _).alloc (Nat.le_refl _) _
  have r1 : (w3.alloc (.cells #[.string m] 223)).cell? ⟨w.heap.size, 0, none⟩ = some .nilIface := (hbl.cell (cell_lt r0)).trans r0
  have hsz : w.heap.size ≤ (w3.alloc (.cells #[.string m] 223)).heap.size := by rw [World.size_alloc]; have := HB3.out.size; omega
  simp [Leaves, settle, results, Tryz.results35, go_sem, r1]
  exact (HB3.out.alloc HB3.out.size _).setCell (Nat.le_refl _) _
theorem CE.one {P : Nat → Prop} {w : World} {x : Value} {t : List UInt8} {β : Bool} (h : CE P w x t β) : x.oneCell' = true := by
  cases h
  case good h => exact h.one
  all_goals rfl
theorem CE.shape {P : Nat → Prop} {w : World} {x : Value} {t : List UInt8} {β : Bool} (h : CE P w x t β) : x = .nilIface ∨ ∃ T y, x = .iface T y := by
  cases h
  case good h => exact h.shape
  all_goals exact .inr ⟨_, _, rfl⟩
theorem CE.move {P P' : Nat → Prop} {w w' : World} (hs : w.heap.size ≤ w'.heap.size) (hP : ∀ i, P i → i < w.heap.size → w'.heap[i]? = w.heap[i]? ∧ P' i) {x : Value} {t : List UInt8} {β : Bool} (h : CE P w x t β) : CE P' w' x t β := by
  induction h with
  | good x t h => exact .good x t (h.move hs hP)
  | num s hs' h => exact .num s hs' h
  | list g n c L hg hlt hn hc hm hv hbad hcell ih =>
    exact .list g n c L (hP g hg hlt).2 (Nat.lt_of_lt_of_le hlt hs) hn hc hm ih hbad fun j x hj => (World.cell?_of_block (hP g hg hlt).1).trans (hcell j x hj)
  | obj g K hg hlt hm hd hk hK hv hbad ih => exact .obj g K (hP g hg hlt).2 (Nat.lt_of_lt_of_le hlt hs) (hm.at (hP g hg hlt).1) hd hk hK ih hbad
theorem CE.mono {P P' : Nat → Prop} {w : World} (hP : ∀ i, P i → i < w.heap.size → P' i) {x : Value} {t : List UInt8} {β : Bool} (h : CE P w x t β) : CE P' w x t β := h.move (Nat.le_refl _) fun i hi hl => ⟨rfl, hP i hi hl⟩
/-- What impl.value leaves; β: it is taken. -/
def ValE (u : List UInt8) (β : Bool) (w : World) (e : Ending) (w' : World) : Prop := ∃ (x : Value) (ok : Bool), e = .returned (.tuple #[x, .bool ok]) ∧ Below w.heap.size w w' ∧ (ok = false → β = false) ∧ (ok = true → CE (FromB w.heap.size) w' x u β)
/-- The head of value's loop over a list. -/
def VlE (L : List (List UInt8 × Bool)) (w : World) (k : Nat) (v : Value) (wr : World) : Prop :=
  ∃ (xs : List Value) (g cap : Nat), v = .slice (some ⟨g, 0, none⟩) k cap ∧ xs.length = k ∧ wr.ownsRow (w.heap.size + 1) 20 1 v k xs ∧ Below w.heap.size w wr ∧ w.heap.size + 1 ≤ wr.heap.size ∧ ∀ (j : Nat) (x : Value) (u : List UInt8 × Bool), xs[j]? = some x → L[j]? = some u → CE (RowP w.heap.size g) wr x u.1 u.2
theorem vle_step {L : List (List UInt8 × Bool)} {w : World} {k g cap : Nat} {v' x : Value} {u : List UInt8 × Bool} {wr w3 w4 : World} (hu : L[k]? = some u) (hb3 : Below wr.heap.size wr w3) (hx : CE (FromB wr.heap.size) w3 x u.1 u.2) (xs : List Value) (hxs : xs.length = k) (hbw : Below w.heap.size w wr) (hsz : w.heap.size + 1 ≤ wr.heap.size)
    (hold : ∀ (j : Nat) (x : Value) (u : List UInt8 × Bool), xs[j]? = some x → L[j]? = some u → CE (RowP w.heap.size g) wr x u.1 u.2) (ho : wr.ownsRow (w.heap.size + 1) 20 1 (.slice (some ⟨g, 0, none⟩) k cap) k xs)
    (hown : w4.ownsRow (w.heap.size + 1) 20 1 v' (k + 1) (xs ++ [x])) (hgr : (w3.alloc (.cells #[x] 20)).grownBy w4 (some g)) (hat : v'.ownBlock = some g ∨ v'.ownBlock = some (w3.heap.size + 1)) : VlE L w (k + 1) v' w4 := by
  obtain ⟨g', cap', rfl⟩ : ∃ g cap, v' = .slice (some ⟨g, 0, none⟩) (k + 1) cap := by
    rcases hown.2 with ⟨_, h0⟩ | ⟨g, cap, cur, e, _⟩
    · cases h0
    · exact ⟨g, cap, e⟩
  have hgl := World.ownsRow.lt ho g rfl
  have hg' : g' = g ∨ g' = w3.heap.size + 1 := by simpa [Value.ownBlock] using hat
  have hs3 := hb3.size
  have hs4 : w3.heap.size + 1 ≤ w4.heap.size := by have := hgr.size; rw [World.size_alloc] at this; exact this
  have hheap : ∀ i, i < w3.heap.size → i ≠ g → w4.heap[i]? = w3.heap[i]? := fun i hi hne => by
    rw [hgr.block i (by rw [World.size_alloc]; omega) (by intro e; exact hne (by injection e))]
    exact Below.heap_alloc _ _ _ hi
  have hbel : Below w.heap.size w w4 := by
    have h1 : Below w.heap.size w (w3.alloc (.cells #[x] 20)) := (hbw.trans (hb3.mono hbw.size)).alloc (by have := hbw.size; omega) _
    exact h1.grown hgr (by rw [World.size_alloc]; have := hbw.size; omega) (fun k hk => by injection hk with hk; omega)
  refine ⟨xs ++ [x], g', cap', rfl, by rw [List.length_append, hxs]; rfl, hown, hbel, by omega, fun j y t hy ht => ?_⟩
  rcases Nat.lt_or_ge j xs.length with hj | hj
  · rw [List.getElem?_append_left hj] at hy
    refine (hold j y t hy ht).move (by omega) fun i hi hl => ?_
    refine ⟨(hheap i (by omega) hi.2).trans (hb3.block i hl), hi.1, ?_⟩
    rcases hg' with h | h
    · rw [h]; exact hi.2
    · omega
  · rw [List.getElem?_append_right hj] at hy
    have hj0 : j = k := by
      have := (List.getElem?_eq_some_iff.1 hy).1
      simp at this
      omega
    subst hj0
    rw [hxs, Nat.sub_self] at hy
    cases hy
    rw [hu] at ht
    cases ht
    refine hx.move (by omega) fun i hi hl => ?_
    have hi' : wr.heap.size ≤ i := hi
    refine ⟨hheap i hl (by omega), by have := hbw.size; omega, ?_⟩
    rcases hg' with h | h <;> omega
set_option maxRecDepth 100000 in
set_option maxHeartbeats 8000000 in
theorem valueE_list {L : List (List UInt8 × Bool)} {l : List VT} {w : World} {lv : Value} (x : ByteArray) {k1 : Option Addr} {k2 k3 : Nat} (h : LR w lv l) (hl : L.length = l.length) (hn : L.length ≤ 65536)
    (ih : ∀ (j : Nat) (y : VT) (u : List UInt8 × Bool), l[j]? = some y → L[j]? = some u → ∀ W v, VR W v y → Calls Tryz.prog 34 #[v] W (ValE u.1 u.2 W)) (hbad : ∃ p ∈ L, p.2 = false) :
    Calls Tryz.prog 34 #[.agg #[.string ⟨#[108, 105, 115, 116]⟩, .string x, .slice k1 k2 k3, lv]] w (ValE (91 :: joinC (L.map (·.1)) ++ [93]) false w) := by
  have HBAD := Lib.hid hbad
  clear hbad
  obtain ⟨i0, hi, hz0, hz1, hz2⟩ := info_parts info_any
  obtain ⟨ao, c, rfl, hlen, hcell⟩ := lr_cells h
  obtain ⟨n, hnn⟩ : ∃ n, n = l.length := ⟨_, rfl⟩
  rw [← hnn] at hl hlen
  rw [← hnn]
  have hn6 : n ≤ 65536 := by omega
  have HNN := Lib.hid hnn
  have HL := Lib.hid hl
  have HC := Lib.hid hcell
  have HIH := Lib.hid ih
  obtain ⟨W1, hW1⟩ : ∃ W1, W1 = (w.alloc (.cells #[.string ⟨#[108, 105, 115, 116]⟩, .string x, .slice k1 k2 k3, .slice ao n c] 25)).alloc (.cells #[] 20) := ⟨_, rfl⟩
  have H0 : Hid (VlE L w 0 (.slice (some ⟨w.heap.size + 1, 0, none⟩) 0 0) W1) := by
    refine Lib.hid ⟨[], w.heap.size + 1, 0, rfl, rfl, ⟨rfl, .inr ⟨w.heap.size + 1, 0, #[], rfl, Nat.le_refl _, ?_, Nat.le_refl _, by decide, rfl, rfl⟩⟩, ?_, ?_, fun j y u hy => by cases hy⟩
    · have := alloc_at (w.alloc (.cells #[.string ⟨#[108, 105, 115, 116]⟩, .string x, .slice k1 k2 k3, .slice ao n c] 25)) (.cells #[] 20)
      rw [World.size_alloc] at this
      rw [hW1]; exact this
    · rw [hW1]; exact ((Below.refl _ _).alloc (Nat.le_refl _) _).alloc (by rw [World.size_alloc]; omega) _
    · rw [hW1, World.size_alloc, World.size_alloc]; omega
  have HW1 := Lib.hid hW1
  clear h hl hnn hcell ih hn hW1
  go_enter Tryz.func34, Tryz.ntmps34
  go_wp2_with (fail)
  rw [← HW1.out]
  go_loopg [4, 48] n (fun gk2 v i wr => ∃ k : Nat, k + gk2 = n ∧ i = .int .i64 k ∧ Hid (VlE L w k v wr))
  case atStart => exact ⟨0, by omega, rfl, H0⟩
  case round =>
    obtain ⟨k, hk, rfl, HR⟩ := hrel
    obtain ⟨xs, g, cap, rfl, hxl, hown, hbw, hsz, hold⟩ := HR.out
    have HOWN := Lib.hid hown
    have HB := Lib.hid hbw
    have HOLD := Lib.hid hold
    have HXL := Lib.hid hxl
    clear hown hbw hold hxl
    cases gk with
    | zero =>
      have hkn : ¬ (k : Int) < (n : Int) := by omega
      have HKN : Hid (k = n) := Lib.hid (by omega)
      clear hk
      go_wp2_with (fail)
      have HEND : Hid (ValE (91 :: joinC (L.map (·.1)) ++ [93]) false w (.returned (.tuple #[.iface 129 (.slice (some ⟨g, 0, none⟩) k cap), .bool true])) wr) := by
        have hlc : g < wr.heap.size := (World.ownsRow.lt HOWN.out g rfl).2
        have hgb : w.heap.size ≤ g := by have := (World.ownsRow.lt HOWN.out g rfl).1; omega
        have hcc : k ≤ cap ∧ cap ≤ maxLen := by
          rcases HOWN.out.2 with ⟨e, _⟩ | ⟨g', cap', cur, e, _, _, h1, h2, _⟩
          · cases e
          · simp only [Value.slice.injEq] at e; obtain ⟨_, _, rfl⟩ := e; exact ⟨h1, h2⟩
        have hzs : (xs.zip L).map (·.2) = L := by rw [List.map_snd_zip (by rw [HXL.out, HL.out, HKN.out]; exact Nat.le_refl _)]
        have hc := CE.list (P := FromB w.heap.size) (w := wr) g k cap (xs.zip L) hgb hlc (by rw [List.length_zip, HXL.out, HL.out, HKN.out]; exact Nat.min_self _) hcc.1 hcc.2 (fun y hy => by
          obtain ⟨j, hj⟩ := List.mem_iff_getElem?.1 hy
          rw [List.getElem?_zip_eq_some] at hj
          exact (HOLD.out j y.1 y.2 hj.1 hj.2).mono fun i hi _ => hi.1) (by
          obtain ⟨p, hp, hpb⟩ := HBAD.out
          obtain ⟨j, hj⟩ := List.mem_iff_getElem?.1 hp
          have hjl := (List.getElem?_eq_some_iff.1 hj).1
          exact ⟨(xs[j]'(by rw [HXL.out, HKN.out, ← HL.out]; exact hjl), p), List.mem_iff_getElem?.2 ⟨j, by rw [List.getElem?_zip_eq_some]; exact ⟨List.getElem?_eq_getElem _, hj⟩⟩, hpb⟩) (fun j y hy => by
          rw [List.getElem?_zip_eq_some] at hy
          have := HOWN.out.cells (g := g) rfl j _ hy.1
          rw [addrAdd, Nat.zero_add] at this
          exact this)
        have hzt : (xs.zip L).map (·.2.1) = L.map (·.1) := by rw [← congrArg (List.map (·.1)) hzs, List.map_map]; rfl
        rw [hzt] at hc
        exact Lib.hid ⟨_, _, rfl, HB.out, (fun h => by cases h), fun _ => hc⟩
      go_ret2
      exact HEND.out
    | succ g2 =>
      have hlt : k < n := by omega
      have hk1 : k + 1 + g2 = n := by omega
      have HK1 := Lib.hid hk1
      have hki : (k : Int) < (n : Int) := by omega
      obtain ⟨y, hy⟩ : ∃ y, l[k]? = some y := ⟨_, List.getElem?_eq_getElem (by rw [← HNN.out]; exact hlt)⟩
      obtain ⟨u, hu⟩ : ∃ u, L[k]? = some u := ⟨_, List.getElem?_eq_getElem (by rw [HL.out]; exact hlt)⟩
      obtain ⟨a, p1, p2, p3, q1, q2, q3, rfl, c0, c1, c2, c3, hvr⟩ := HC.out wr HB.out k y hy
      obtain ⟨yk, hyk⟩ : ∃ yk, yk = y.kind := ⟨_, rfl⟩
      obtain ⟨yt, hyt⟩ : ∃ yt, yt = y.text := ⟨_, rfl⟩
      rw [← hyk] at c0 hvr
      rw [← hyt] at c1 hvr
      obtain ⟨W2, hW2⟩ : ∃ W2, W2 = wr.alloc (.cells #[.string yk, .string yt, .slice p1 p2 p3, .slice q1 q2 q3] 25) := ⟨_, rfl⟩
      have HB2 : Hid (Below wr.heap.size wr W2) := by rw [hW2]; exact Lib.hid ((Below.refl _ _).alloc (Nat.le_refl _) _)
      have HV := Lib.hid (HIH.out k y u hy hu W2 _ (VR.stayB hvr HB2.out))
      unfold ValE at HV
      have HU := Lib.hid hu
      have HW2 := Lib.hid hW2
      clear hk hk1 hy hu hvr hyk hyt hW2
      go_upto_region 16 with (go_at_call 34; rw [← HW2.out]; (with_reducible refine HV.out.mono ?_); rintro e w3 ⟨xv, ok, rfl, hb, -, hx⟩)
      have hsz3 : wr.heap.size ≤ w3.heap.size := Nat.le_trans HB2.out.size hb.size
      have HB3 : Hid (Below wr.heap.size wr w3) := Lib.hid (HB2.out.trans (hb.mono HB2.out.size))
      cases ok with
      | false =>
        have HBE := Lib.hid (HB.out.trans (HB3.out.mono HB.out.size))
        clear hb hx
        go_wp2_with (fail)
        go_ret2
        exact ⟨_, _, rfl, HBE.out, (fun _ => rfl), fun h => by simp at h⟩
      | true =>
      have HX : Hid (CE (FromB wr.heap.size) w3 xv u.1 u.2) := Lib.hid ((hx rfl).mono fun i hi _ => Nat.le_trans HB2.out.size hi)
      have HO3 := Lib.hid (own_below HOWN.out HB3.out)
      have hone : xv.oneCell' = true := HX.out.one
      have HONE := Lib.hid hone
      clear hb hx hone
      rcases HX.out.shape with rfl | ⟨Tx, yx, rfl⟩
      all_goals
        go_wp2_with (at_builtin; refine wpList_append_own_at _ rfl _ _ 129 rfl (w.heap.size + 1) 20 i0 .nilIface 1 16 Tryz.underlying129 hi hz0 hz1 hz2 rfl (by decide) _ _ _ rfl (ownsRow_alloc HO3.out _) ⟨w3.heap.size, 0, none⟩ 1 1 [_] rfl rfl (cell_one_new w3 _ 20) (by intro q hq; rw [List.mem_singleton.1 hq]; rfl) (by unfold maxLen; omega) (by omega) (by rw [World.size_alloc]; omega) ?_)
        intro v4 w4 hown4 hgr4 _ hat4
        have HRN : Hid (VlE L w (k + 1) v4 w4) := Lib.hid (vle_step HU.out HB3.out HX.out xs HXL.out HB.out hsz HOLD.out HOWN.out hown4 hgr4 hat4)
        clear hown4 hgr4 hat4
        go_wp2_with (fail)
        go_roundg g2
        case measure => omega
        case rel => exact ⟨k + 1, HK1.out, by first | rfl | go_num, HRN⟩
/-- The head of value's loop over an object. -/
def VoE (ks : List (List UInt8)) (L : List (List UInt8 × Bool)) (w Wb : World) (g k : Nat) (wr : World) : Prop :=
  ∃ (D : DataW Value) (xs : List Value), wr.ownsMap Tryz.prog 9 RA g k D ∧ HoldsA D ((ks.take k).zip xs) ∧ xs.length = k ∧ Below Wb.heap.size Wb wr ∧ Wb.heap.size + 1 ≤ wr.heap.size ∧ ∀ (j : Nat) (x : Value) (u : List UInt8 × Bool), xs[j]? = some x → L[j]? = some u → CE (RowP w.heap.size g) wr x u.1 u.2
theorem voe_step {ks : List (List UInt8)} {L : List (List UInt8 × Bool)} {w Wb : World} {g k : Nat} {D : DataW Value} {xs : List Value} {x : Value} {key : List UInt8} {u : List UInt8 × Bool} {wr w3 w4 : World} (hd : ks.Nodup) (hkey : ks[k]? = some key) (hu : L[k]? = some u) (hg : g = Wb.heap.size) (hwb : w.heap.size ≤ Wb.heap.size) (hown : wr.ownsMap Tryz.prog 9 RA g k D) (hA : HoldsA D ((ks.take k).zip xs)) (hxl : xs.length = k) (hbw : Below Wb.heap.size Wb wr) (hsz : Wb.heap.size + 1 ≤ wr.heap.size)
    (hold : ∀ (j : Nat) (x : Value) (u : List UInt8 × Bool), xs[j]? = some x → L[j]? = some u → CE (RowP w.heap.size g) wr x u.1 u.2) (hb3 : Below wr.heap.size wr w3) (hx : CE (FromB wr.heap.size) w3 x u.1 u.2) (hown4 : w4.ownsMap Tryz.prog 9 RA g (k + 1) (D.put (.string key) (.held x))) (hgr : w3.grownBy w4 (some g)) : VoE ks L w Wb g (k + 1) w4 := by
  have hs3 := hb3.size
  have hs4 := hgr.size
  have hkl : k < ks.length := (List.getElem?_eq_some_iff.1 hkey).1
  have hheap : ∀ i, i < w3.heap.size → i ≠ g → w4.heap[i]? = w3.heap[i]? := fun i hi hne => hgr.block i hi (by intro e; exact hne (by injection e))
  have hzip : (ks.take (k + 1)).zip (xs ++ [x]) = (ks.take k).zip xs ++ [(key, x)] := by
    rw [List.take_add_one, hkey]
    exact List.zip_append (by rw [List.length_take, hxl]; omega)
  refine ⟨_, xs ++ [x], hown4, ?_, by rw [List.length_append, hxl]; rfl, (hbw.trans (hb3.mono (by omega))).grown hgr (by omega) (fun i hi => by injection hi with hi; omega), by omega, fun j y t hy ht => ?_⟩
  · rw [hzip]
    refine holdsA_put hA hown.isMap (fun v hv => ?_) x
    obtain ⟨j, hj⟩ := List.mem_iff_getElem?.1 (List.of_mem_zip hv).1
    rw [List.getElem?_take] at hj
    split at hj
    · rename_i hjk
      have := (List.getElem?_inj (List.getElem?_eq_some_iff.1 hj).1 hd).1 (hj.trans hkey.symm)
      omega
    · cases hj
  · rcases Nat.lt_or_ge j xs.length with hj | hj
    · rw [List.getElem?_append_left hj] at hy
      exact (hold j y t hy ht).move (by omega) fun i hi hl => ⟨(hheap i (by omega) hi.2).trans (hb3.block i hl), hi⟩
    · rw [List.getElem?_append_right hj] at hy
      have hj0 : j = k := by
        have := (List.getElem?_eq_some_iff.1 hy).1
        simp at this
        omega
      subst hj0
      rw [hxl, Nat.sub_self] at hy
      cases hy
      rw [hu] at ht
      cases ht
      refine hx.move (by omega) fun i hi hl => ?_
      have hi' : wr.heap.size ≤ i := hi
      exact ⟨hheap i hl (by omega), by omega, by omega⟩
theorem zip3e {A : List (List UInt8)} {xs : List Value} {L : List (List UInt8 × Bool)} (h1 : xs.length = A.length) (h2 : L.length = A.length) :
    (A.zip (xs.zip L)).map (·.1) = A ∧ (A.zip (xs.zip L)).map (fun x => (x.1, x.2.1)) = A.zip xs ∧ (A.zip (xs.zip L)).map (fun x => (x.1, x.2.2)) = A.zip L := by
  induction A generalizing xs L with
  | nil => exact ⟨rfl, rfl, rfl⟩
  | cons a A ih =>
    cases xs with
    | nil => cases h1
    | cons x xs =>
      cases L with
      | nil => cases h2
      | cons u L =>
        obtain ⟨i1, i2, i3⟩ := ih (xs := xs) (L := L) (by simpa using h1) (by simpa using h2)
        refine ⟨?_, ?_, ?_⟩ <;> simp only [List.zip_cons_cons, List.map_cons, i1, i2, i3]
/-- A whole object, read. -/
theorem voe_end {ks : List (List UInt8)} {L : List (List UInt8 × Bool)} {w Wb wr : World} {g k : Nat} (h : VoE ks L w Wb g k wr) (hk : ks.length = k) (hl : L.length = k) (hn : k ≤ 65536) (hg : g = Wb.heap.size) (hwb : Below w.heap.size w Wb) (hd : ks.Nodup) (hks : ∀ s ∈ ks, s.length ≤ 4294967296) (hbad : ∃ p ∈ L, p.2 = false) :
    CE (FromB w.heap.size) wr (.iface 130 (.map (some g))) (123 :: joinC (itemsT (ks.zip (L.map (·.1)))) ++ [125]) false ∧ Below w.heap.size w wr := by
  obtain ⟨D, xs, hown, hA, hxl, hbw, hsz, hold⟩ := h
  have hs0 := hwb.size
  rw [List.take_of_length_le (by omega)] at hA
  obtain ⟨z1, z2, z3⟩ := zip3e (A := ks) (xs := xs) (L := L) (by omega) (by omega)
  refine ⟨?_, hwb.trans (hbw.mono hs0)⟩
  have hc := CE.obj (P := FromB w.heap.size) (w := wr) g (ks.zip (xs.zip L)) (show w.heap.size ≤ g by omega) (by omega) (by rw [z2]; exact ⟨D, k, hown, by omega, hA.1, hA.2⟩) (by rw [z1]; exact hd)
    (fun x hx => hks _ (List.of_mem_zip hx).1) (by rw [List.length_zip, List.length_zip]; omega) (fun y hy => by
      obtain ⟨j, hj⟩ := List.mem_iff_getElem?.1 hy
      rw [List.getElem?_zip_eq_some, List.getElem?_zip_eq_some] at hj
      exact (hold j y.2.1 y.2.2 hj.2.1 hj.2.2).mono fun i hi _ => hi.1) (by
      obtain ⟨p, hp, hpb⟩ := hbad
      obtain ⟨j, hj⟩ := List.mem_iff_getElem?.1 hp
      have hjl := (List.getElem?_eq_some_iff.1 hj).1
      exact ⟨(ks[j]'(by omega), xs[j]'(by omega), p), List.mem_iff_getElem?.2 ⟨j, by rw [List.getElem?_zip_eq_some, List.getElem?_zip_eq_some]; exact ⟨List.getElem?_eq_getElem _, List.getElem?_eq_getElem _, hj⟩⟩, hpb⟩)
  have z4 : (ks.zip (xs.zip L)).map (fun x => (x.1, x.2.2.1)) = ks.zip (L.map (·.1)) := by
    have h1 := congrArg (List.map fun p : List UInt8 × List UInt8 × Bool => (p.1, p.2.1)) z3
    rw [List.map_map] at h1
    rw [show (fun x : List UInt8 × Value × List UInt8 × Bool => (x.1, x.2.2.1)) = ((fun p : List UInt8 × List UInt8 × Bool => (p.1, p.2.1)) ∘ fun x : List UInt8 × Value × List UInt8 × Bool => (x.1, x.2.2)) from rfl, h1, List.zip_map_right]
    rfl
  rw [z4] at hc
  exact hc
set_option maxRecDepth 100000 in
set_option maxHeartbeats 8000000 in
theorem valueE_obj {L : List (List UInt8 × Bool)} {l : List VT} {ks : List ByteArray} {w : World} {kv lv : Value} (x : ByteArray) (h : LR w lv l) (hkv : StrR w kv ks) (hl : L.length = l.length) (hn : L.length ≤ 65536) (hkl : ks.length = l.length) (hd : (ks.map (·.data.toList)).Nodup) (hks : ∀ s ∈ ks, s.size ≤ 4294967296)
    (ih : ∀ (j : Nat) (y : VT) (u : List UInt8 × Bool), l[j]? = some y → L[j]? = some u → ∀ W v, VR W v y → Calls Tryz.prog 34 #[v] W (ValE u.1 u.2 W)) (hbad : ∃ p ∈ L, p.2 = false) :
    Calls Tryz.prog 34 #[.agg #[.string ⟨#[111, 98, 106, 101, 99, 116]⟩, .string x, kv, lv]] w (ValE (123 :: joinC (itemsT ((ks.map (·.data.toList)).zip (L.map (·.1)))) ++ [125]) false w) := by
  have HBAD := Lib.hid hbad
  clear hbad
  have hmm := @run_makeMap Tryz.prog
  obtain ⟨ao, c, rfl, hlen, hcell⟩ := lr_cells h
  obtain ⟨ko, kc, rfl, hkcell⟩ := strR_cells hkv
  obtain ⟨n, hnn⟩ : ∃ n, n = l.length := ⟨_, rfl⟩
  rw [← hnn] at hl hlen hkl
  rw [← hnn, hkl]
  have hn6 : n ≤ 65536 := by omega
  have HNN := Lib.hid hnn
  have HL := Lib.hid hl
  have HC := Lib.hid hcell
  have HKC := Lib.hid hkcell
  have HKL := Lib.hid hkl
  have HD := Lib.hid hd
  have HKS := Lib.hid hks
  have HIH := Lib.hid ih
  obtain ⟨Wb, hWb⟩ : ∃ Wb, Wb = w.alloc (.cells #[.string ⟨#[111, 98, 106, 101, 99, 116]⟩, .string x, .slice ko n kc, .slice ao n c] 25) := ⟨_, rfl⟩
  have hsb : Wb.heap.size = w.heap.size + 1 := by rw [hWb, World.size_alloc]
  have HWB : Hid (Below w.heap.size w Wb) := by rw [hWb]; exact Lib.hid ((Below.refl _ _).alloc (Nat.le_refl _) _)
  have HCB : Hid (Wb.cell? ⟨w.heap.size, 2, none⟩ = some (.slice ko n kc)) := by
    have hc := alloc_at w (.cells #[.string ⟨#[111, 98, 106, 101, 99, 116]⟩, .string x, .slice ko n kc, .slice ao n c] 25)
    rw [← hWb] at hc
    refine Lib.hid ?_
    simp [World.cell?, hc]
  have H0 : Hid (VoE (ks.map (·.data.toList)) L w Wb (w.heap.size + 1) 0 (Wb.alloc (.map #[] 0))) := by
    refine Lib.hid ⟨.map [], [], ?_, ⟨fun k => ?_, fun k v hv => by cases hv⟩, rfl, (Below.refl _ _).alloc (Nat.le_refl _) _, by rw [World.size_alloc]; exact Nat.le_refl _, fun j y u hy => by cases hy⟩
    · rw [← hsb]; exact World.ownsMap_made Wb _ _ _
    · constructor
      · intro h0; cases h0
      · rintro ⟨v, hv⟩; cases hv
  have HSB := Lib.hid hsb
  have HWE := Lib.hid hWb
  clear h hkv hl hnn hcell hkcell hkl hd hks ih hn hWb hsb
  go_enter Tryz.func34, Tryz.ntmps34
  go_wp2_with (fail)
  rw [← HWE.out]
  go_loopg [79] n (fun gk2 i wr => ∃ k : Nat, k + gk2 = n ∧ i = .int .i64 k ∧ Hid (VoE (ks.map (·.data.toList)) L w Wb (w.heap.size + 1) k wr))
  case atStart => exact ⟨0, by omega, rfl, H0⟩
  case round =>
    obtain ⟨k, hk, rfl, HR⟩ := hrel
    cases gk with
    | zero =>
      have hkn : ¬ (k : Int) < (n : Int) := by omega
      have HKN : Hid (k = n) := Lib.hid (by omega)
      clear hk
      go_wp2_with (fail)
      have HEND : Hid (ValE (123 :: joinC (itemsT ((ks.map (·.data.toList)).zip (L.map (·.1)))) ++ [125]) false w (.returned (.tuple #[.iface 130 (.map (some (w.heap.size + 1))), .bool true])) wr) := by
        obtain ⟨e1, e2⟩ := voe_end HR.out (by rw [List.length_map, HKL.out, HKN.out]) (by rw [HL.out, HKN.out]) (by rw [HKN.out]; exact hn6) HSB.out.symm HWB.out HD.out (fun s hs => by
          obtain ⟨t, ht, rfl⟩ := List.mem_map.1 hs
          have := HKS.out t ht
          rw [Lib.size_eq] at this
          exact this) HBAD.out
        exact Lib.hid ⟨_, _, rfl, e2, (fun h => by cases h), fun _ => e1⟩
      go_ret2
      exact HEND.out
    | succ g2 =>
      obtain ⟨D, xs, hown, hA, hxl, hbw, hsz, hold⟩ := HR.out
      have HOWN := Lib.hid hown
      have HA := Lib.hid hA
      have HB := Lib.hid hbw
      have HOLD := Lib.hid hold
      have HXL := Lib.hid hxl
      clear hown hA hbw hold hxl
      have hlt : k < n := by omega
      have hk1 : k + 1 + g2 = n := by omega
      have HK1 := Lib.hid hk1
      have hki : (k : Int) < (n : Int) := by omega
      obtain ⟨y, hy⟩ : ∃ y, l[k]? = some y := ⟨_, List.getElem?_eq_getElem (by rw [← HNN.out]; exact hlt)⟩
      obtain ⟨u, hu⟩ : ∃ u, L[k]? = some u := ⟨_, List.getElem?_eq_getElem (by rw [HL.out]; exact hlt)⟩
      obtain ⟨key, hkey⟩ : ∃ key, ks[k]? = some key := ⟨_, List.getElem?_eq_getElem (by rw [HKL.out]; exact hlt)⟩
      have HBW : Hid (Below w.heap.size w wr) := Lib.hid (HWB.out.trans (HB.out.mono HWB.out.size))
      obtain ⟨a, p1, p2, p3, q1, q2, q3, rfl, c0, c1, c2, c3, hvr⟩ := HC.out wr HBW.out k y hy
      obtain ⟨yk, hyk⟩ : ∃ yk, yk = y.kind := ⟨_, rfl⟩
      obtain ⟨yt, hyt⟩ : ∃ yt, yt = y.text := ⟨_, rfl⟩
      rw [← hyk] at c0 hvr
      rw [← hyt] at c1 hvr
      obtain ⟨W2, hW2⟩ : ∃ W2, W2 = wr.alloc (.cells #[.string yk, .string yt, .slice p1 p2 p3, .slice q1 q2 q3] 25) := ⟨_, rfl⟩
      have HB2 : Hid (Below wr.heap.size wr W2) := by rw [hW2]; exact Lib.hid ((Below.refl _ _).alloc (Nat.le_refl _) _)
      have HV := Lib.hid (HIH.out k y u hy hu W2 _ (VR.stayB hvr HB2.out))
      unfold ValE at HV
      have HU := Lib.hid hu
      have HKEY := Lib.hid hkey
      have HW2 := Lib.hid hW2
      have hksz : key.size ≤ 4294967296 := HKS.out key (List.mem_of_getElem? hkey)
      have HLIT := Lib.hid (WideMaps.keyOf_string_mk Tryz.underlying9 (s := key) (Nat.le_trans hksz (by unfold maxLen; omega)))
      clear hk hk1 hy hu hkey hvr hyk hyt hW2
      go_upto_region 29 with (go_at_call 34; rw [← HW2.out]; (with_reducible refine HV.out.mono ?_); rintro e w3 ⟨xv, ok, rfl, hb, -, hx⟩)
      have HB3 : Hid (Below wr.heap.size wr w3) := Lib.hid (HB2.out.trans (hb.mono HB2.out.size))
      cases ok with
      | false =>
        have HBE := Lib.hid (HBW.out.trans (HB3.out.mono HBW.out.size))
        clear hb hx
        go_wp2_with (fail)
        go_ret2
        exact ⟨_, _, rfl, HBE.out, (fun _ => rfl), fun h => by simp at h⟩
      | true =>
      have HX : Hid (CE (FromB wr.heap.size) w3 xv u.1 u.2) := Lib.hid ((hx rfl).mono fun i hi _ => Nat.le_trans HB2.out.size hi)
      have HBW3 : Hid (Below w.heap.size w w3) := Lib.hid (HBW.out.trans (HB3.out.mono HBW.out.size))
      have hgl : w.heap.size + 1 < wr.heap.size := by have := HSB.out; omega
      have HOWN3 : Hid (w3.ownsMap Tryz.prog 9 RA (w.heap.size + 1) k D) := Lib.hid (ownsMapA_at HOWN.out (HB3.out.block _ hgl))
      obtain ⟨ka, rfl, hkc⟩ := HKC.out w3 HBW3.out k key HKEY.out
      have hcb : w3.cell? ⟨w.heap.size, 2, none⟩ = some (.slice (some ka) n kc) := by
        refine (HB3.out.cell (p := ⟨w.heap.size, 2, none⟩) (by show w.heap.size < _; omega)).trans ((HB.out.cell (p := ⟨w.heap.size, 2, none⟩) (by show w.heap.size < _; have := HSB.out; omega)).trans HCB.out)
      have hone : xv.oneCell' = true := HX.out.one
      have HRA : Hid (RA xv = some (.held xv, [])) := by
        rcases HX.out.shape with rfl | ⟨Tx, yx, rfl⟩ <;> exact Lib.hid rfl
      clear hb hx c0 c1 c2 c3
      go_wp2_with (at_mapUpdate; refine wpList_mapUpdate_own _ rfl _ _ _ 130 rfl 9 20 keyedS Tryz.underlying130 RA (w.heap.size + 1) k _ rfl HOWN3.out (by unfold maxLen; omega) _ _ _ rfl rfl HLIT.out (.held xv) [] HRA.out ?_)
      intro w4 hown4 hgr4
      have HRN : Hid (VoE (ks.map (·.data.toList)) L w Wb (w.heap.size + 1) (k + 1) w4) := Lib.hid (voe_step (key := key.data.toList) HD.out (by rw [List.getElem?_map, HKEY.out]; rfl) HU.out HSB.out.symm HWB.out.size HOWN.out HA.out HXL.out HB.out hsz HOLD.out HB3.out HX.out hown4 hgr4)
      clear hown4 hgr4
      go_wp2_with (fail)
      go_roundg g2
      case measure => omega
      case rel => exact ⟨k + 1, HK1.out, by first | rfl | go_num, HRN⟩
/-- A tree with its canonical text; false: it is refused (the text then only bounds what is written). -/
inductive KT : VT → List UInt8 → Bool → Prop
  | good (t : VT) (u : List UInt8) (h : CanT t u) : KT t u true
  | kind (t : VT) (h : amB t.kind kinds6 = false) : KT t [] false
  | parts (t : VT) (hk : t.kind = ⟨#[111, 98, 106, 101, 99, 116]⟩) (hne : t.keys.length ≠ t.list.length) : KT t [] false
  | num (t : VT) (hk : t.kind = ⟨#[110, 117, 109, 98, 101, 114]⟩) (hs : t.text.size ≤ 4294967296) (h : ∀ v, Lib.parseIntB 64 t.text.data.toList ≠ .ok v) : KT t [] false
  | list (t : VT) (L : List (List UInt8 × Bool)) (hk : t.kind = ⟨#[108, 105, 115, 116]⟩) (hl : L.length = t.list.length) (hn : L.length ≤ 65536) (hv : ∀ (j : Nat) (x : VT) (p : List UInt8 × Bool), t.list[j]? = some x → L[j]? = some p → KT x p.1 p.2) (hbad : ∃ p ∈ L, p.2 = false) : KT t (91 :: joinC (L.map (·.1)) ++ [93]) false
  | obj (t : VT) (L : List (List UInt8 × Bool)) (hk : t.kind = ⟨#[111, 98, 106, 101, 99, 116]⟩) (hl : L.length = t.list.length) (hn : L.length ≤ 65536) (hkl : t.keys.length = t.list.length) (hd : (t.keys.map (·.data.toList)).Nodup) (hks : ∀ s ∈ t.keys, s.size ≤ 4294967296) (hv : ∀ (j : Nat) (x : VT) (p : List UInt8 × Bool), t.list[j]? = some x → L[j]? = some p → KT x p.1 p.2) (hbad : ∃ p ∈ L, p.2 = false) :
      KT t (123 :: joinC (itemsT ((t.keys.map (·.data.toList)).zip (L.map (·.1)))) ++ [125]) false
set_option maxRecDepth 100000 in
set_option maxHeartbeats 4000000 in
theorem valueE_num (x : ByteArray) (hx : x.size ≤ 4294967296) (h : ∀ v, Lib.parseIntB 64 x.data.toList ≠ .ok v) (kv lv : Value) (w : World) : Calls Tryz.prog 34 #[.agg #[.string ⟨#[110, 117, 109, 98, 101, 114]⟩, .string x, kv, lv]] w (ValE [] false w) := by
  have HX := Lib.hid (And.intro hx h)
  clear hx h
  go_enter Tryz.func34, Tryz.ntmps34
  go_wp2_with (fail)
  go_ret2
  exact ⟨_, _, rfl, (Below.refl _ _).alloc (Nat.le_refl _) _, (fun h => by simp at h), fun _ => .num x HX.out.1 HX.out.2⟩
theorem value_k {t : VT} {u : List UInt8} {β : Bool} (h : KT t u β) : ∀ (W : World) (v : Value), VR W v t → Calls Tryz.prog 34 #[v] W (ValE u β W) := by
  induction h with
  | good t u h =>
    intro W v hv
    refine (value_x h W v hv).mono ?_
    rintro e w' ⟨x, rfl, hx, hb⟩
    exact ⟨x, true, rfl, hb, (fun h => by cases h), fun _ => .good x u hx⟩
  | kind t h =>
    intro W v hv
    obtain ⟨kv, lv, rfl, _, _, h3, h4⟩ := hv.ex
    obtain ⟨k1, k2, k3, rfl⟩ := strR_sl h3
    obtain ⟨l1, l2, l3, rfl⟩ := lr_sl h4
    refine (value_unknown h).mono ?_
    rintro e w' ⟨rfl, hb⟩
    exact ⟨_, _, rfl, hb, (fun _ => rfl), fun h => by cases h⟩
  | parts t hk hne =>
    intro W v hv
    obtain ⟨kv, lv, rfl, _, _, h3, h4⟩ := hv.ex
    obtain ⟨ko, kp, hk0, _⟩ := strR_slice h3
    obtain ⟨lo, lp, hl0, _⟩ := lr_slice h4
    subst hk0 hl0
    refine (value_parts (by rw [hk, ByteArray.toList_eq]) hne).mono ?_
    rintro e w' ⟨rfl, hb⟩
    exact ⟨_, _, rfl, hb, (fun _ => rfl), fun h => by cases h⟩
  | num t hk hs h =>
    intro W v hv
    obtain ⟨kv, lv, rfl, _, _, _, _⟩ := hv.ex
    rw [hk]
    exact valueE_num _ hs h _ _ _
  | list t L hk hl hn hv hbad ih =>
    intro W v hv'
    obtain ⟨kv, lv, rfl, _, _, h3, h4⟩ := hv'.ex
    obtain ⟨k1, k2, k3, rfl⟩ := strR_sl h3
    rw [hk]
    exact valueE_list _ h4 hl hn (fun j y u hy hu => ih j y u hy hu) hbad
  | obj t L hk hl hn hkl hd hks hv hbad ih =>
    intro W v hv'
    obtain ⟨kv, lv, rfl, _, _, h3, h4⟩ := hv'.ex
    rw [hk]
    exact valueE_obj _ h4 h3 hl hn hkl hd hks (fun j y u hy hu => ih j y u hy hu) hbad
set_option maxRecDepth 100000 in
set_option maxHeartbeats 8000000 in
theorem canon_no {t : VT} {u : List UInt8} (h : KT t u false) (hu : u.length ≤ 4294967296) {w : World} {v : Value} {N : Nat} (hv : VR w v t) (hN : TL N w) :
    Calls Tryz.prog 14 #[v] w fun e w' => e = .returned (.tuple #[.slice none 0 0, .bool false]) ∧ Below w.heap.size w w' := by
  obtain ⟨kv, lv, rfl, _, _, h3, h4⟩ := hv.ex
  obtain ⟨k1, k2, k3, rfl⟩ := strR_sl h3
  obtain ⟨l1, l2, l3, rfl⟩ := lr_sl h4
  obtain ⟨tk, htk⟩ : ∃ tk, tk = t.kind := ⟨_, rfl⟩
  obtain ⟨tt, htt⟩ : ∃ tt, tt = t.text := ⟨_, rfl⟩
  rw [← htk, ← htt] at hv ⊢
  obtain ⟨W, hW⟩ : ∃ W, W = w.alloc (.cells #[.string tk, .string tt, .slice k1 k2 k3, .slice l1 l2 l3] 25) := ⟨_, rfl⟩
  have HB : Hid (Below w.heap.size w W) := by show Below _ _ _; rw [hW]; exact (Below.refl _ _).alloc (Nat.le_refl _) _
  have HV := Lib.hid (value_k h W _ (hv.stayB HB.out))
  unfold ValE at HV
  have HW := Lib.hid hW
  have HU := Lib.hid hu
  have HN := Lib.hid hN
  clear hW hu hv h3 h4 htk htt hN
  go_enter Tryz.func14, Tryz.ntmps14
  go_wp2_with (fail)
  rw [← HW.out]
  clear HW
  (with_reducible refine HV.out.mono ?_)
  rintro e w1 ⟨x, ok, rfl, hb, -, hx⟩
  have HB1 := Lib.hid (HB.out.trans (hb.mono HB.out.size))
  cases ok with
  | false =>
    clear hb hx
    go_wp2_with (fail)
    go_ret2
    exact ⟨rfl, HB1.out⟩
  | true =>
  have HX : Hid (CE (fun i => i < w1.heap.size) w1 x u false) := Lib.hid ((hx rfl).mono fun i _ hi => hi)
  clear hb hx
  have hs := HX.out.shape
  have HE := Lib.hid (encodeCanonical_no HX.out HU.out (HN.out.mono HN.out.le HB1.out))
  rcases hs with rfl | ⟨Tx, yx, rfl⟩
  all_goals
    go_wp2_with (fail)
    (with_reducible refine HE.out.mono ?_)
    rintro e w2 ⟨T, M, rfl, hb⟩
    have HB2 := Lib.hid (HB1.out.trans (hb.mono HB1.out.size))
    clear hb
    go_wp2_with (fail)
    go_quiet (fail)
    go_wp2_with (fail)
    go_ret2
    exact ⟨rfl, ⟨HB2.out.os, HB2.out.tape, HB2.out.output, HB2.out.size, HB2.out.block⟩⟩
set_option maxRecDepth 100000 in
set_option maxHeartbeats 4000000 in
theorem short400 {l : List ByteArray} {v : Value} {w : World} (h : StrR w v l) (hl : l.length ≤ 2147483648) :
    Calls Tryz.prog 36 #[.int .i64 400, v] w fun e w' => (∃ b, e = .returned (.bool b) ∧ (b = true → ∀ s ∈ l, s.size ≤ 400)) ∧ w' = w := by
  obtain ⟨ao, cp, rfl, hc⟩ := strR_cells h
  have HC := Lib.hid (hc w (Below.refl _ _))
  clear hc h
  go_enter Tryz.func36, Tryz.ntmps36
  go_wp2_with (fail)
  go_loopw [9] (fun i wr => ∃ k : Nat, k ≤ l.length ∧ i = .int .i64 k ∧ wr = w ∧ Hid (∀ s ∈ l.take k, s.size ≤ 400)) (fun i _ => l.length - (intOf i).toNat)
  case atStart => exact ⟨0, Nat.zero_le _, rfl, rfl, (fun s hs => by simp at hs)⟩
  case round =>
    obtain ⟨k, hk, rfl, rfl, HK⟩ := hrel
    by_cases hlt : k < l.length
    · obtain ⟨x, hx⟩ : ∃ x, l[k]? = some x := ⟨_, List.getElem?_eq_getElem hlt⟩
      obtain ⟨a, rfl, c0⟩ := HC.out k x hx
      have HX := Lib.hid hx
      obtain ⟨z, hz⟩ : ∃ z, x.size = z := ⟨_, rfl⟩
      have HZ := Lib.hid hz
      clear hx
      by_cases he : 400 < z
      · have i1 : decide ((400 : Int) < (z : Int)) = true := decide_eq_true (by omega)
        go_wp2_with (fail)
        go_ret
        exact ⟨⟨false, rfl, fun h => by cases h⟩, rfl⟩
      · have i1 : decide ((400 : Int) < (z : Int)) = false := decide_eq_false (by omega)
        have HK2 : Hid (∀ s ∈ l.take (k + 1), s.size ≤ 400) := fun s hs => by
          rw [List.take_add_one, HX.out] at hs
          rcases List.mem_append.1 hs with h | h
          · exact HK.out s h
          · have : s = x := by simpa using h
            rw [this, HZ.out]; omega
        go_wp2_with (fail)
        go_roundw
        case rel => exact ⟨k + 1, by omega, by go_num, trivial, HK2⟩
        case measure => simp [intOf]; omega
    · have HD : Hid (∀ s ∈ l, s.size ≤ 400) := fun s hs => HK.out s (by rw [List.take_of_length_le (by omega)]; exact hs)
      go_wp2_with (fail)
      go_ret
      exact ⟨⟨true, rfl, fun _ => HD.out⟩, rfl⟩
/-- A tree that deepOf takes, with the number of its parts. -/
inductive DT : VT → Nat → Prop
  | node (t : VT) (ns : List Nat) (hx : t.text.size ≤ 400) (hn : t.list.length ≤ 100) (hm : t.keys.length ≤ 100) (hks : ∀ s ∈ t.keys, s.size ≤ 400) (hl : ns.length = t.list.length) (hc : ∀ (j : Nat) (x : VT) (n : Nat), t.list[j]? = some x → ns[j]? = some n → DT x n) : DT t (1 + ns.sum)
def DN (t : VT) (w : World) (e : Ending) (w' : World) : Prop := ∃ n : Nat, e = .returned (.int .i64 n) ∧ n ≤ 401 ∧ Below w.heap.size w w' ∧ (n ≤ 400 → DT t n)
/-- What stands when j parts of a list are counted. -/
def DJ (l : List VT) (j q : Nat) : Prop := ∃ ns : List Nat, ns.length = j ∧ q = 1 + ns.sum ∧ ∀ (i : Nat) (x : VT) (n : Nat), l[i]? = some x → ns[i]? = some n → DT x n
theorem DJ.step {l : List VT} {j q r : Nat} {T : VT} (h : DJ l j q) (hT : l[j]? = some T) (hr : DT T r) : DJ l (j + 1) (q + r) := by
  obtain ⟨ns, h1, h2, h3⟩ := h
  refine ⟨ns ++ [r], by rw [List.length_append, h1]; rfl, by rw [List.sum_append, h2]; simp; omega, fun i x n hi hn => ?_⟩
  rcases Nat.lt_or_ge i ns.length with hj | hj
  · rw [List.getElem?_append_left hj] at hn
    exact h3 i x n hi hn
  · rw [List.getElem?_append_right hj] at hn
    have hj0 : i = j := by
      have := (List.getElem?_eq_some_iff.1 hn).1
      simp at this
      omega
    subst hj0
    rw [h1, Nat.sub_self] at hn
    cases hn
    rw [hT] at hi
    cases hi
    exact hr
set_option maxRecDepth 100000 in
set_option maxHeartbeats 16000000 in
theorem deep_s (d : Nat) (_hd : d ≤ 1000) (IH : ∀ (v : Value) (t : VT) (w : World), VR w v t → Calls Tryz.prog 16 #[v, .int .i64 (d : Int), .int .i64 400] w (DN t w)) {v : Value} {t : VT} {w : World} (h : VR w v t) : Calls Tryz.prog 16 #[v, .int .i64 ((d : Int) + 1), .int .i64 400] w (DN t w) := by
  obtain ⟨kv, lv, rfl, hk, ht, hs, hl⟩ := h.ex
  obtain ⟨k, hkk⟩ : ∃ k, k = t.kind := ⟨_, rfl⟩
  obtain ⟨x, hxx⟩ : ∃ x, x = t.text := ⟨_, rfl⟩
  rw [← hkk] at hk ⊢
  rw [← hxx] at ht ⊢
  obtain ⟨ao, cp, rfl, hll⟩ := lr_slice hl
  obtain ⟨ko, kp, rfl, hkl⟩ := strR_slice hs
  obtain ⟨n, hn⟩ : ∃ n, n = t.list.length := ⟨_, rfl⟩
  obtain ⟨m, hm⟩ : ∃ m, m = t.keys.length := ⟨_, rfl⟩
  rw [← hn] at hll hl ⊢
  rw [← hm] at hkl hs ⊢
  have HIH := Lib.hid IH
  have HLR := Lib.hid hl
  have HSR := Lib.hid hs
  have HN := Lib.hid hn
  have HM := Lib.hid hm
  have HKX := Lib.hid (And.intro hkk hxx)
  unfold maxLen at hll hkl
  clear h hs hl hkk hxx IH hn hm
  have g0 : decide ((d : Int) + 1 < 1) = false := decide_eq_false (by omega)
  obtain ⟨B, hB⟩ : ∃ B, B = w.heap.size := ⟨_, rfl⟩
  obtain ⟨W1, hW1⟩ : ∃ W1, W1 = w.alloc (.cells #[.string k, .string x, .slice ko m kp, .slice ao n cp] 25) := ⟨_, rfl⟩
  have HB1 : Hid (Below w.heap.size w W1) := by rw [hW1]; exact Lib.hid ((Below.refl _ _).alloc (Nat.le_refl _) _)
  have HS1 : Hid (W1.heap.size = B + 1) := by rw [hW1, World.size_alloc, hB]; exact Lib.hid rfl
  have HC : Hid (∀ W, Below W1.heap.size W1 W → VB B k x (.slice ko m kp) (.slice ao n cp) W) := by
    intro W hb
    have hc : W.heap[B]? = some (.cells #[.string k, .string x, .slice ko m kp, .slice ao n cp] 25 (0, 0)) := by
      rw [hb.block B (by rw [HS1.out]; omega), hW1, hB]; exact alloc_at _ _
    refine ⟨?_, ?_, ?_, ?_⟩ <;> simp [World.cell?, hc]
  have HE : Hid (∀ Wx, Below W1.heap.size W1 Wx → DN t w (.returned (.int .i64 401)) Wx) := Lib.hid fun Wx hb => ⟨401, rfl, Nat.le_refl _, HB1.out.trans (hb.mono HB1.out.size), fun h => by omega⟩
  obtain ⟨zx, hzx⟩ : ∃ zx, x.size = zx := ⟨_, rfl⟩
  obtain ⟨zk, hzk⟩ : ∃ zk, k.size = zk := ⟨_, rfl⟩
  have HZX := Lib.hid hzx
  have HW1 := Lib.hid hW1
  have HBH := Lib.hid hB
  clear hW1 hB hk ht
  go_enter Tryz.func16, Tryz.ntmps16
  go_upto_region 2 with (fail)
  rw [← HBH.out, ← HW1.out]
  obtain ⟨c0, c1, c2, c3⟩ := HC.out W1 (Below.refl _ _)
  go_cut [41] (fun b wx => ∃ y : Bool, b = .bool y ∧ W1 = wx ∧ Hid (y = false → zx ≤ 400 ∧ n ≤ 100 ∧ m ≤ 100 ∧ ∀ s ∈ t.keys, s.size ≤ 400))
  case first =>
    as_aux_lemma =>
      have HT : Hid (true = false → zx ≤ 400 ∧ n ≤ 100 ∧ m ≤ 100 ∧ ∀ s ∈ t.keys, s.size ≤ 400) := Lib.hid fun h => by cases h
      by_cases h1 : 400 < zx
      · have i1 : decide ((400 : Int) < (zx : Int)) = true := decide_eq_true (by omega)
        clear h1
        go_wp2_with (fail)
        go_meet
        case rel => exact ⟨_, rfl, rfl, HT⟩
      have i1 : decide ((400 : Int) < (zx : Int)) = false := decide_eq_false (by omega)
      by_cases h4 : 100 < zk
      · have i4 : decide ((100 : Int) < (zk : Int)) = true := decide_eq_true (by omega)
        clear h1 h4
        go_wp2_with (fail)
        go_meet
        case rel => exact ⟨_, rfl, rfl, HT⟩
      have i4 : decide ((100 : Int) < (zk : Int)) = false := decide_eq_false (by omega)
      by_cases h3 : 100 < m
      · have i3 : decide ((100 : Int) < (m : Int)) = true := decide_eq_true (by omega)
        clear h1 h3 h4
        go_wp2_with (fail)
        go_meet
        case rel => exact ⟨_, rfl, rfl, HT⟩
      have i3 : decide ((100 : Int) < (m : Int)) = false := decide_eq_false (by omega)
      by_cases h2 : 100 < n
      · have i2 : decide ((100 : Int) < (n : Int)) = true := decide_eq_true (by omega)
        clear h1 h2 h3 h4
        go_wp2_with (fail)
        go_meet
        case rel => exact ⟨_, rfl, rfl, HT⟩
      have i2 : decide ((100 : Int) < (n : Int)) = false := decide_eq_false (by omega)
      have HSH := Lib.hid (short400 (HSR.out.stay HB1.out) (by rw [← HM.out]; omega))
      have HNM := Lib.hid (And.intro (Nat.le_of_not_lt h1) (And.intro (Nat.le_of_not_lt h2) (Nat.le_of_not_lt h3)))
      clear h1 h2 h3 h4
      go_wp2_with (fail)
      refine HSH.out.mono ?_
      rintro e w2 ⟨⟨b, rfl, hb⟩, rfl⟩
      have HBB := Lib.hid hb
      clear hb
      cases b with
      | false =>
        go_wp2_with (fail)
        go_meet
        case rel => exact ⟨_, rfl, rfl, HT⟩
      | true =>
        have HR := HBB.out rfl
        have HR := Lib.hid HR
        go_wp2_with (fail)
        go_meet
        case rel => exact ⟨_, rfl, rfl, Lib.hid fun _ => ⟨HNM.out.1, HNM.out.2.1, HNM.out.2.2, HR.out⟩⟩
  case rest =>
    obtain ⟨y, rfl, rfl, HY⟩ := hcut
    cases y with
    | true =>
      go_wp2_with (fail)
      go_ret
      exact HE.out _ (Below.refl _ _)
    | false =>
      obtain ⟨h400, hn100, hm100, hks⟩ := HY.out rfl
      have HKS := Lib.hid hks
      have HLC : Hid (∀ W, Below W1.heap.size W1 W → ∀ j, j < n → ∃ (a : Addr) (T : VT) (k0 l0 : Option Addr) (k1 l1 k2 l2 : Nat), ao = some a ∧ W.cell? (a.add (j * 4)) = some (.string T.kind) ∧ W.cell? ⟨(a.add (j * 4)).block, (a.add (j * 4)).off + 1, none⟩ = some (.string T.text) ∧ W.cell? ⟨(a.add (j * 4)).block, (a.add (j * 4)).off + 2, none⟩ = some (.slice k0 k1 k2) ∧ W.cell? ⟨(a.add (j * 4)).block, (a.add (j * 4)).off + 3, none⟩ = some (.slice l0 l1 l2) ∧ VR W (.agg #[.string T.kind, .string T.text, .slice k0 k1 k2, .slice l0 l1 l2]) T ∧ t.list[j]? = some T) := by
        intro W hb j hj
        have hbw : Below w.heap.size w W := HB1.out.trans (hb.mono HB1.out.size)
        exact lr_elem HLR.out hbw j (by rw [← HN.out]; exact hj)
      clear hks c0 c1 c2
      go_wp2_with (fail)
      go_loopw [7, 47] (fun nn i wr => ∃ q j : Nat, nn = .int .i64 q ∧ i = .int .i64 j ∧ q ≤ 400 ∧ j ≤ n ∧ Hid (Below W1.heap.size W1 wr) ∧ Hid (DJ t.list j q)) (fun _ i _ => n - (intOf i).toNat)
      case atStart => exact ⟨1, 0, rfl, rfl, by omega, Nat.zero_le _, Lib.hid (Below.refl _ _), Lib.hid ⟨[], rfl, rfl, fun i x n _ hn => by cases hn⟩⟩
      case round =>
        obtain ⟨q, j, rfl, rfl, hq, hj, HBR, HDJ⟩ := hrel
        clear c3
        by_cases hjn : j < n
        · have j1 : decide ((j : Int) < (n : Int)) = true := decide_eq_true (by omega)
          obtain ⟨a, T, k0, l0, k1, l1, k2, l2, rfl, e0, e1, e2, e3, hvr, hTj⟩ := HLC.out wr HBR.out j hjn
          have HTJ := Lib.hid hTj
          have HBA : Hid (Below W1.heap.size W1 (wr.alloc (.cells #[.string T.kind, .string T.text, .slice k0 k1 k2, .slice l0 l1 l2] 25))) := HBR.out.alloc HBR.out.size _
          have HCALL := Lib.hid (HIH.out _ _ _ (hvr.stay ((Below.refl wr.heap.size wr).alloc (Nat.le_refl _) (.cells #[.string T.kind, .string T.text, .slice k0 k1 k2, .slice l0 l1 l2] 25))))
          unfold DN at HCALL
          clear hvr hTj
          obtain ⟨tk, htk⟩ : ∃ tk, tk = T.kind := ⟨_, rfl⟩
          obtain ⟨tx, htx⟩ : ∃ tx, tx = T.text := ⟨_, rfl⟩
          rw [← htk] at e0 HBA HCALL
          rw [← htx] at e1 HBA HCALL
          clear htk htx
          go_wp2_with (fail)
          refine HCALL.out.mono ?_
          rintro e w3 ⟨r, rfl, hr, hb, hpt⟩
          have HPT := Lib.hid hpt
          have HB3 : Hid (Below W1.heap.size W1 w3) := HBA.out.trans (hb.mono HBA.out.size)
          clear hb hpt
          have hqr : IntKind.i64.wrap ((q : Int) + (r : Int)) = ((q + r : Nat) : Int) := by rw [IntKind.wrap_i64]; omega
          by_cases h80 : 400 < q + r
          · have j2 : decide ((400 : Int) < (q : Int) + (r : Int)) = true := decide_eq_true (by omega)
            go_wp2_with (fail)
            go_ret
            exact HE.out _ HB3.out
          · have j2 : decide ((400 : Int) < (q : Int) + (r : Int)) = false := decide_eq_false (by omega)
            have HDJ1 : Hid (DJ t.list (j + 1) (q + r)) := Lib.hid (HDJ.out.step HTJ.out (HPT.out (by omega)))
            go_wp2_with (fail)
            go_roundw
            case rel => exact ⟨q + r, j + 1, by go_num, by go_num, by omega, by omega, HB3, HDJ1⟩
            case measure => simp [intOf]; omega
        · have j1 : decide ((j : Int) < (n : Int)) = false := decide_eq_false (by omega)
          have HEE : Hid (DT t q) := by
            obtain ⟨ns, e1, e2, e3⟩ := HDJ.out
            rw [e2]
            exact Lib.hid (.node t ns (by rw [← HKX.out.2, HZX.out]; exact h400) (by rw [← HN.out]; exact hn100) (by rw [← HM.out]; exact hm100) HKS.out (by rw [e1, ← HN.out]; omega) e3)
          go_wp2_with (fail)
          go_ret
          exact ⟨q, rfl, by omega, HB1.out.trans (HBR.out.mono HB1.out.size), fun _ => HEE.out⟩
set_option maxRecDepth 100000 in
set_option maxHeartbeats 4000000 in
theorem deep_any : ∀ (d : Nat), d ≤ 1000 → ∀ (v : Value) (t : VT) (w : World), VR w v t → Calls Tryz.prog 16 #[v, .int .i64 (d : Int), .int .i64 400] w (DN t w)
  | 0, _, v, t, w, h => by
    obtain ⟨kv, lv, rfl, _, _, _, _⟩ := h.ex
    have g0 : decide (((0 : Nat) : Int) < 1) = true := rfl
    go_enter Tryz.func16, Tryz.ntmps16
    go_wp2_with (fail)
    go_ret
    exact ⟨401, rfl, Nat.le_refl _, (Below.refl _ _).alloc (Nat.le_refl _) _, fun h => by omega⟩
  | d + 1, hd, v, t, w, h => deep_s d (by omega) (deep_any d (by omega)) h
set_option maxRecDepth 100000 in
set_option maxHeartbeats 4000000 in
theorem jDigits_any (s : ByteArray) (hs : s.size ≤ 2147483647) (k0 : Nat) (hk0 : k0 ≤ s.size) (w : World) : Calls Tryz.prog 121 #[.string s, .int .i64 (k0 : Int)] w fun e w' => (∃ k : Nat, e = .returned (.int .i64 (k : Int)) ∧ k0 ≤ k ∧ k ≤ s.size) ∧ w = w' := by
  go_enter Tryz.func121, Tryz.ntmps121
  go_wp2_with (fail)
  go_loop [1] (fun i => ∃ k : Nat, i = .int .i64 k ∧ k0 ≤ k ∧ k ≤ s.size) (fun i => s.size - (intOf i).toNat)
  case atStart => exact ⟨k0, by first | rfl | go_num, Nat.le_refl _, by omega⟩
  case round =>
    obtain ⟨k, rfl, hk, hk'⟩ := hrel
    by_cases hlt : k < s.size
    · have g1 : decide ((k : Int) < (s.size : Int)) = true := decide_eq_true (by omega)
      by_cases d1 : 48 ≤ s[k].toNat
      · have d2 : decide ((48 : Int) ≤ (s[k].toNat : Int)) = true := decide_eq_true (by omega)
        by_cases d3 : s[k].toNat ≤ 57
        · have d4 : decide ((s[k].toNat : Int) ≤ 57) = true := decide_eq_true (by omega)
          go_wp2_with (fail)
          go_round
          case rel => exact ⟨k + 1, by go_num, by omega, by omega⟩
          case measure => simp [intOf]; omega
        · have d4 : decide ((s[k].toNat : Int) ≤ 57) = false := decide_eq_false (by omega)
          go_wp2_with (fail)
          go_ret
          exact ⟨⟨k, rfl, hk, hk'⟩, rfl⟩
      · have d2 : decide ((48 : Int) ≤ (s[k].toNat : Int)) = false := decide_eq_false (by omega)
        go_wp2_with (fail)
        go_ret
        exact ⟨⟨k, rfl, hk, hk'⟩, rfl⟩
    · have g1 : decide ((k : Int) < (s.size : Int)) = false := decide_eq_false (by omega)
      go_wp2_with (fail)
      go_ret
      exact ⟨⟨k, rfl, hk, hk'⟩, rfl⟩
set_option maxRecDepth 100000 in
set_option maxHeartbeats 16000000 in
theorem jNumber_any (s : ByteArray) (hs : s.size ≤ 2147483647) (w : World) : Calls Tryz.prog 96 #[.string s] w fun e w' => (∃ b : Bool, e = .returned (.bool b)) ∧ w = w' := by
  have HD := Lib.hid (fun k0 hk0 => jDigits_any s hs k0 hk0 w)
  go_enter Tryz.func96, Tryz.ntmps96
  go_upto_region 2 with (fail)
  go_cut [14] (fun b wx => ∃ x : Bool, b = .bool x ∧ (x = true → 0 < s.size) ∧ w = wx)
  case first =>
    as_aux_lemma =>
      by_cases h0 : 0 < s.size
      · have g0 : decide (((0 : Nat) : Int) < (s.size : Int)) = true := decide_eq_true (by omega)
        go_wp2_with (fail)
        all_goals (go_meet; (case rel => exact ⟨_, rfl, fun _ => h0, rfl⟩))
      · have g0 : decide (((0 : Nat) : Int) < (s.size : Int)) = false := decide_eq_false (by omega)
        go_wp2_with (fail)
        all_goals (go_meet; (case rel => exact ⟨_, rfl, fun h => by simp at h, rfl⟩))
  case rest =>
  obtain ⟨x, rfl, hx, rfl⟩ := hcut
  go_upto_if 14 with (fail)
  go_cut [3] (fun i wx => ∃ k : Nat, i = .int .i64 k ∧ k ≤ s.size ∧ w = wx)
  case first =>
    as_aux_lemma =>
      cases x with
      | true =>
        have h0 := hx rfl
        clear hx
        go_wp2_with (fail)
        go_meet
        case rel => exact ⟨1, rfl, by omega, rfl⟩
      | false =>
        clear hx
        go_wp2_with (fail)
        go_meet
        case rel => exact ⟨0, rfl, by omega, rfl⟩
  case rest =>
  obtain ⟨k0, rfl, hk0, rfl⟩ := hcut
  clear hx
  have HD1 := Lib.hid (HD.out k0 hk0)
  go_upto_region 6 with (go_at_call 121; refine HD1.out.mono ?_; rintro e wy ⟨⟨k1, rfl, hk1, hk1'⟩, rfl⟩)
  go_cut [35] (fun b wx => ∃ x : Bool, b = .bool x ∧ w = wx)
  case first =>
    as_aux_lemma =>
      by_cases h0 : k1 = k0
      · have g0 : ((k1 : Int) == (k0 : Int)) = true := by simp; omega
        go_wp2_with (fail)
        all_goals (go_meet; (case rel => exact ⟨_, rfl, rfl⟩))
      · have g0 : ((k1 : Int) == (k0 : Int)) = false := by simp; omega
        have g1 : k0 < s.size := by omega
        have g2 : (k0 : Int) < (s.size : Int) := by omega
        have g3 : IntKind.i64.wrap ((k0 : Int) + 1) = (k0 : Int) + 1 := by rw [IntKind.wrap_i64]; omega
        go_wp2_with (fail)
        all_goals (go_meet; (case rel => exact ⟨_, rfl, rfl⟩))
  case rest =>
  obtain ⟨x, rfl, rfl⟩ := hcut
  cases x with
  | true =>
    go_wp2_with (fail)
    go_ret
    exact ⟨⟨_, rfl⟩, rfl⟩
  | false =>
  go_upto_region 8 with (fail)
  go_cut [45] (fun b wx => ∃ x : Bool, b = .bool x ∧ (x = true → k1 < s.size) ∧ w = wx)
  case first =>
    as_aux_lemma =>
      by_cases h0 : k1 < s.size
      · have g0 : decide (((k1 : Nat) : Int) < (s.size : Int)) = true := decide_eq_true (by omega)
        go_wp2_with (fail)
        all_goals (go_meet; (case rel => exact ⟨_, rfl, fun _ => h0, rfl⟩))
      · have g0 : decide (((k1 : Nat) : Int) < (s.size : Int)) = false := decide_eq_false (by omega)
        go_wp2_with (fail)
        all_goals (go_meet; (case rel => exact ⟨_, rfl, fun h => by simp at h, rfl⟩))
  case rest =>
  obtain ⟨x, rfl, hx, rfl⟩ := hcut
  cases x with
  | true =>
    have h0 := hx rfl
    clear hx
    have HD2 := HD.out (k1 + 1) (by omega)
    rw [show ((k1 + 1 : Nat) : Int) = (k1 : Int) + 1 from rfl] at HD2
    have HD2 := Lib.hid HD2
    have g3 : IntKind.i64.wrap ((k1 : Int) + 1) = (k1 : Int) + 1 := by rw [IntKind.wrap_i64]; omega
    go_upto_region 11 with (go_at_call 121; refine HD2.out.mono ?_; rintro e wy ⟨⟨k2, rfl, hk2, hk2'⟩, rfl⟩)
    by_cases h2 : k2 = k1 + 1
    · have g4 : ((k2 : Int) == (k1 : Int) + 1) = true := by simp; omega
      go_wp2_with (fail)
      go_ret
      exact ⟨⟨_, rfl⟩, rfl⟩
    have g4 : ((k2 : Int) == (k1 : Int) + 1) = false := by simp; omega
    clear h0 h2 hk1 hk1' hk2
    go_upto_region 13 with (fail)
    go_cut [69] (fun b wx => ∃ x : Bool, b = .bool x ∧ (x = true → k2 < s.size) ∧ w = wx)
    case first =>
      as_aux_lemma =>
        by_cases h0 : k2 < s.size
        · have g0 : decide (((k2 : Nat) : Int) < (s.size : Int)) = true := decide_eq_true (by omega)
          by_cases d0 : s[k2].toNat = 101
          · have d1 : ((s[k2].toNat : Int) == 101) = true := by simp; omega
            go_wp2_with (fail)
            all_goals (go_meet; (case rel => exact ⟨_, rfl, fun _ => h0, rfl⟩))
          · have d1 : ((s[k2].toNat : Int) == 101) = false := by simp; omega
            go_wp2_with (fail)
            all_goals (go_meet; (case rel => exact ⟨_, rfl, fun _ => h0, rfl⟩))
        · have g0 : decide (((k2 : Nat) : Int) < (s.size : Int)) = false := decide_eq_false (by omega)
          go_wp2_with (fail)
          all_goals (go_meet; (case rel => exact ⟨_, rfl, fun h => by simp at h, rfl⟩))
    case rest =>
    obtain ⟨x, rfl, hx, rfl⟩ := hcut
    cases x with
    | false =>
      clear hx
      go_wp2_with (fail)
      go_ret
      exact ⟨⟨_, rfl⟩, rfl⟩
    | true =>
    have h0 := hx rfl
    clear hx
    go_upto_region 15 with (fail)
    obtain ⟨k3, hk3⟩ : ∃ k3 : Nat, (k3 : Int) = (k2 : Int) + 1 := ⟨k2 + 1, rfl⟩
    rw [← hk3]
    have hk3' : k3 ≤ s.size := by omega
    clear hk3 h0
    go_cut [87] (fun b wx => ∃ x : Bool, b = .bool x ∧ (x = true → k3 < s.size) ∧ w = wx)
    case first =>
      as_aux_lemma =>
        by_cases h0 : k3 < s.size
        · have g0 : decide (((k3 : Nat) : Int) < (s.size : Int)) = true := decide_eq_true (by omega)
          by_cases d0 : s[k3].toNat = 43
          · have d1 : ((s[k3].toNat : Int) == 43) = true := by simp; omega
            go_wp2_with (fail)
            all_goals (go_meet; (case rel => exact ⟨_, rfl, fun _ => h0, rfl⟩))
          · have d1 : ((s[k3].toNat : Int) == 43) = false := by simp; omega
            go_wp2_with (fail)
            all_goals (go_meet; (case rel => exact ⟨_, rfl, fun _ => h0, rfl⟩))
        · have g0 : decide (((k3 : Nat) : Int) < (s.size : Int)) = false := decide_eq_false (by omega)
          go_wp2_with (fail)
          all_goals (go_meet; (case rel => exact ⟨_, rfl, fun h => by simp at h, rfl⟩))
    case rest =>
    obtain ⟨x, rfl, hx, rfl⟩ := hcut
    go_upto_if 87 with (fail)
    go_cut [3] (fun i wx => ∃ k : Nat, i = .int .i64 k ∧ k ≤ s.size ∧ w = wx)
    case first =>
      as_aux_lemma =>
        cases x with
        | true =>
          have h0 := hx rfl
          clear hx
          go_wp2_with (fail)
          go_meet
          case rel => exact ⟨k3 + 1, by go_num, by omega, rfl⟩
        | false =>
          clear hx
          go_wp2_with (fail)
          go_meet
          case rel => exact ⟨k3, rfl, hk3', rfl⟩
    case rest =>
    obtain ⟨k4, rfl, hk4, rfl⟩ := hcut
    clear hx
    have HD4 := Lib.hid (HD.out k4 hk4)
    go_upto_region 19 with (go_at_call 121; refine HD4.out.mono ?_; rintro e wy ⟨⟨k5, rfl, hk5, hk5'⟩, rfl⟩)
    by_cases h5 : k5 = k4
    · have g6 : ((k5 : Int) == (k4 : Int)) = true := by simp; omega
      go_wp2_with (fail)
      go_ret
      exact ⟨⟨_, rfl⟩, rfl⟩
    · have g6 : ((k5 : Int) == (k4 : Int)) = false := by simp; omega
      go_wp2_with (fail)
      go_ret
      exact ⟨⟨_, rfl⟩, rfl⟩
  | false =>
    clear hx
    go_upto_region 13 with (fail)
    go_cut [69] (fun b wx => ∃ x : Bool, b = .bool x ∧ (x = true → k1 < s.size) ∧ w = wx)
    case first =>
      as_aux_lemma =>
        by_cases h0 : k1 < s.size
        · have g0 : decide (((k1 : Nat) : Int) < (s.size : Int)) = true := decide_eq_true (by omega)
          by_cases d0 : s[k1].toNat = 101
          · have d1 : ((s[k1].toNat : Int) == 101) = true := by simp; omega
            go_wp2_with (fail)
            all_goals (go_meet; (case rel => exact ⟨_, rfl, fun _ => h0, rfl⟩))
          · have d1 : ((s[k1].toNat : Int) == 101) = false := by simp; omega
            go_wp2_with (fail)
            all_goals (go_meet; (case rel => exact ⟨_, rfl, fun _ => h0, rfl⟩))
        · have g0 : decide (((k1 : Nat) : Int) < (s.size : Int)) = false := decide_eq_false (by omega)
          go_wp2_with (fail)
          all_goals (go_meet; (case rel => exact ⟨_, rfl, fun h => by simp at h, rfl⟩))
    case rest =>
    obtain ⟨x, rfl, hx, rfl⟩ := hcut
    cases x with
    | false =>
      clear hx
      go_wp2_with (fail)
      go_ret
      exact ⟨⟨_, rfl⟩, rfl⟩
    | true =>
    have h0 := hx rfl
    clear hx
    go_upto_region 15 with (fail)
    obtain ⟨k3, hk3⟩ : ∃ k3 : Nat, (k3 : Int) = (k1 : Int) + 1 := ⟨k1 + 1, rfl⟩
    rw [← hk3]
    have hk3' : k3 ≤ s.size := by omega
    clear hk3 h0
    go_cut [87] (fun b wx => ∃ x : Bool, b = .bool x ∧ (x = true → k3 < s.size) ∧ w = wx)
    case first =>
      as_aux_lemma =>
        by_cases h0 : k3 < s.size
        · have g0 : decide (((k3 : Nat) : Int) < (s.size : Int)) = true := decide_eq_true (by omega)
          by_cases d0 : s[k3].toNat = 43
          · have d1 : ((s[k3].toNat : Int) == 43) = true := by simp; omega
            go_wp2_with (fail)
            all_goals (go_meet; (case rel => exact ⟨_, rfl, fun _ => h0, rfl⟩))
          · have d1 : ((s[k3].toNat : Int) == 43) = false := by simp; omega
            go_wp2_with (fail)
            all_goals (go_meet; (case rel => exact ⟨_, rfl, fun _ => h0, rfl⟩))
        · have g0 : decide (((k3 : Nat) : Int) < (s.size : Int)) = false := decide_eq_false (by omega)
          go_wp2_with (fail)
          all_goals (go_meet; (case rel => exact ⟨_, rfl, fun h => by simp at h, rfl⟩))
    case rest =>
    obtain ⟨x, rfl, hx, rfl⟩ := hcut
    go_upto_if 87 with (fail)
    go_cut [3] (fun i wx => ∃ k : Nat, i = .int .i64 k ∧ k ≤ s.size ∧ w = wx)
    case first =>
      as_aux_lemma =>
        cases x with
        | true =>
          have h0 := hx rfl
          clear hx
          go_wp2_with (fail)
          go_meet
          case rel => exact ⟨k3 + 1, by go_num, by omega, rfl⟩
        | false =>
          clear hx
          go_wp2_with (fail)
          go_meet
          case rel => exact ⟨k3, rfl, hk3', rfl⟩
    case rest =>
    obtain ⟨k4, rfl, hk4, rfl⟩ := hcut
    clear hx
    have HD4 := Lib.hid (HD.out k4 hk4)
    go_upto_region 19 with (go_at_call 121; refine HD4.out.mono ?_; rintro e wy ⟨⟨k5, rfl, hk5, hk5'⟩, rfl⟩)
    by_cases h5 : k5 = k4
    · have g6 : ((k5 : Int) == (k4 : Int)) = true := by simp; omega
      go_wp2_with (fail)
      go_ret
      exact ⟨⟨_, rfl⟩, rfl⟩
    · have g6 : ((k5 : Int) == (k4 : Int)) = false := by simp; omega
      go_wp2_with (fail)
      go_ret
      exact ⟨⟨_, rfl⟩, rfl⟩
set_option maxRecDepth 100000 in
set_option maxHeartbeats 4000000 in
theorem jHas_any {l : List ByteArray} {v : Value} {w : World} (s : ByteArray) (h : StrR w v l) (hl : l.length ≤ 2147483648) :
    Calls Tryz.prog 69 #[v, .string s] w fun e w' => (∃ b, e = .returned (.bool b) ∧ (b = false → ∀ x ∈ l, x.toList ≠ s.toList)) ∧ w' = w := by
  obtain ⟨ao, cp, rfl, hc⟩ := strR_cells h
  have HC := Lib.hid (hc w (Below.refl _ _))
  clear hc h
  go_enter Tryz.func69, Tryz.ntmps69
  go_wp2_with (fail)
  go_loopw [5] (fun i wr => ∃ k : Nat, k ≤ l.length ∧ i = .int .i64 k ∧ wr = w ∧ Hid (∀ x ∈ l.take k, x.toList ≠ s.toList)) (fun i _ => l.length - (intOf i).toNat)
  case atStart => exact ⟨0, Nat.zero_le _, rfl, rfl, (fun x hx => by simp at hx)⟩
  case round =>
    obtain ⟨k, hk, rfl, rfl, HK⟩ := hrel
    by_cases hlt : k < l.length
    · obtain ⟨x, hx⟩ : ∃ x, l[k]? = some x := ⟨_, List.getElem?_eq_getElem hlt⟩
      obtain ⟨a, rfl, c0⟩ := HC.out k x hx
      have HX := Lib.hid hx
      clear hx
      by_cases he : x.toList = s.toList
      · have i1 : (x.toList == s.toList) = true := by simpa using he
        clear he
        go_wp2_with (fail)
        go_ret
        exact ⟨⟨true, rfl, fun h => by cases h⟩, rfl⟩
      · have i1 : (x.toList == s.toList) = false := by simpa using he
        have HK2 : Hid (∀ y ∈ l.take (k + 1), y.toList ≠ s.toList) := fun y hy => by
          rw [List.take_add_one, HX.out] at hy
          rcases List.mem_append.1 hy with h | h
          · exact HK.out y h
          · have : y = x := by simpa using h
            rw [this]; exact he
        clear he
        go_wp2_with (fail)
        go_roundw
        case rel => exact ⟨k + 1, by omega, by go_num, trivial, HK2⟩
        case measure => simp [intOf]; omega
    · have HD : Hid (∀ x ∈ l, x.toList ≠ s.toList) := fun x hx => HK.out x (by rw [List.take_of_length_le (by omega)]; exact hx)
      go_wp2_with (fail)
      go_ret
      exact ⟨⟨false, rfl, fun _ => HD.out⟩, rfl⟩
/-- What spec tells of a text: s; good; said. -/
def SpP3 (G : ByteArray → Bool → Prop) (w : World) (e : Ending) (w' : World) : Prop := ∃ (u : ByteArray) (ok said : Bool), e = .returned (.tuple #[.string u, .bool ok, .bool said]) ∧ Below w.heap.size w w' ∧ u.size ≤ 2147483648 ∧ (said = true → G u ok)
theorem pM_dig : ∀ (l : List UInt8) (M acc v : Nat), Lib.parseUintM M acc l = .ok v → ∀ c ∈ l, 48 ≤ c.toNat ∧ c.toNat ≤ 57
  | [], _, _, _, _, c, hc => by cases hc
  | x :: l, M, acc, v, h, c, hc => by
    rw [Lib.parseUintM] at h
    split at h
    · rename_i hx
      split at h
      · cases h
      · split at h
        · cases h
        · rcases List.mem_cons.1 hc with rfl | hc
          · exact hx
          · exact pM_dig l M _ v h c hc
    · cases h
theorem pB_dig {B : Nat} {l : List UInt8} {v : Nat} (h : Lib.parseUintB B l = .ok v) : ∀ c ∈ l, 48 ≤ c.toNat ∧ c.toNat ≤ 57 := by
  unfold Lib.parseUintB at h
  split at h
  · cases h
  · exact pM_dig l _ 0 v h
theorem noDig {B : Nat} {l : List UInt8} {c : UInt8} (hc : c ∈ l) (h : ¬ (48 ≤ c.toNat ∧ c.toNat ≤ 57)) (hp : c.toNat ≠ 43) (hm : c.toNat ≠ 45) : ∀ v, Lib.parseIntB B l ≠ .ok v := by
  intro v hv
  cases l with
  | nil => cases hc
  | cons a r =>
    have hu : ∃ u, Lib.parseUintB B (if a.toNat = 43 ∨ a.toNat = 45 then r else a :: r) = .ok u := by
      unfold Lib.parseIntB at hv
      simp only at hv
      rcases hp' : Lib.parseUintB B (if a.toNat = 43 ∨ a.toNat = 45 then r else a :: r) with u | _ | _
      · exact ⟨u, rfl⟩
      · rw [hp'] at hv; cases hv
      · rw [hp'] at hv; cases hv
    obtain ⟨u, hu⟩ := hu
    by_cases hs : a.toNat = 43 ∨ a.toNat = 45
    · rw [if_pos hs] at hu
      rcases List.mem_cons.1 hc with rfl | hc
      · rcases hs with hs | hs
        · exact hp hs
        · exact hm hs
      · exact h (pB_dig hu c hc)
    · rw [if_neg hs] at hu
      exact h (pB_dig hu c hc)
def WholeG (s : ByteArray) (u : ByteArray) (ok : Bool) : Prop := u.size ≤ s.size ∧ (ok = true → u = s ∧ ∃ v, Lib.parseIntB 64 s.data.toList = .ok v) ∧ (ok = false → ∀ v, Lib.parseIntB 64 s.data.toList ≠ .ok v)
theorem mem_at {s : ByteArray} {k : Nat} (h : k < s.size) : s[k] ∈ s.data.toList := by
  rw [Array.mem_toList_iff]
  exact Array.getElem_mem h
set_option maxRecDepth 100000 in
set_option maxHeartbeats 4000000 in
theorem jWhole_any (s : ByteArray) (hs : s.size ≤ 1073741824) {N : Nat} {w : World} (hN : TL N w) : Calls Tryz.prog 66 #[.string s] w (SpP3 (WholeG s) w) := by
  have HJ := Lib.hid (jNumber_any s (by omega) w)
  have HN := Lib.hid hN
  clear hN
  go_enter Tryz.func66, Tryz.ntmps66
  go_wp2_with (fail)
  refine HJ.out.mono ?_
  rintro e w1 ⟨⟨b, rfl⟩, rfl⟩
  cases b with
  | false =>
    go_wp2_with (fail)
    go_ret3
    exact ⟨_, _, _, rfl, Below.refl _ _, by decide, fun h => by simp at h⟩
  | true =>
  go_wp2_with (fail)
  go_loop [5] (fun i => ∃ k : Nat, i = .int .i64 k ∧ k ≤ s.size) (fun i => s.size - (intOf i).toNat)
  case atStart => exact ⟨0, by first | rfl | go_num, Nat.zero_le _⟩
  case round =>
    obtain ⟨k, rfl, hk⟩ := hrel
    by_cases hlt : k < s.size
    · have g1 : decide ((k : Int) < (s.size : Int)) = true := decide_eq_true (by omega)
      obtain ⟨c, hc⟩ : ∃ c, c = s[k] := ⟨_, rfl⟩
      have HM : Hid (c ∈ s.data.toList) := by rw [hc]; exact Lib.hid (mem_at hlt)
      by_cases d1 : s[k].toNat = 46
      · have e1 : ((s[k].toNat : Int) == 46) = true := by simp; omega
        have HB : Hid (WholeG s ⟨#[]⟩ false) := Lib.hid ⟨Nat.zero_le _, (fun h => by cases h), fun _ => noDig HM.out (by rw [hc]; omega) (by rw [hc]; omega) (by rw [hc]; omega)⟩
        clear d1 hc
        go_wp2_with (fail)
        go_ret3
        exact ⟨_, _, _, rfl, Below.refl _ _, by decide, fun _ => HB.out⟩
      have e1 : ((s[k].toNat : Int) == 46) = false := by simp; omega
      by_cases d2 : s[k].toNat = 101
      · have e2 : ((s[k].toNat : Int) == 101) = true := by simp; omega
        have HB : Hid (WholeG s ⟨#[]⟩ false) := Lib.hid ⟨Nat.zero_le _, (fun h => by cases h), fun _ => noDig HM.out (by rw [hc]; omega) (by rw [hc]; omega) (by rw [hc]; omega)⟩
        clear d1 d2 hc
        go_wp2_with (fail)
        go_ret3
        exact ⟨_, _, _, rfl, Below.refl _ _, by decide, fun _ => HB.out⟩
      have e2 : ((s[k].toNat : Int) == 101) = false := by simp; omega
      by_cases d3 : s[k].toNat = 69
      · have e3 : ((s[k].toNat : Int) == 69) = true := by simp; omega
        have HB : Hid (WholeG s ⟨#[]⟩ false) := Lib.hid ⟨Nat.zero_le _, (fun h => by cases h), fun _ => noDig HM.out (by rw [hc]; omega) (by rw [hc]; omega) (by rw [hc]; omega)⟩
        clear d1 d2 d3 hc
        go_wp2_with (fail)
        go_ret3
        exact ⟨_, _, _, rfl, Below.refl _ _, by decide, fun _ => HB.out⟩
      have e3 : ((s[k].toNat : Int) == 69) = false := by simp; omega
      clear d1 d2 d3 hc
      go_wp2_with (fail)
      go_round
      case rel => exact ⟨k + 1, by go_num, by omega⟩
      case measure => simp [intOf]; omega
    · have g1 : decide ((k : Int) < (s.size : Int)) = false := decide_eq_false (by omega)
      rcases hp : Lib.parseIntB 64 s.data.toList with v | _ | _
      · have HPI := Lib.hid (parseInt_ok s (by omega) v hp w)
        have HB : Hid (WholeG s s true) := Lib.hid ⟨Nat.le_refl _, fun _ => ⟨rfl, v, hp⟩, fun h => by cases h⟩
        clear hp
        go_wp2_with (fail)
        refine HPI.out.mono ?_
        rintro e w2 ⟨rfl, hb⟩
        have HB2 := Lib.hid hb
        clear hb
        go_wp2_with (fail)
        go_quiet (fail)
        go_wp2_with (fail)
        go_ret3
        exact ⟨_, _, _, rfl, below_drewN HB2.out _, by omega, fun _ => HB.out⟩
      all_goals
        have hno : ∀ v, Lib.parseIntB 64 s.data.toList ≠ .ok v := fun v h => by rw [hp] at h; cases h
        have HPI := Lib.hid (parseInt_no s (by omega) hno HN.out)
        have HB : Hid (WholeG s s false) := Lib.hid ⟨Nat.le_refl _, (fun h => by cases h), fun _ => hno⟩
        clear hp hno
        go_wp2_with (fail)
        refine HPI.out.mono ?_
        rintro e w2 ⟨z, T, M, rfl, hb⟩
        have HB2 := Lib.hid hb
        clear hb
        go_wp2_with (fail)
        go_quiet (fail)
        go_wp2_with (fail)
        go_ret3
        exact ⟨_, _, _, rfl, below_drewN HB2.out _, by omega, fun _ => HB.out⟩
theorem bap (S T : ByteArray) : (S ++ T).data.toList = S.data.toList ++ T.data.toList := by rw [ByteArray.data_append, Array.toList_append]
theorem bapz (S T : ByteArray) : (S ++ T).size = S.size + T.size := by rw [Lib.size_eq, bap, List.length_append, Lib.size_eq, Lib.size_eq]
theorem ext_one {s : ByteArray} {k : Nat} (h : k < s.size) : (s.extract k (k + 1)).data.toList = [s[k]] := by
  rw [ByteArray.data_extract, Array.toList_extract]
  have hk : k < s.data.toList.length := by rw [← Lib.size_eq]; exact h
  have e : s.data.toList.drop k = s.data.toList[k] :: s.data.toList.drop (k + 1) := List.drop_eq_getElem_cons hk
  show (s.data.toList.drop k).take (k + 1 - k) = _
  rw [e, show k + 1 - k = 1 by omega]
  rfl
theorem take_one {s : ByteArray} {k : Nat} (h : k < s.size) : s.data.toList.take (k + 1) = s.data.toList.take k ++ [s[k]] := by
  have hk : k < s.data.toList.length := by rw [← Lib.size_eq]; exact h
  rw [List.take_add_one, List.getElem?_eq_getElem hk]
  rfl
set_option maxRecDepth 100000 in
set_option maxHeartbeats 4000000 in
theorem jPlain_any (s : ByteArray) (hs : s.size ≤ 1073741824) {N : Nat} {w : World} (hN : TL N w) : Calls Tryz.prog 67 #[.string s] w fun e w' => (∃ b : Bool, e = .returned (.tuple #[.string ⟨(encStr s.data.toList).toArray⟩, .bool b])) ∧ Below w.heap.size w w' := by
  have HV := Lib.hid (Tryz.utf8_ValidString s w (by omega) hN.utf8)
  clear hN
  go_enter Tryz.func67, Tryz.ntmps67
  go_wp2_with (fail)
  go_loopg [4, 5] s.size (fun g v i wr => ∃ (k : Nat) (S : ByteArray), k + g = s.size ∧ i = .int .i64 k ∧ v = .string S ∧ wr = w ∧ Hid (S.data.toList = 34 :: canB (s.data.toList.take k)))
  case atStart => exact ⟨0, ⟨#[34]⟩, by omega, rfl, rfl, rfl, Lib.hid rfl⟩
  case round =>
    obtain ⟨k, S, hk, rfl, rfl, rfl, HS⟩ := hrel
    have hSz : S.size ≤ 2147483649 := by
      rw [Lib.size_eq, HS.out, List.length_cons]
      have h1 := canB_len (s.data.toList.take k)
      have h2 : (s.data.toList.take k).length ≤ k := List.length_take_le _ _
      omega
    cases gk with
    | zero =>
      have hkn : ¬ (k : Int) < (s.size : Int) := by omega
      have HE : Hid (S ++ (⟨#[34]⟩ : ByteArray) = ⟨(encStr s.data.toList).toArray⟩) := by
        refine Lib.hid (ba_of ?_)
        rw [← data_of, bap, HS.out, encStr_can, List.take_of_length_le (by rw [← Lib.size_eq]; omega)]
      clear hk
      go_wp2_with (fail)
      refine HV.out.mono ?_
      rintro e w2 ⟨rfl, hb⟩
      have HB := Lib.hid hb
      clear hb
      go_wp2_with (fail)
      go_ret2
      exact ⟨⟨_, by rw [HE.out]; rfl⟩, HB.out⟩
    | succ g2 =>
      have hlt : k < s.size := by omega
      have hki : (k : Int) < (s.size : Int) := by omega
      have hk1 : k + 1 + g2 = s.size := by omega
      have HT : Hid (canB (s.data.toList.take (k + 1)) = canB (s.data.toList.take k) ++ (if s[k] = 34 ∨ s[k] = 92 then [92, s[k]] else [s[k]])) := Lib.hid (by rw [take_one hlt, canB_snoc])
      have hEz : (s.extract k (k + 1)).size = 1 := by rw [Lib.size_eq, ext_one hlt]; rfl
      have HX := Lib.hid (ext_one hlt)
      have hw : IntKind.i64.wrap ((k : Int) + 1) = (k : Int) + 1 := by rw [IntKind.wrap_i64]; omega
      clear hk
      by_cases h1 : s[k] = 34
      · have i1 : ((s[k].toNat : Int) == 34) = true := by rw [h1]; rfl
        have HT2 : Hid (34 :: canB (s.data.toList.take (k + 1)) = ((S ++ (⟨#[92]⟩ : ByteArray)) ++ s.extract k (k + 1)).data.toList) := Lib.hid (by rw [bap, bap, HX.out, HS.out, HT.out, if_pos (.inl h1)]; simp)
        have hz2 : (S ++ (⟨#[92]⟩ : ByteArray)).size = S.size + 1 := bapz _ _
        clear h1
        go_wp2_with (fail)
        go_roundg g2
        case measure => omega
        case rel => exact ⟨k + 1, _, hk1, by first | rfl | go_num, rfl, rfl, Lib.hid HT2.out.symm⟩
      · have i1 : ((s[k].toNat : Int) == 34) = false := by
          rw [beq_eq_false_iff_ne]; intro e; exact h1 (UInt8.toNat_inj.1 (by simpa using (by exact_mod_cast e : s[k].toNat = 34)))
        by_cases h2 : s[k] = 92
        · have i2 : ((s[k].toNat : Int) == 92) = true := by rw [h2]; rfl
          have HT2 : Hid (34 :: canB (s.data.toList.take (k + 1)) = ((S ++ (⟨#[92]⟩ : ByteArray)) ++ s.extract k (k + 1)).data.toList) := Lib.hid (by rw [bap, bap, HX.out, HS.out, HT.out, if_pos (.inr h2)]; simp)
          have hz2 : (S ++ (⟨#[92]⟩ : ByteArray)).size = S.size + 1 := bapz _ _
          clear h1 h2
          go_wp2_with (fail)
          go_roundg g2
          case measure => omega
          case rel => exact ⟨k + 1, _, hk1, by first | rfl | go_num, rfl, rfl, Lib.hid HT2.out.symm⟩
        · have i2 : ((s[k].toNat : Int) == 92) = false := by
            rw [beq_eq_false_iff_ne]; intro e; exact h2 (UInt8.toNat_inj.1 (by simpa using (by exact_mod_cast e : s[k].toNat = 92)))
          have HT2 : Hid (34 :: canB (s.data.toList.take (k + 1)) = (S ++ s.extract k (k + 1)).data.toList) := Lib.hid (by rw [bap, HX.out, HS.out, HT.out, if_neg (by intro h; rcases h with h | h; exact h1 h; exact h2 h)]; simp)
          clear h1 h2
          go_wp2_with (fail)
          go_roundg g2
          case measure => omega
          case rel => exact ⟨k + 1, _, hk1, by first | rfl | go_num, rfl, rfl, Lib.hid HT2.out.symm⟩
end Go.Proofs.YtjganhmbjffjfaaGreatDoor
