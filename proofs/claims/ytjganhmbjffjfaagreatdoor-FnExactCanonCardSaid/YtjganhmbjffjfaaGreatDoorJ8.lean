/- The reader's decorateString. -/
import Derived.Test.YtjganhmbjffjfaaGreatDoorP3
import Derived.Test.YtjganhmbjffjfaaGreatDoorJ3
import Derived.Test.YtjganhmbjffjfaaGreatDoorB3
import Derived.Laws.IdiomStrings
import Derived.LoopN
import Derived.Lib.SlBytesConst
import Derived.Lib.ConvBytes
import Derived.Lib.AtoiErrMem
import Derived.Deep.RegionWith
import Derived.Deep.LoopGhost
import Derived.Lib.Strings
open Go Go.RowKit
namespace Go.Proofs.YtjganhmbjffjfaaGreatDoor


theorem u8_and_nat (x : UInt8) : bits .and .u8 (x.toNat : Int) 15 = ((x.toNat % 16 : Nat) : Int) := by
  have := UInt8.toNat_lt x
  have h1 : (BitVec.ofInt 8 (x.toNat : Int)).toNat = x.toNat := by
    rw [BitVec.ofInt_natCast, BitVec.toNat_ofNat]; exact Nat.mod_eq_of_lt (by omega)
  have h2 : (BitVec.ofInt 8 (15 : Int)).toNat = 15 := by decide
  show IntKind.u8.wrap ((BitVec.ofInt 8 (x.toNat : Int) &&& BitVec.ofInt 8 (15 : Int)).toNat : Int) = _
  have h3 : x.toNat &&& 15 = x.toNat % 16 := Nat.and_two_pow_sub_one_eq_mod _ 4
  rw [BitVec.toNat_and, h1, h2, IntKind.wrap_u8, h3]
  omega
theorem conv_new2 (w : World) (c1 c0 : UInt8) : (convert 31 9 (.slice (some ⟨w.heap.size, 0, none⟩) 2 2)).run Tryz.prog (w.alloc (.cells #[.int .u8 c1.toNat, .int .u8 c0.toNat] 5)).drew = .ok (.string ⟨#[c1, c0]⟩) (w.alloc (.cells #[.int .u8 c1.toNat, .int .u8 c0.toNat] 5)).drew := by
  refine run_convert_bytes_back _ _ _ 5 ⟨w.heap.size, 0, none⟩ 2 [c1, c0] Tryz.underlying31 Tryz.underlying5 Tryz.underlying9 fun j hj => ?_
  have ha : (w.alloc (.cells #[.int .u8 c1.toNat, .int .u8 c0.toNat] 5)).heap[w.heap.size]? = some (.cells #[.int .u8 c1.toNat, .int .u8 c0.toNat] 5) := by rw [World.alloc]; simp
  have hadd : ((⟨w.heap.size, 0, none⟩ : Addr).add j) = ⟨w.heap.size, j, none⟩ := by simp [Addr.add]; omega
  rw [hadd]
  show (w.alloc _).cell? _ = _
  rw [World.cell?, ha]
  match j, hj with
  | 0, _ => rfl
  | 1, _ => rfl
  | j + 2, h => exact absurd h (by simp)
theorem hexB_at (d : Nat) (h : d < (⟨#[48, 49, 50, 51, 52, 53, 54, 55, 56, 57, 97, 98, 99, 100, 101, 102]⟩ : ByteArray).size) : (⟨#[48, 49, 50, 51, 52, 53, 54, 55, 56, 57, 97, 98, 99, 100, 101, 102]⟩ : ByteArray)[d] = hexB d := by
  have h' : d < 16 := h
  match d, h' with
  | 0, _ => rfl
  | 1, _ => rfl
  | 2, _ => rfl
  | 3, _ => rfl
  | 4, _ => rfl
  | 5, _ => rfl
  | 6, _ => rfl
  | 7, _ => rfl
  | 8, _ => rfl
  | 9, _ => rfl
  | 10, _ => rfl
  | 11, _ => rfl
  | 12, _ => rfl
  | 13, _ => rfl
  | 14, _ => rfl
  | 15, _ => rfl
  | n + 16, h => exact absurd h (by omega)
structure DRel (R b rb : Nat) (s : List UInt8) (W0 : World) (k : Nat) (wr : World) : Prop where
  pb : PB R b (34 :: (s.take k).flatMap decB) wr
  fr : FrR R b W0 wr
  row : wr.heap[rb]? = W0.heap[rb]?
  rlt : rb < wr.heap.size
  rne : bRow wr b ≠ some rb
theorem DRel.step {R b rb : Nat} {s : List UInt8} {W0 wr W1 : World} {k : Nat} {l : List UInt8} (h : DRel R b rb s W0 k wr) (hb : rb ≠ b) (hf : FrR R b wr W1) (hk : Kp b wr W1) (hP : PB R b l W1) {k' : Nat} (hl : l = 34 :: (s.take k').flatMap decB) : DRel R b rb s W0 k' W1 := by
  obtain ⟨h1, h2⟩ := hk.2 rb h.rlt hb h.rne
  exact ⟨by rw [← hl]; exact hP, h.fr.trans hf, h1.trans h.row, Nat.lt_of_lt_of_le h.rlt hk.1, h2⟩
theorem take_flat {s : List UInt8} {k : Nat} {x : UInt8} (hx : s[k]? = some x) : 34 :: (s.take (k + 1)).flatMap decB = (34 :: (s.take k).flatMap decB) ++ decB x := by
  rw [List.take_add_one, hx]; simp

set_option maxRecDepth 100000 in
set_option maxHeartbeats 8000000 in
theorem deco_any (p : Value) (s : ByteArray) (w : World) (hs : s.size ≤ 4294967296) (_ : True) :
    Calls Tryz.prog 113 #[p, .string s] w fun e w' => e = .returned (.string ⟨(deco s.data.toList).toArray⟩) ∧ Below w.heap.size w w' := by
  have hcv := fun w => Lib.run_convert_string_bytes (P := Tryz.prog) w 9 31 5 s (u := .string) Tryz.underlying9 Tryz.underlying31 Tryz.underlying5
  have kc := fun (w : World) (C : Array Value) (n c : Nat) => Lib.run_convert_bytes_const (P := Tryz.prog) w 31 5 C n c Tryz.underlying31 Tryz.underlying5
  have HS0 : Hid (PB (w.heap.size + 1) w.heap.size [] (w.alloc (.cells #[.pointer none, .slice none 0 0] 134))) := PB.new (by rw [World.alloc]; simp) (by simp)
  obtain ⟨bs, hL⟩ : ∃ bs, bs = s.data.toList := ⟨_, rfl⟩
  have hLn : s.size = bs.length := by rw [hL, Lib.size_eq]
  rw [← hL]
  have HLn := Lib.hid hLn
  have HL := Lib.hid hL
  clear hL hLn
  go_enter Tryz.func113, Tryz.ntmps113
  go_wp2
  go_step3
  go_wp2_with (fail)
  refine (writeByte_pb 34 HS0.out (by simp)).mono ?_
  rintro e w1 ⟨rfl, hf1, _, hS1⟩
  go_wp2
  go_step3
  have hb1 := hcv w1
  have hbel := Lib.bytesWorld_below w1 5 s
  have hcell : ∀ j, j < s.size → (Lib.bytesWorld w1 5 s).cell? ⟨w1.heap.size, j, none⟩ = some (.int .u8 (s.data.toList.getD j 0).toNat) := fun j hj => Lib.bytesWorld_cell w1 5 s j hj
  have hsz := Lib.bytesWorld_size w1 5 s
  obtain ⟨W1, hW1⟩ : ∃ W1, W1 = Lib.bytesWorld w1 5 s := ⟨_, rfl⟩
  rw [← hW1] at hb1 hbel hcell hsz
  clear hW1 hcv
  rw [← HL.out] at hcell
  have hlt1 : w.heap.size < w1.heap.size := hS1.lt
  have HD0 : Hid (DRel (w.heap.size + 1) w.heap.size w1.heap.size bs W1 0 W1) := ⟨hS1.below hbel, FrR.refl _ _ _, rfl, by omega, by
    unfold bRow; rw [hbel.block _ hlt1]; exact hS1.rowlt _ (Nat.le_refl _)⟩
  have HB1 : Hid (FrR (w.heap.size + 1) w.heap.size (w.alloc (.cells #[.pointer none, .slice none 0 0] 134)) W1) := hf1.below (by omega) hbel
  have HC := Lib.hid hcell
  clear hcell hsz hbel hS1 hf1 HS0
  go_wp2
  go_loopg [14] bs.length (fun kq v14 wr => ∃ k : Nat, v14 = .int .i64 k ∧ k ≤ s.size ∧ Hid (kq + k = bs.length) ∧ DRel (w.heap.size + 1) w.heap.size w1.heap.size bs W1 k wr)
  case atStart => exact ⟨0, rfl, by omega, rfl, HD0.out⟩
  case round =>
    obtain ⟨k, rfl, hk, hkq, hD⟩ := hrel
    clear HD0
    by_cases hlt : k < s.size
    ·   have hkl : k < bs.length := by have := HLn.out; omega
        obtain ⟨x, hx⟩ : ∃ x, bs[k]? = some x := ⟨_, List.getElem?_eq_getElem hkl⟩
        have hc : wr.cell? ⟨w1.heap.size, k, none⟩ = some (.int .u8 x.toNat) := by
          rw [World.cell?_of_block (w := W1) (by exact hD.row)]
          rw [HC.out k hlt, List.getD_eq_getElem?_getD, hx]; rfl
        have hxm : x ∈ bs := List.mem_of_getElem? hx
        have HX := Lib.hid hx
        have kc := fun (w : World) (C : Array Value) (n c : Nat) => Lib.run_convert_bytes_const (P := Tryz.prog) w 31 5 C n c Tryz.underlying31 Tryz.underlying5
        have hk' : ∀ (k : Nat) (v : Value), (#[Value.int IntKind.u8 92, Value.int IntKind.u8 34, Value.int IntKind.u8 8, Value.int IntKind.u8 12, Value.int IntKind.u8 10, Value.int IntKind.u8 13, Value.int IntKind.u8 9] : Array Value)[k]? = some v → (wr.alloc (.cells #[Value.int IntKind.u8 92, Value.int IntKind.u8 34, Value.int IntKind.u8 8, Value.int IntKind.u8 12, Value.int IntKind.u8 10, Value.int IntKind.u8 13, Value.int IntKind.u8 9] 5 (7, 8))).cell? ⟨wr.heap.size, k, none⟩ = some v := fun k v h => by
          rw [World.cell?, World.alloc]; simp [h]
        have k0 := hk' 0 _ rfl
        have k1 := hk' 1 _ rfl
        have k2 := hk' 2 _ rfl
        have k3 := hk' 3 _ rfl
        have k4 := hk' 4 _ rfl
        have k5 := hk' 5 _ rfl
        have k6 := hk' 6 _ rfl
        have hbw : Below wr.heap.size wr (wr.alloc (.cells #[Value.int IntKind.u8 92, Value.int IntKind.u8 34, Value.int IntKind.u8 8, Value.int IntKind.u8 12, Value.int IntKind.u8 10, Value.int IntKind.u8 13, Value.int IntKind.u8 9] 5 (7, 8))) := (Below.refl _ _).alloc (Nat.le_refl _) _
        have HP2 := Lib.hid (hD.pb.below hbw)
        have HF2 := Lib.hid ((FrR.refl (w.heap.size + 1) w.heap.size wr).below (by obtain ⟨_, _, _, _, _, _, h5⟩ := hD.pb; exact h5) hbw)
        have HK2 := Lib.hid (Kp.below hD.pb.lt hbw)
        have hfl : (34 :: (bs.take k).flatMap decB).length ≤ 140737488355000 := by
          have := flat_len (bs.take k)
          have h2 : (bs.take k).length ≤ bs.length := List.length_take_le' _ _
          have := HLn.out
          simp only [List.length_cons]; omega
        have HFL := Lib.hid hfl
        have HD := Lib.hid hD
        clear hk' hx hxm hbw hkl hD hfl
        by_cases h92 : x = 92
        ·   subst h92
            go_wp2_with (fail)
            refine wp_loop_rounds 8 ?_
            rw [rounds_succ]
            go_wp2_with (fail)
            refine (writeByte_pb 92 HP2.out (by have := HFL.out; omega)).mono ?_
            rintro e w3 ⟨rfl, hf3, hk3, hS3⟩
            have HP3 := Lib.hid hS3
            have HF3 := Lib.hid (HF2.out.trans hf3)
            have HK3 := Lib.hid (HK2.out.trans hk3)
            clear hS3 hf3 hk3
            go_wp2_with (fail)
            refine (writeByte_pb 92 HP3.out (by have := HFL.out; simp only [List.length_append, List.length_singleton]; omega)).mono ?_
            rintro e w4 ⟨rfl, hf4, hk4, hS4⟩
            have hl : Hid (34 :: (bs.take k).flatMap decB ++ [92] ++ [92] = 34 :: (bs.take (k + 1)).flatMap decB) := by
              show _ = _
              rw [take_flat HX.out]; simp [decB, binE]
            go_wp2
            go_roundg (bs.length - (k + 1))
            case measure => have := hkq.out; have := HLn.out; omega
            case rel => exact ⟨k + 1, by go_num, by omega, by show _ = _; have := HLn.out; omega, HD.out.step (by omega) (HF3.out.trans hf4) (HK3.out.trans hk4) hS4 hl⟩
        by_cases h34 : x = 34
        ·   subst h34
            go_wp2_with (fail)
            refine wp_loop_rounds 8 ?_
            rw [rounds_succ]
            go_wp2_with (fail)
            rw [rounds_succ]
            go_wp2_with (fail)
            refine (writeByte_pb 92 HP2.out (by have := HFL.out; omega)).mono ?_
            rintro e w3 ⟨rfl, hf3, hk3, hS3⟩
            have HP3 := Lib.hid hS3
            have HF3 := Lib.hid (HF2.out.trans hf3)
            have HK3 := Lib.hid (HK2.out.trans hk3)
            clear hS3 hf3 hk3
            go_wp2_with (fail)
            refine (writeByte_pb 34 HP3.out (by have := HFL.out; simp only [List.length_append, List.length_singleton]; omega)).mono ?_
            rintro e w4 ⟨rfl, hf4, hk4, hS4⟩
            have hl : Hid (34 :: (bs.take k).flatMap decB ++ [92] ++ [34] = 34 :: (bs.take (k + 1)).flatMap decB) := by
              show _ = _
              rw [take_flat HX.out]; simp [decB, binE]
            go_wp2
            go_roundg (bs.length - (k + 1))
            case measure => have := hkq.out; have := HLn.out; omega
            case rel => exact ⟨k + 1, by go_num, by omega, by show _ = _; have := HLn.out; omega, HD.out.step (by omega) (HF3.out.trans hf4) (HK3.out.trans hk4) hS4 hl⟩
        by_cases h8 : x = 8
        ·   subst h8
            go_wp2_with (fail)
            refine wp_loop_rounds 8 ?_
            rw [rounds_succ]
            go_wp2_with (fail)
            rw [rounds_succ]
            go_wp2_with (fail)
            rw [rounds_succ]
            go_wp2_with (fail)
            refine (writeByte_pb 92 HP2.out (by have := HFL.out; omega)).mono ?_
            rintro e w3 ⟨rfl, hf3, hk3, hS3⟩
            have HP3 := Lib.hid hS3
            have HF3 := Lib.hid (HF2.out.trans hf3)
            have HK3 := Lib.hid (HK2.out.trans hk3)
            clear hS3 hf3 hk3
            go_wp2_with (fail)
            refine (writeByte_pb 98 HP3.out (by have := HFL.out; simp only [List.length_append, List.length_singleton]; omega)).mono ?_
            rintro e w4 ⟨rfl, hf4, hk4, hS4⟩
            have hl : Hid (34 :: (bs.take k).flatMap decB ++ [92] ++ [98] = 34 :: (bs.take (k + 1)).flatMap decB) := by
              show _ = _
              rw [take_flat HX.out]; simp [decB, binE]
            go_wp2
            go_roundg (bs.length - (k + 1))
            case measure => have := hkq.out; have := HLn.out; omega
            case rel => exact ⟨k + 1, by go_num, by omega, by show _ = _; have := HLn.out; omega, HD.out.step (by omega) (HF3.out.trans hf4) (HK3.out.trans hk4) hS4 hl⟩
        by_cases h12 : x = 12
        ·   subst h12
            go_wp2_with (fail)
            refine wp_loop_rounds 8 ?_
            rw [rounds_succ]
            go_wp2_with (fail)
            rw [rounds_succ]
            go_wp2_with (fail)
            rw [rounds_succ]
            go_wp2_with (fail)
            rw [rounds_succ]
            go_wp2_with (fail)
            refine (writeByte_pb 92 HP2.out (by have := HFL.out; omega)).mono ?_
            rintro e w3 ⟨rfl, hf3, hk3, hS3⟩
            have HP3 := Lib.hid hS3
            have HF3 := Lib.hid (HF2.out.trans hf3)
            have HK3 := Lib.hid (HK2.out.trans hk3)
            clear hS3 hf3 hk3
            go_wp2_with (fail)
            refine (writeByte_pb 102 HP3.out (by have := HFL.out; simp only [List.length_append, List.length_singleton]; omega)).mono ?_
            rintro e w4 ⟨rfl, hf4, hk4, hS4⟩
            have hl : Hid (34 :: (bs.take k).flatMap decB ++ [92] ++ [102] = 34 :: (bs.take (k + 1)).flatMap decB) := by
              show _ = _
              rw [take_flat HX.out]; simp [decB, binE]
            go_wp2
            go_roundg (bs.length - (k + 1))
            case measure => have := hkq.out; have := HLn.out; omega
            case rel => exact ⟨k + 1, by go_num, by omega, by show _ = _; have := HLn.out; omega, HD.out.step (by omega) (HF3.out.trans hf4) (HK3.out.trans hk4) hS4 hl⟩
        by_cases h10 : x = 10
        ·   subst h10
            go_wp2_with (fail)
            refine wp_loop_rounds 8 ?_
            rw [rounds_succ]
            go_wp2_with (fail)
            rw [rounds_succ]
            go_wp2_with (fail)
            rw [rounds_succ]
            go_wp2_with (fail)
            rw [rounds_succ]
            go_wp2_with (fail)
            rw [rounds_succ]
            go_wp2_with (fail)
            refine (writeByte_pb 92 HP2.out (by have := HFL.out; omega)).mono ?_
            rintro e w3 ⟨rfl, hf3, hk3, hS3⟩
            have HP3 := Lib.hid hS3
            have HF3 := Lib.hid (HF2.out.trans hf3)
            have HK3 := Lib.hid (HK2.out.trans hk3)
            clear hS3 hf3 hk3
            go_wp2_with (fail)
            refine (writeByte_pb 110 HP3.out (by have := HFL.out; simp only [List.length_append, List.length_singleton]; omega)).mono ?_
            rintro e w4 ⟨rfl, hf4, hk4, hS4⟩
            have hl : Hid (34 :: (bs.take k).flatMap decB ++ [92] ++ [110] = 34 :: (bs.take (k + 1)).flatMap decB) := by
              show _ = _
              rw [take_flat HX.out]; simp [decB, binE]
            go_wp2
            go_roundg (bs.length - (k + 1))
            case measure => have := hkq.out; have := HLn.out; omega
            case rel => exact ⟨k + 1, by go_num, by omega, by show _ = _; have := HLn.out; omega, HD.out.step (by omega) (HF3.out.trans hf4) (HK3.out.trans hk4) hS4 hl⟩
        by_cases h13 : x = 13
        ·   subst h13
            go_wp2_with (fail)
            refine wp_loop_rounds 8 ?_
            rw [rounds_succ]
            go_wp2_with (fail)
            rw [rounds_succ]
            go_wp2_with (fail)
            rw [rounds_succ]
            go_wp2_with (fail)
            rw [rounds_succ]
            go_wp2_with (fail)
            rw [rounds_succ]
            go_wp2_with (fail)
            rw [rounds_succ]
            go_wp2_with (fail)
            refine (writeByte_pb 92 HP2.out (by have := HFL.out; omega)).mono ?_
            rintro e w3 ⟨rfl, hf3, hk3, hS3⟩
            have HP3 := Lib.hid hS3
            have HF3 := Lib.hid (HF2.out.trans hf3)
            have HK3 := Lib.hid (HK2.out.trans hk3)
            clear hS3 hf3 hk3
            go_wp2_with (fail)
            refine (writeByte_pb 114 HP3.out (by have := HFL.out; simp only [List.length_append, List.length_singleton]; omega)).mono ?_
            rintro e w4 ⟨rfl, hf4, hk4, hS4⟩
            have hl : Hid (34 :: (bs.take k).flatMap decB ++ [92] ++ [114] = 34 :: (bs.take (k + 1)).flatMap decB) := by
              show _ = _
              rw [take_flat HX.out]; simp [decB, binE]
            go_wp2
            go_roundg (bs.length - (k + 1))
            case measure => have := hkq.out; have := HLn.out; omega
            case rel => exact ⟨k + 1, by go_num, by omega, by show _ = _; have := HLn.out; omega, HD.out.step (by omega) (HF3.out.trans hf4) (HK3.out.trans hk4) hS4 hl⟩
        by_cases h9 : x = 9
        ·   subst h9
            go_wp2_with (fail)
            refine wp_loop_rounds 8 ?_
            rw [rounds_succ]
            go_wp2_with (fail)
            rw [rounds_succ]
            go_wp2_with (fail)
            rw [rounds_succ]
            go_wp2_with (fail)
            rw [rounds_succ]
            go_wp2_with (fail)
            rw [rounds_succ]
            go_wp2_with (fail)
            rw [rounds_succ]
            go_wp2_with (fail)
            rw [rounds_succ]
            go_wp2_with (fail)
            refine (writeByte_pb 92 HP2.out (by have := HFL.out; omega)).mono ?_
            rintro e w3 ⟨rfl, hf3, hk3, hS3⟩
            have HP3 := Lib.hid hS3
            have HF3 := Lib.hid (HF2.out.trans hf3)
            have HK3 := Lib.hid (HK2.out.trans hk3)
            clear hS3 hf3 hk3
            go_wp2_with (fail)
            refine (writeByte_pb 116 HP3.out (by have := HFL.out; simp only [List.length_append, List.length_singleton]; omega)).mono ?_
            rintro e w4 ⟨rfl, hf4, hk4, hS4⟩
            have hl : Hid (34 :: (bs.take k).flatMap decB ++ [92] ++ [116] = 34 :: (bs.take (k + 1)).flatMap decB) := by
              show _ = _
              rw [take_flat HX.out]; simp [decB, binE]
            go_wp2
            go_roundg (bs.length - (k + 1))
            case measure => have := hkq.out; have := HLn.out; omega
            case rel => exact ⟨k + 1, by go_num, by omega, by show _ = _; have := HLn.out; omega, HD.out.step (by omega) (HF3.out.trans hf4) (HK3.out.trans hk4) hS4 hl⟩
        have hbe : binE x = none := by
          unfold binE
          rw [if_neg h92, if_neg h34, if_neg h8, if_neg h12, if_neg h10, if_neg h13, if_neg h9]
        have e92 : ((92 : Int) == (x.toNat : Int)) = false := (BEq.comm).trans (u8_ne (n := 92) (by omega) h92)
        have e34 : ((34 : Int) == (x.toNat : Int)) = false := (BEq.comm).trans (u8_ne (n := 34) (by omega) h34)
        have e8 : ((8 : Int) == (x.toNat : Int)) = false := (BEq.comm).trans (u8_ne (n := 8) (by omega) h8)
        have e12 : ((12 : Int) == (x.toNat : Int)) = false := (BEq.comm).trans (u8_ne (n := 12) (by omega) h12)
        have e10 : ((10 : Int) == (x.toNat : Int)) = false := (BEq.comm).trans (u8_ne (n := 10) (by omega) h10)
        have e13 : ((13 : Int) == (x.toNat : Int)) = false := (BEq.comm).trans (u8_ne (n := 13) (by omega) h13)
        have e9 : ((9 : Int) == (x.toNat : Int)) = false := (BEq.comm).trans (u8_ne (n := 9) (by omega) h9)
        by_cases h32n : x.toNat < 32
        ·   obtain ⟨d0, hd0⟩ : ∃ d, d = x.toNat % 16 := ⟨_, rfl⟩
            obtain ⟨d1, hd1⟩ : ∃ d, d = x.toNat / 16 := ⟨_, rfl⟩
            have hl : Hid (34 :: (bs.take k).flatMap decB ++ [92, 117, 48, 48, hexB d1, hexB d0] = 34 :: (bs.take (k + 1)).flatMap decB) := by
              show _ = _
              rw [take_flat HX.out]
              unfold decB
              rw [hbe]
              simp only
              rw [if_pos h32n, hd0, hd1]
            have n0 : (0 : Int) ≤ (x.toNat : Int) := by omega
            have n1 : (x.toNat : Int) < 32 := by omega
            have x0 : bits .and .u8 (x.toNat : Int) 15 = (d0 : Int) := by rw [u8_and_nat, hd0]
            have x1 : (x.toNat : Int) / 16 = (d1 : Int) := by rw [hd1]; omega
            have s0 : d0 < (⟨#[48, 49, 50, 51, 52, 53, 54, 55, 56, 57, 97, 98, 99, 100, 101, 102]⟩ : ByteArray).size := by show _ < 16; omega
            have s1 : d1 < (⟨#[48, 49, 50, 51, 52, 53, 54, 55, 56, 57, 97, 98, 99, 100, 101, 102]⟩ : ByteArray).size := by show _ < 16; omega
            have b0 : (d0 : Int) < 16 := by omega
            have b1 : (d1 : Int) < 16 := by omega
            have z0 : (0 : Int) ≤ (d0 : Int) := by omega
            have z1 : (0 : Int) ≤ (d1 : Int) := by omega
            have hcv := conv_new2
            clear h92 h34 h8 h12 h10 h13 h9 hbe hd0 hd1 h32n
            go_wp2_with (fail)
            refine wp_loop_rounds 8 ?_
            rw [rounds_succ]
            go_wp2_with (fail)
            rw [rounds_succ]
            go_wp2_with (fail)
            rw [rounds_succ]
            go_wp2_with (fail)
            rw [rounds_succ]
            go_wp2_with (fail)
            rw [rounds_succ]
            go_wp2_with (fail)
            rw [rounds_succ]
            go_wp2_with (fail)
            rw [rounds_succ]
            go_wp2_with (fail)
            rw [rounds_succ]
            go_wp2_with (fail)
            have HT : Hid ((⟨#[92, 117, 48, 48]⟩ ++ ⟨#[(⟨#[48, 49, 50, 51, 52, 53, 54, 55, 56, 57, 97, 98, 99, 100, 101, 102]⟩ : ByteArray)[d1], (⟨#[48, 49, 50, 51, 52, 53, 54, 55, 56, 57, 97, 98, 99, 100, 101, 102]⟩ : ByteArray)[d0]]⟩ : ByteArray).data.toList = [92, 117, 48, 48, hexB d1, hexB d0]) := by
              show _ = _
              rw [hexB_at d1 s1, hexB_at d0 s0]; rfl
            clear k0 k1 k2 k3 k4 k5 k6
            generalize hW : wr.alloc (.cells #[Value.int IntKind.u8 92, Value.int IntKind.u8 34, Value.int IntKind.u8 8, Value.int IntKind.u8 12, Value.int IntKind.u8 10, Value.int IntKind.u8 13, Value.int IntKind.u8 9] 5 (7, 8)) = W at HP2 HF2 HK2 ⊢
            go_region_with (go_at_call 92; refine (writeString_pb _ (HP2.out.below ((Below.refl _ _).alloc (Nat.le_refl _) _).drew) (by have := HFL.out; show _ + 6 ≤ _; omega)).mono ?_; rintro e w3 ⟨rfl, hf3, hk3, hS3⟩)
            all_goals
              rw [HT.out] at hS3
              have HF3 := Lib.hid ((HF2.out.trans ((FrR.refl (w.heap.size + 1) w.heap.size _).below (by obtain ⟨_, _, _, _, _, _, h5⟩ := HP2.out; exact h5) ((Below.refl _ _).alloc (Nat.le_refl _) _).drew)).trans hf3)
              have HK3 := Lib.hid ((HK2.out.trans (Kp.below HP2.out.lt ((Below.refl _ _).alloc (Nat.le_refl _) _).drew)).trans hk3)
              have HS3 := Lib.hid hS3
              clear hS3 hf3 hk3
              go_wp2
              go_roundg (bs.length - (k + 1))
              case measure => have := hkq.out; have := HLn.out; omega
              case rel => exact ⟨k + 1, by go_num, by omega, by show _ = _; have := HLn.out; omega, HD.out.step (by omega) HF3.out HK3.out HS3.out hl⟩
        have h32 : (32 : Int) ≤ (x.toNat : Int) := by omega
        have hl : Hid (34 :: (bs.take k).flatMap decB ++ [x] = 34 :: (bs.take (k + 1)).flatMap decB) := by
          show _ = _
          rw [take_flat HX.out]
          unfold decB
          rw [hbe]
          simp only
          rw [if_neg (by omega)]
        clear h92 h34 h8 h12 h10 h13 h9 hbe
        go_wp2_with (fail)
        refine wp_loop_rounds 8 ?_
        rw [rounds_succ]
        go_wp2_with (fail)
        rw [rounds_succ]
        go_wp2_with (fail)
        rw [rounds_succ]
        go_wp2_with (fail)
        rw [rounds_succ]
        go_wp2_with (fail)
        rw [rounds_succ]
        go_wp2_with (fail)
        rw [rounds_succ]
        go_wp2_with (fail)
        rw [rounds_succ]
        go_wp2_with (fail)
        rw [rounds_succ]
        go_wp2_with (fail)
        refine (writeByte_pb x HP2.out (by have := HFL.out; omega)).mono ?_
        rintro e w3 ⟨rfl, hf3, hk3, hS3⟩
        go_wp2
        go_roundg (bs.length - (k + 1))
        case measure => have := hkq.out; have := HLn.out; omega
        case rel => exact ⟨k + 1, by go_num, by omega, by show _ = _; have := HLn.out; omega, HD.out.step (by omega) (HF2.out.trans hf3) (HK2.out.trans hk3) hS3 hl⟩
    ·   have hkb : k = bs.length := by have := HLn.out; omega
        have HD := Lib.hid hD
        have HKB := Lib.hid hkb
        clear hD hkb
        go_wp2_with (fail)
        refine (writeByte_pb 34 HD.out.pb (by
          have := flat_len (bs.take k)
          have h2 : (bs.take k).length ≤ bs.length := List.length_take_le' _ _
          have := HLn.out
          simp only [List.length_cons]; omega)).mono ?_
        rintro e w3 ⟨rfl, hf3, hk3, hS3⟩
        have HF3 := Lib.hid hf3
        go_wp2_with (fail)
        refine (bString_any hS3.to).mono ?_
        rintro e w4 ⟨rfl, hb4⟩
        go_wp2
        rw [Exit.noGoto_ret]
        go_ret
        refine ⟨?_, ?_⟩
        · have : deco bs = 34 :: ((bs.take k).flatMap decB ++ [34]) := by
            rw [deco, List.take_of_length_le (by have := HKB.out; omega)]; rfl
          rw [this]; rfl
        · have h1 : Below w.heap.size w (w.alloc (.cells #[.pointer none, .slice none 0 0] 134)) := (Below.refl _ _).alloc (Nat.le_refl _) _
          have h2 := (HB1.out.trans (HD.out.fr.trans HF3.out)).toBelow (B := w.heap.size) (by omega) (Nat.le_refl _)
          rw [Nat.min_eq_right (by omega)] at hb4
          exact (h1.trans h2).trans hb4
end Go.Proofs.YtjganhmbjffjfaaGreatDoor
