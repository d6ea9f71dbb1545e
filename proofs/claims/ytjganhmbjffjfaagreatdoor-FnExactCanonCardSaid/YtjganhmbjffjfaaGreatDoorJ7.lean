/- The reader's parseQuotedString. -/
import Derived.Test.YtjganhmbjffjfaaGreatDoorJ6
import Derived.Test.YtjganhmbjffjfaaGreatDoorP3
import Derived.Test.YtjganhmbjffjfaaGreatDoorB3
import Derived.LoopN
import Derived.Lib.SlBytesConst
import Derived.Deep.RegionHeld3
open Go Go.RowKit
namespace Go.Proofs.YtjganhmbjffjfaaGreatDoor

/-- What parseQuotedString comes to. -/
def QPost (res : Option (List UInt8 × List UInt8)) (w : World) (j : Nat) (A : Option Addr) (c : Nat) (D : List UInt8) (d : Nat) (e : Ending) (w' : World) : Prop :=
  Fr j w w' ∧ match res with
  | some (s, r) => e = .returned (.tuple #[.string ⟨s.toArray⟩, .nilIface]) ∧ JR w' j A c D r d
  | none => (∃ v, IsErr v ∧ e = .returned (.tuple #[.string ⟨#[]⟩, v])) ∧ ∃ r, JR w' j A c D r d

theorem JR.at {w : World} {j : Nat} {A : Option Addr} {c : Nat} {D : List UInt8} {x : UInt8} {r : List UInt8} {d : Nat} (h : JR w j A c D (x :: r) d) :
    ∃ i b off, JW w j A c D i d ∧ D.drop i = x :: r ∧ i < D.length ∧ A = some ⟨b, off, none⟩ ∧ w.cell? ⟨b, off + i, none⟩ = some (.int .u8 x.toNat) ∧ b ≠ j ∧ b < w.heap.size := by
  obtain ⟨i, hJ, hD⟩ := h
  have hx := (drop_cons hD).1
  obtain ⟨b, off, e, h1, h2, h3⟩ := hJ.dat i x hx
  exact ⟨i, b, off, hJ, hD, (List.getElem?_eq_some_iff.1 hx).1, e, h3, h1, h2⟩

theorem Fr.frR {j R b : Nat} {a w w' : World} (h : Fr j a w) (k : FrR R b w w') (hR : a.heap.size ≤ R) (hb : a.heap.size ≤ b) : Fr j a w' :=
  ⟨k.os.trans h.os, k.tape.trans h.tape, k.output.trans h.output, Nat.le_trans h.size k.size, fun i hi hj => (k.block i (by omega) (by omega)).trans (h.block i hi hj)⟩
theorem JW.two {w W1 w2 : World} {j : Nat} {A : Option Addr} {c : Nat} {D : List UInt8} {i0 d0 i d : Nat} (h0 : JW w j A c D i0 d0) (f : Fr j w w2) (h1 : JW W1 j A c D i d) (e : w2.heap[j]? = W1.heap[j]?) : JW w2 j A c D i d :=
  h0.fr f (by rw [e]; exact h1.blk) h1.ile h1.dle
theorem JR.two {w W1 w2 : World} {j : Nat} {A : Option Addr} {c : Nat} {D rest r : List UInt8} {d0 d : Nat} (h0 : JR w j A c D rest d0) (f : Fr j w w2) (h1 : JR W1 j A c D r d) (e : w2.heap[j]? = W1.heap[j]?) : JR w2 j A c D r d := by
  obtain ⟨i0, h0, _⟩ := h0
  obtain ⟨i, h1, hD⟩ := h1
  exact ⟨i, h0.two f h1 e, hD⟩
theorem pStr_go {k : Nat} {acc s bs r : List UInt8} (h : pStep s = .go bs r) : pStr (k + 1) acc s = pStr k (acc ++ bs) r := by simp [pStr, h]
theorem pStr_err {k : Nat} {acc s : List UInt8} (h : pStep s = .err) : pStr (k + 1) acc s = none := by simp [pStr, h]
theorem pStr_fin {k : Nat} {acc s r : List UInt8} (h : pStep s = .fin r) : pStr (k + 1) acc s = some (acc, r) := by simp [pStr, h]

theorem addr_add (b o t : Nat) : (⟨b, o, none⟩ : Addr).add t = ⟨b, o + t, none⟩ := by
  unfold Addr.add
  split
  · rename_i h; subst h; rfl
  · rfl
theorem decode_at {w : World} {j b off c : Nat} {D : List UInt8} {i d : Nat} {x : UInt8} {r : List UInt8} (h : JW w j (some ⟨b, off, none⟩) c D i d) (hD : D.drop i = x :: r) :
    Calls Tryz.prog 175 #[.slice (some ⟨b, off + i, none⟩) (D.length - i) (c - i)] w fun e w' =>
      e = .returned (.tuple #[.int .i32 (Lib.decodeGo ⟨(x :: r).toArray⟩).1, .int .i64 (Lib.decodeGo ⟨(x :: r).toArray⟩).2]) ∧ Below w.heap.size w w' := by
  obtain ⟨N, hN, hT⟩ := h.tl
  have hs : (⟨(x :: r).toArray⟩ : ByteArray).size = D.length - i := by rw [← hD]; simp [ByteArray.size]
  rw [← hs]
  refine Tryz.utf8_DecodeRune _ b (off + i) _ w hT.utf8 (fun t ht => ?_)
  have h1 : D[i + t]? = some ((x :: r)[t]'(by rw [hs] at ht; have := congrArg List.length hD; rw [List.length_drop] at this; omega)) := by
    rw [← List.getElem?_eq_getElem, ← hD, List.getElem?_drop]
  obtain ⟨b', off', e, _, _, h3⟩ := h.dat _ _ h1
  cases e
  rw [Nat.add_assoc, h3]
  simp [ByteArray.get!, Array.getElem!_eq_getD, Array.getD_eq_getD_getElem?, List.getElem?_eq_getElem (show t < (x :: r).length by rw [hs] at ht; have := congrArg List.length hD; rw [List.length_drop] at this; omega)]

/-- The loop's relation: what has been read. -/
def QRel (res : Option (List UInt8 × List UInt8)) (w : World) (j : Nat) (A : Option Addr) (c : Nat) (D : List UInt8) (d kq : Nat) (wr : World) (rest acc : List UInt8) : Prop :=
  Fr j w wr ∧ JR wr j A c D rest d ∧ SB (w.heap.size + 1) w.heap.size acc wr ∧ pStr kq acc rest = res ∧ rest.length < kq ∧ acc.length + rest.length ≤ D.length
/-- A round that adds bs. -/
theorem QRel.go {res : Option (List UInt8 × List UInt8)} {w wr w2 W1 : World} {j : Nat} {A : Option Addr} {c : Nat} {D s0 : List UInt8} {d d0 kq : Nat} {rest acc bs r : List UInt8}
    (h : QRel res w j A c D d (kq + 1) wr rest acc) (h0 : JR w j A c D s0 d0) (hs : pStep rest = .go bs r) (hJ : JR W1 j A c D r d) (hF : Fr j w W1) (hF2 : FrR (w.heap.size + 1) w.heap.size W1 w2) (hS : SB (w.heap.size + 1) w.heap.size (acc ++ bs) w2) :
    QRel res w j A c D d kq w2 r (acc ++ bs) := by
  obtain ⟨_, _, _, h4, h5, h6⟩ := h
  have hl := pStep_len hs
  have hjl := h0.lt
  have f2 := hF.frR hF2 (Nat.le_succ _) (Nat.le_refl _)
  have hr : r.length < rest.length := by
    match rest, hs with
    | x :: rest, hs => exact pStep_lt hs
  refine ⟨f2, h0.two f2 hJ (hF2.block j (by omega) (by omega)), hS, ?_, by omega, by rw [List.length_append]; omega⟩
  rw [← h4, pStr_go hs]
theorem QRel.go2 {res : Option (List UInt8 × List UInt8)} {w wr w2 : World} {j : Nat} {A : Option Addr} {c : Nat} {D : List UInt8} {d kq : Nat} {rest acc bs r : List UInt8}
    (h : QRel res w j A c D d (kq + 1) wr rest acc) (hs : pStep rest = .go bs r) (f2 : Fr j w w2) (hJ : JR w2 j A c D r d) (hS : SB (w.heap.size + 1) w.heap.size (acc ++ bs) w2) :
    QRel res w j A c D d kq w2 r (acc ++ bs) := by
  obtain ⟨_, _, _, h4, h5, h6⟩ := h
  have hl := pStep_len hs
  have hr : r.length < rest.length := pStep_lt hs
  refine ⟨f2, hJ, hS, ?_, by omega, by rw [List.length_append]; omega⟩
  rw [← h4, pStr_go hs]
theorem QRel.fin {res : Option (List UInt8 × List UInt8)} {w wr : World} {j : Nat} {A : Option Addr} {c : Nat} {D : List UInt8} {d kq : Nat} {rest acc r : List UInt8}
    (h : QRel res w j A c D d (kq + 1) wr rest acc) (hs : pStep rest = .fin r) : res = some (acc, r) := by
  obtain ⟨_, _, _, h4, _⟩ := h
  rw [← h4, pStr_fin hs]
theorem QRel.err {res : Option (List UInt8 × List UInt8)} {w wr : World} {j : Nat} {A : Option Addr} {c : Nat} {D : List UInt8} {d kq : Nat} {rest acc : List UInt8}
    (h : QRel res w j A c D d (kq + 1) wr rest acc) (hs : pStep rest = .err) : res = none := by
  obtain ⟨_, _, _, h4, _⟩ := h
  rw [← h4, pStr_err hs]
section
variable {res res' : Option (List UInt8 × List UInt8)} {w w' : World} {j : Nat} {A : Option Addr} {c : Nat} {D : List UInt8} {d : Nat}
theorem QPost.ok {s r : List UInt8} (he : res' = res) (h : res' = some (s, r)) (hf : Fr j w w') (hJ : JR w' j A c D r d) : QPost res w j A c D d (.returned (.tuple #[.string ⟨s.toArray⟩, .nilIface])) w' := by
  subst he; subst h; exact ⟨hf, rfl, hJ⟩
theorem QPost.no {v : Value} (he : res' = res) (h : res' = none) (hv : IsErr v) (hf : Fr j w w') (hJ : ∃ r, JR w' j A c D r d) : QPost res w j A c D d (.returned (.tuple #[.string ⟨#[]⟩, v])) w' := by
  subst he; subst h; exact ⟨hf, ⟨v, hv, rfl⟩, hJ⟩
end
theorem Fr.belowB {j : Nat} {a w w' : World} (h : Fr j a w) (hb : Below a.heap.size w w') : Fr j a w' :=
  ⟨hb.os.trans h.os, hb.tape.trans h.tape, hb.output.trans h.output, Nat.le_trans h.size hb.size, fun k hk hj => (hb.block k hk).trans (h.block k hk hj)⟩
theorem pStep_92 (r : List UInt8) : pStep (92 :: r) = esc r := rfl
theorem esc_117 (r : List UInt8) : esc (117 :: r) = uni r := rfl
theorem esc_47 (r : List UInt8) : esc (47 :: r) = .go [47] r := rfl
theorem esc_high {y : UInt8} {r : List UInt8} (h : 127 < y.toNat) : esc (y :: r) = .err := by
  have key : ∀ m : Nat, m ≤ 127 → ¬ y.toNat = m := fun m hm => by omega
  have k2 : ∀ z : UInt8, z.toNat ≤ 127 → ¬ y = z := fun z hz e => by subst e; omega
  rw [esc_cons, if_neg (k2 117 (by decide)), if_neg (k2 47 (by decide))]
  have : escB y = none := by
    unfold escB
    rw [if_neg (k2 92 (by decide)), if_neg (k2 34 (by decide)), if_neg (k2 98 (by decide)), if_neg (k2 102 (by decide)), if_neg (k2 110 (by decide)), if_neg (k2 114 (by decide)), if_neg (k2 116 (by decide))]
  rw [this]
theorem uni_none {r : List UInt8} (h : hex4 r = none) : uni r = .err := by simp [uni, h]
theorem uni_plain {r r3 : List UInt8} {n : Nat} (h : hex4 r = some (n, r3)) (hs : surr n = false) : uni r = .go (Lib.encodeRune n) r3 := by simp [uni, h, hs]
theorem uni_pair {r r3 : List UInt8} {n : Nat} (h : hex4 r = some (n, r3)) (hs : surr n = true) : uni r = pair n r3 := by simp [uni, h, hs]
theorem pair_low {r : List UInt8} {n : Nat} (h : 56319 < n) : pair n r = .err := by unfold pair; rw [if_pos h]
theorem pair_not {r : List UInt8} {n : Nat} (h : ¬ ∃ r4, r = 92 :: 117 :: r4) : pair n r = .err := by
  unfold pair
  split
  · rfl
  split
  · rename_i a b r4
    rw [if_neg (fun e => h ⟨r4, by rw [e.1, e.2]⟩)]
  · rfl
theorem pair_none {r : List UInt8} {n : Nat} (h : hex4 r = none) : pair n (92 :: 117 :: r) = .err := by
  unfold pair
  split
  · rfl
  · simp [h]
theorem pair_some {r r5 : List UInt8} {n m : Nat} (hn : ¬ 56319 < n) (h : hex4 r = some (m, r5)) (hm : 56320 ≤ m ∧ m ≤ 57343) : pair n (92 :: 117 :: r) = .go (Lib.encodeRune ((n - 55296 : Int) * 1024 + (m - 56320) + 65536)) r5 := by
  unfold pair
  rw [if_neg hn]
  simp [h, hm]
theorem pair_bad {r r5 : List UInt8} {n m : Nat} (h : hex4 r = some (m, r5)) (hm : ¬ (56320 ≤ m ∧ m ≤ 57343)) : pair n (92 :: 117 :: r) = .err := by
  unfold pair
  split
  · rfl
  · simp only [h, and_self, if_true]; rw [if_neg hm]
theorem u8_eq {x : UInt8} {n : Nat} (hn : n < 256) (h : ((x.toNat : Int) == (n : Int)) = true) : x = UInt8.ofNat n := by
  apply UInt8.toNat_inj.1
  have : x.toNat = n := by have := beq_iff_eq.1 h; exact_mod_cast this
  rw [this]; simp; omega
theorem u8_neq {x : UInt8} {n : Nat} (hn : n < 256) (h : ((x.toNat : Int) == (n : Int)) = false) : ¬ x = UInt8.ofNat n := by
  rintro rfl
  rw [beq_eq_false_iff_ne] at h
  apply h
  simp; omega

def ascL : List UInt8 := [92, 34, 98, 102, 110, 114, 116]
def binS : ByteArray := ⟨#[92, 34, 8, 12, 10, 13, 9]⟩
theorem escB_none {y : UInt8} (h : ∀ (q : Nat) (a : UInt8), ascL[q]? = some a → ¬ a = y) : escB y = none := by
  unfold escB
  rw [if_neg (fun e => h 0 92 rfl e.symm), if_neg (fun e => h 1 34 rfl e.symm), if_neg (fun e => h 2 98 rfl e.symm), if_neg (fun e => h 3 102 rfl e.symm), if_neg (fun e => h 4 110 rfl e.symm), if_neg (fun e => h 5 114 rfl e.symm), if_neg (fun e => h 6 116 rfl e.symm)]
theorem escB_at {m : Nat} {y : UInt8} (h : ascL[m]? = some y) (hm : m < binS.size) : escB y = some (binS[m]'hm) := by
  match m, h, hm with
  | 0, h, _ => simp [ascL] at h; subst h; rfl
  | 1, h, _ => simp [ascL] at h; subst h; rfl
  | 2, h, _ => simp [ascL] at h; subst h; rfl
  | 3, h, _ => simp [ascL] at h; subst h; rfl
  | 4, h, _ => simp [ascL] at h; subst h; rfl
  | 5, h, _ => simp [ascL] at h; subst h; rfl
  | 6, h, _ => simp [ascL] at h; subst h; rfl
  | n + 7, h, _ => simp [ascL] at h

set_option maxRecDepth 100000 in
set_option maxHeartbeats 100000000 in
theorem quoted_any {w : World} {j : Nat} {A : Option Addr} {c : Nat} {D rest : List UInt8} {d : Nat} (h : JR w j A c D rest d) :
    Calls Tryz.prog 132 #[.pointer (some ⟨j, 0, none⟩)] w (QPost (pStr (rest.length + 1) [] rest) w j A c D d) := by
  have hjl := h.lt
  have H0 := Lib.hid h
  have HW0 : Hid (QRel (pStr (rest.length + 1) [] rest) w j A c D d (rest.length + 1) (w.alloc (.cells #[.pointer none, .slice none 0 0] 134)) rest []) := by
    have hb : Below w.heap.size w (w.alloc (.cells #[.pointer none, .slice none 0 0] 134)) := (Below.refl _ _).alloc (Nat.le_refl _) _
    refine ⟨Fr.of_below hb, h.below hb, SB.new ?_ (by simp), rfl, by omega, ?_⟩
    · rw [World.alloc]; simp
    · obtain ⟨i, _, hD⟩ := h
      rw [← hD]; simp
  obtain ⟨res, hres⟩ : ∃ res, res = pStr (rest.length + 1) [] rest := ⟨_, rfl⟩
  rw [← hres] at HW0
  have HRES := Lib.hid hres
  clear hres h
  go_enter Tryz.func132, Tryz.ntmps132
  go_wp2
  go_step3
  go_wp2
  go_step3
  go_wp2
  go_loopg [5] (rest.length + 1) (fun kq v5 wr => ∃ rest' acc, QRel res w j A c D d kq wr rest' acc)
  case atStart => exact ⟨rest, [], HW0.out⟩
  case round =>
    obtain ⟨rest', acc, hR⟩ := hrel
    clear HW0
    cases gk with
    | zero => exact absurd hR.2.2.2.2.1 (by omega)
    | succ k =>
    have HR := Lib.hid hR
    obtain ⟨hf, hJ, hS, _, _, hlen2⟩ := hR
    cases rest' with
    | nil =>
      obtain ⟨i, hW, hD⟩ := hJ
      have c0 := hW.c0
      have c1 := hW.c1
      have hlen := hW.len
      have hge : ¬ i < D.length := by
        have := congrArg List.length hD; simp at this; omega
      have HJ : Hid (∀ n, JR (wr.drewN n) j A c D [] d) := fun n => ⟨i, hW.drewN n, hD⟩
      have HF : Hid (Fr j w wr) := hf
      clear hW hD hS hf
      go_wp2
      go_quiet (fail)
      go_wp2_with (go_at_call 63; refine (errorsNew_any _ _).mono ?_; rintro e w' ⟨rfl, rfl⟩)
      rw [Exit.noGoto_ret]
      go_ret2
      exact QPost.no HRES.out (HR.out.err rfl) ⟨_, _, rfl⟩ ((HF.out.drewN _).alloc _) ⟨_, (HJ.out _).below ((Below.refl _ _).alloc (Nat.le_refl _) _)⟩
    | cons x r =>
      obtain ⟨i, b, off, hW, hD, hiD, rfl, hcell, hbj, hbl⟩ := hJ.at
      have c0 := hW.c0
      have c1 := hW.c1
      have f1 := hW.fz 1
      have hlen := hW.len
      have HJ1 : Hid (∀ m, JQ ((wr.drewN m).setCell ⟨j, 1, none⟩ (.int .i64 ((i : Int) + 1))) j (some ⟨b, off, none⟩) c D x r d) := fun m => ⟨i, (hW.drewN m).set1 (i + 1) (by omega), hD⟩
      have HF1 : Hid (∀ m, Fr j w ((wr.drewN m).setCell ⟨j, 1, none⟩ (.int .i64 ((i : Int) + 1)))) := fun m => (hf.drewN m).setCell (Or.inl rfl) _
      have HV : Hid (∀ m, JW (((wr.drewN m).setCell ⟨j, 1, none⟩ (.int .i64 ((i : Int) + 1))).setCell ⟨j, 1, none⟩ (.int .i64 (i : Int))) j (some ⟨b, off, none⟩) c D i d) := fun m => ((hW.drewN m).set1 (i + 1) (by omega)).set1 i (by omega)
      have HD := Lib.hid hD
      have HC := Lib.hid hW.cap
      have HS1 : Hid (∀ m, SB (w.heap.size + 1) w.heap.size acc ((wr.drewN m).setCell ⟨j, 1, none⟩ (.int .i64 ((i : Int) + 1)))) := fun m => (hS.drewN m).fr ((Fr.refl j _).setCell (Or.inl rfl) _) (by omega) (by omega)
      clear hW hD hJ hS hf
      go_wp2
      go_quiet (fail)
      go_wp2
      go_quiet (fail)
      go_wp2_with (fail)
      · skip
        obtain rfl : x = 34 := u8_eq (n := 34) (by omega) (by assumption)
        refine (bString_any (HS1.out _)).mono ?_
        rintro e w2 ⟨rfl, hb⟩
        go_wp2
        rw [Exit.noGoto_ret]
        go_ret2
        rw [Nat.min_eq_right (by omega)] at hb
        have f2 := (HF1.out (_ + _)).belowB hb
        exact QPost.ok HRES.out (HR.out.fin rfl) f2 (H0.out.two f2 (HJ1.out _).toR (hb.block j hjl))
      · skip
        refine (errorsNew_any _ _).mono ?_
        rintro e w2 ⟨rfl, rfl⟩
        go_wp2
        rw [Exit.noGoto_ret]
        go_ret2
        have h34 : ¬ x = 34 := u8_neq (n := 34) (by omega) (by assumption)
        have h32 : (x.toNat : Int) < 32 := by assumption
        have hs : pStep (x :: r) = .err := by rw [pStep_cons, if_neg h34, if_pos (by omega)]
        exact QPost.no HRES.out (HR.out.err hs) ⟨_, _, rfl⟩ ((HF1.out _).alloc _) ⟨_, ((HJ1.out _).toR).below ((Below.refl _ _).alloc (Nat.le_refl _) _)⟩
      · skip
        obtain rfl : x = 92 := u8_eq (n := 92) (by omega) (by assumption)
        by_cases hy : ∃ y r2, r = y :: r2 ∧ y.toNat ≤ 127
        · obtain ⟨y, r2, rfl, hy7⟩ := hy
          refine (next_cons (HJ1.out _).toR hy7).mono ?_
          rintro e w2 ⟨rfl, hf2, hq2⟩
          have hJ2 := Lib.hid hq2.toR
          have hF2 := Lib.hid ((HF1.out _).trans hf2)
          have hS2 := Lib.hid ((HS1.out _).fr hf2 (by omega) (by omega))
          clear hq2 hf2
          by_cases h117 : y = 117
          · skip
            subst h117
            go_wp2_with (fail)
            cases hx : hex4 r2 with
            | none =>
              refine (getU_err hJ2.out (hex4_none hx)).mono ?_
              rintro e w3 ⟨v, ⟨t, a, rfl⟩, rfl, hf3, hJ3⟩
              have hs : Hid (pStep (92 :: 117 :: r2) = .err) := by
                show _ = _
                rw [pStep_92, esc_117, uni_none hx]
              clear hx
              go_wp2
              rw [Exit.noGoto_ret]
              go_ret2
              exact QPost.no HRES.out (HR.out.err hs) ⟨_, _, rfl⟩ (hF2.out.trans hf3) hJ3
            | some p =>
              obtain ⟨n, r3⟩ := p
              obtain ⟨xs, hxs, hl4, h74, hn, hn6⟩ := hex4_some hx
              have hJ2' := hJ2.out
              rw [hxs] at hJ2'
              refine (getU_ok hJ2' hl4 h74 hn hn6).mono ?_
              rintro e w3 ⟨rfl, hf3, hJ3⟩
              have hJ3 := Lib.hid hJ3
              have hF3 := Lib.hid (hF2.out.trans hf3)
              have hS3 := Lib.hid (hS2.out.fr hf3 (by omega) (by omega))
              have HX := Lib.hid hx
              have hlen3 : acc.length + 4 ≤ 140737488355328 := by
                have := congrArg List.length hxs
                simp at this hlen2; omega
              obtain ⟨M, hM⟩ : ∃ M : Int, M = (n : Int) := ⟨_, rfl⟩
              rw [← hM]
              have hM0 : 0 ≤ M := by omega
              have hM6 : M < 65536 := by omega
              have HM := Lib.hid hM
              clear hx hxs hl4 h74 hn hn6 hf3 hM hJ2'
              by_cases hsu : 55296 ≤ M ∧ M < 57344
              · obtain ⟨hs1, hs2⟩ := hsu
                have HS : Hid (surr n = true) := by
                  show _ = _
                  have := HM.out; simp [surr]; omega
                have HU : Hid (pStep (92 :: 117 :: r2) = pair n r3) := by
                  show _ = _
                  rw [pStep_92, esc_117, uni_pair HX.out HS.out]
                clear HS HX
                by_cases hlow : M < 56320
                · by_cases ha : ∃ a r4, r3 = a :: r4 ∧ a.toNat ≤ 127
                  · obtain ⟨a, r4, rfl, ha7⟩ := ha
                    go_wp2_with (first | (go_at_call 172; refine (isSurr_yes M _ hs1 hs2).mono ?_; rintro e w' ⟨rfl, rfl⟩) | fail)
                    refine (next_cons hJ3.out ha7).mono ?_
                    rintro e w4 ⟨rfl, hf4, hq4⟩
                    have hJ4 := Lib.hid hq4.toR
                    have hF4 := Lib.hid (hF3.out.trans hf4)
                    have hS4 := Lib.hid (hS3.out.fr hf4 (by omega) (by omega))
                    clear hq4 hf4
                    go_wp2_with (fail)
                    by_cases hb : ∃ b5 r5, r4 = b5 :: r5 ∧ b5.toNat ≤ 127
                    · obtain ⟨b5, r5, rfl, hb7⟩ := hb
                      refine (next_cons hJ4.out hb7).mono ?_
                      rintro e w5 ⟨rfl, hf5, hq5⟩
                      have hJ5 := Lib.hid hq5.toR
                      have hF5 := Lib.hid (hF4.out.trans hf5)
                      have hS5 := Lib.hid (hS4.out.fr hf5 (by omega) (by omega))
                      clear hq5 hf5
                      by_cases hab : a = 92 ∧ b5 = 117
                      · obtain ⟨rfl, rfl⟩ := hab
                        go_wp2_with (fail)
                        cases hx2 : hex4 r5 with
                        | none =>
                          refine (getU_err hJ5.out (hex4_none hx2)).mono ?_
                          rintro e w6 ⟨v, ⟨t, a, rfl⟩, rfl, hf6, hJ6⟩
                          have hs : Hid (pStep (92 :: 117 :: r2) = .err) := HU.out.trans (pair_none hx2)
                          clear hx2
                          go_wp2
                          rw [Exit.noGoto_ret]
                          go_ret2
                          exact QPost.no HRES.out (HR.out.err hs) ⟨_, _, rfl⟩ (hF5.out.trans hf6) hJ6
                        | some p2 =>
                          obtain ⟨m, r6⟩ := p2
                          obtain ⟨xs2, hxs2, hl42, h742, hn2, hn62⟩ := hex4_some hx2
                          have hJ5' := hJ5.out
                          rw [hxs2] at hJ5'
                          refine (getU_ok hJ5' hl42 h742 hn2 hn62).mono ?_
                          rintro e w6 ⟨rfl, hf6, hJ6⟩
                          have hJ6 := Lib.hid hJ6
                          have hF6 := Lib.hid (hF5.out.trans hf6)
                          have hS6 := Lib.hid (hS5.out.fr hf6 (by omega) (by omega))
                          have HX2 := Lib.hid hx2
                          obtain ⟨M2, hM2⟩ : ∃ M : Int, M = (m : Int) := ⟨_, rfl⟩
                          rw [← hM2]
                          have HM2 := Lib.hid hM2
                          clear hx2 hxs2 hl42 h742 hn2 hn62 hf6 hM2 hJ5'
                          by_cases hlo : M2 < 56320
                          · have hs : Hid (pStep (92 :: 117 :: r2) = .err) := HU.out.trans (pair_bad HX2.out (by have := HM2.out; omega))
                            go_wp2_with (fail)
                            refine (errorsNew_any _ _).mono ?_
                            rintro e w7 ⟨rfl, rfl⟩
                            go_wp2
                            rw [Exit.noGoto_ret]
                            go_ret2
                            exact QPost.no HRES.out (HR.out.err hs) ⟨_, _, rfl⟩ (hF6.out.alloc _) ⟨_, hJ6.out.below ((Below.refl _ _).alloc (Nat.le_refl _) _)⟩
                          by_cases hhi : 57343 < M2
                          · have hs : Hid (pStep (92 :: 117 :: r2) = .err) := HU.out.trans (pair_bad HX2.out (by have := HM2.out; omega))
                            go_wp2_with (fail)
                            refine (errorsNew_any _ _).mono ?_
                            rintro e w7 ⟨rfl, rfl⟩
                            go_wp2
                            rw [Exit.noGoto_ret]
                            go_ret2
                            exact QPost.no HRES.out (HR.out.err hs) ⟨_, _, rfl⟩ (hF6.out.alloc _) ⟨_, hJ6.out.below ((Below.refl _ _).alloc (Nat.le_refl _) _)⟩
                          have hs : Hid (pStep (92 :: 117 :: r2) = .go (Lib.encodeRune ((M - 55296) * 1024 + (M2 - 56320) + 65536)) r6) := by
                            show _ = _
                            have h1 := HM.out
                            have h2 := HM2.out
                            rw [HU.out, pair_some (by omega) HX2.out (by omega), h1, h2]
                          go_wp2_with (fail)
                          refine (u16Decode_any M M2 _ hs1 hlow (by omega) (by omega)).mono ?_
                          rintro e w7 ⟨rfl, rfl⟩
                          go_wp2_with (fail)
                          refine (writeRune_any _ (by omega) (by omega) hS6.out hlen3).mono ?_
                          rintro e w8 ⟨⟨nn, rfl⟩, hf8, hS8⟩
                          go_wp2
                          go_roundg k
                          case measure => omega
                          case rel => exact ⟨r6, acc ++ Lib.encodeRune ((M - 55296) * 1024 + (M2 - 56320) + 65536), HR.out.go H0.out hs hJ6.out hF6.out hf8 hS8⟩
                      · have hs : Hid (pStep (92 :: 117 :: r2) = .err) := HU.out.trans (pair_not (by rintro ⟨r9, e⟩; injection e with e1 e2; injection e2 with e2 _; exact hab ⟨e1, e2⟩))
                        by_cases ha92 : a = 92
                        · subst ha92
                          have hb117 := u8_ne (n := 117) (by omega) (show ¬ b5 = 117 from fun e => hab ⟨rfl, e⟩)
                          clear hab
                          go_wp2_with (fail)
                          refine (errorsNew_any _ _).mono ?_
                          rintro e w7 ⟨rfl, rfl⟩
                          go_wp2
                          rw [Exit.noGoto_ret]
                          go_ret2
                          exact QPost.no HRES.out (HR.out.err hs) ⟨_, _, rfl⟩ (hF5.out.alloc _) ⟨_, hJ5.out.below ((Below.refl _ _).alloc (Nat.le_refl _) _)⟩
                        · have ha92' := u8_ne (n := 92) (by omega) ha92
                          clear hab ha92
                          go_wp2_with (fail)
                          refine (errorsNew_any _ _).mono ?_
                          rintro e w7 ⟨rfl, rfl⟩
                          go_wp2
                          rw [Exit.noGoto_ret]
                          go_ret2
                          exact QPost.no HRES.out (HR.out.err hs) ⟨_, _, rfl⟩ (hF5.out.alloc _) ⟨_, hJ5.out.below ((Below.refl _ _).alloc (Nat.le_refl _) _)⟩
                    · have hs : Hid (pStep (92 :: 117 :: r2) = .err) := HU.out.trans (pair_not (by rintro ⟨r9, e⟩; injection e with e1 e2; exact hb ⟨117, r9, e2, by decide⟩))
                      refine (next_stop hJ4.out (fun y r2 e => by
                        rcases Nat.lt_or_ge 127 y.toNat with h | h
                        · exact h
                        · exact absurd ⟨y, r2, e, h⟩ hb)).mono ?_
                      rintro e w5 ⟨v, ⟨t, a, rfl⟩, rfl, hf5, hJ5⟩
                      clear hb
                      go_wp2
                      rw [Exit.noGoto_ret]
                      go_ret2
                      exact QPost.no HRES.out (HR.out.err hs) ⟨_, _, rfl⟩ (hF4.out.trans hf5) hJ5
                  · have hs : Hid (pStep (92 :: 117 :: r2) = .err) := HU.out.trans (pair_not (by rintro ⟨r9, e⟩; exact ha ⟨92, _, e, by decide⟩))
                    go_wp2_with (first | (go_at_call 172; refine (isSurr_yes M _ hs1 hs2).mono ?_; rintro e w' ⟨rfl, rfl⟩) | fail)
                    refine (next_stop hJ3.out (fun y r2 e => by
                      rcases Nat.lt_or_ge 127 y.toNat with h | h
                      · exact h
                      · exact absurd ⟨y, r2, e, h⟩ ha)).mono ?_
                    rintro e w5 ⟨v, ⟨t, a, rfl⟩, rfl, hf5, hJ5⟩
                    clear ha
                    go_wp2
                    rw [Exit.noGoto_ret]
                    go_ret2
                    exact QPost.no HRES.out (HR.out.err hs) ⟨_, _, rfl⟩ (hF3.out.trans hf5) hJ5
                · have hs : Hid (pStep (92 :: 117 :: r2) = .err) := HU.out.trans (pair_low (by have := HM.out; omega))
                  go_wp2_with (first | (go_at_call 172; refine (isSurr_yes M _ hs1 hs2).mono ?_; rintro e w' ⟨rfl, rfl⟩) | fail)
                  refine (errorsNew_any _ _).mono ?_
                  rintro e w7 ⟨rfl, rfl⟩
                  go_wp2
                  rw [Exit.noGoto_ret]
                  go_ret2
                  exact QPost.no HRES.out (HR.out.err hs) ⟨_, _, rfl⟩ (hF3.out.alloc _) ⟨_, hJ3.out.below ((Below.refl _ _).alloc (Nat.le_refl _) _)⟩
              · have hsd : M < 55296 ∨ 57344 ≤ M := by omega
                have HS : Hid (surr n = false) := by
                  show _ = _
                  have := HM.out; simp [surr]; omega
                clear hsu
                go_wp2_with (go_at_call 172; refine (isSurr_no M _ hsd).mono ?_; rintro e w' ⟨rfl, rfl⟩)
                refine (writeRune_any M (by omega) (by omega) hS3.out hlen3).mono ?_
                rintro e w4 ⟨⟨nn, rfl⟩, hf4, hS4⟩
                have hs : Hid (pStep (92 :: 117 :: r2) = .go (Lib.encodeRune M) r3) := by
                  show _ = _
                  rw [pStep_92, esc_117, uni_plain HX.out HS.out, HM.out]
                go_wp2
                go_roundg k
                case measure => omega
                case rel => exact ⟨r3, acc ++ Lib.encodeRune M, HR.out.go H0.out hs hJ3.out hF3.out hf4 hS4⟩
          · have e117 := u8_ne (n := 117) (by omega) h117
            by_cases h47 : y = 47
            · subst h47
              go_wp2_with (fail)
              refine (writeByte_any 47 hS2.out (by simp at hlen2; omega)).mono ?_
              rintro e w3 ⟨rfl, hf3, hS3⟩
              go_wp2
              go_roundg k
              case measure => omega
              case rel => exact ⟨r2, acc ++ [47], HR.out.go H0.out ((pStep_92 _).trans (esc_47 _)) hJ2.out hF2.out hf3 hS3⟩
            · have e47 := u8_ne (n := 47) (by omega) h47
              -- escapes of one letter
              have kc := fun (w : World) (C : Array Value) (n c : Nat) => Lib.run_convert_bytes_const (P := Tryz.prog) w 31 5 C n c Tryz.underlying31 Tryz.underlying5
              have hk : ∀ (k : Nat) (v : Value), (#[Value.int IntKind.u8 92, Value.int IntKind.u8 34, Value.int IntKind.u8 98, Value.int IntKind.u8 102, Value.int IntKind.u8 110, Value.int IntKind.u8 114, Value.int IntKind.u8 116] : Array Value)[k]? = some v →
                  (w2.alloc (.cells #[Value.int IntKind.u8 92, Value.int IntKind.u8 34, Value.int IntKind.u8 98, Value.int IntKind.u8 102, Value.int IntKind.u8 110, Value.int IntKind.u8 114, Value.int IntKind.u8 116] 5 (7, 8))).cell? ⟨w2.heap.size, k, none⟩ = some v := fun k v h => by
                rw [World.cell?, World.alloc]; simp [h]
              have HKK : Hid (∀ (m : Nat) (a : UInt8), ascL[m]? = some a → (w2.alloc (.cells #[Value.int IntKind.u8 92, Value.int IntKind.u8 34, Value.int IntKind.u8 98, Value.int IntKind.u8 102, Value.int IntKind.u8 110, Value.int IntKind.u8 114, Value.int IntKind.u8 116] 5 (7, 8))).cell? ⟨w2.heap.size, m, none⟩ = some (.int .u8 a.toNat)) := by
                intro m a ha
                match m, ha with
                | 0, ha => simp [ascL] at ha; subst ha; exact hk 0 _ rfl
                | 1, ha => simp [ascL] at ha; subst ha; exact hk 1 _ rfl
                | 2, ha => simp [ascL] at ha; subst ha; exact hk 2 _ rfl
                | 3, ha => simp [ascL] at ha; subst ha; exact hk 3 _ rfl
                | 4, ha => simp [ascL] at ha; subst ha; exact hk 4 _ rfl
                | 5, ha => simp [ascL] at ha; subst ha; exact hk 5 _ rfl
                | 6, ha => simp [ascL] at ha; subst ha; exact hk 6 _ rfl
                | n + 7, ha => simp [ascL] at ha
              have hS3 : Hid (SB (w.heap.size + 1) w.heap.size acc (w2.alloc (.cells #[Value.int IntKind.u8 92, Value.int IntKind.u8 34, Value.int IntKind.u8 98, Value.int IntKind.u8 102, Value.int IntKind.u8 110, Value.int IntKind.u8 114, Value.int IntKind.u8 116] 5 (7, 8)))) := hS2.out.below ((Below.refl _ _).alloc (Nat.le_refl _) _)
              have hF3 : Hid (Fr j w (w2.alloc (.cells #[Value.int IntKind.u8 92, Value.int IntKind.u8 34, Value.int IntKind.u8 98, Value.int IntKind.u8 102, Value.int IntKind.u8 110, Value.int IntKind.u8 114, Value.int IntKind.u8 116] 5 (7, 8)))) := hF2.out.alloc _
              have hJ3 : Hid (JR (w2.alloc (.cells #[Value.int IntKind.u8 92, Value.int IntKind.u8 34, Value.int IntKind.u8 98, Value.int IntKind.u8 102, Value.int IntKind.u8 110, Value.int IntKind.u8 114, Value.int IntKind.u8 116] 5 (7, 8))) j (some ⟨b, off, none⟩) c D r2 d) := hJ2.out.below ((Below.refl _ _).alloc (Nat.le_refl _) _)
              clear hk
              go_wp2_with (fail)
              go_loop [130] (fun i => ∃ m : Nat, m ≤ 7 ∧ i = .int .i64 m ∧ Hid (∀ (q : Nat) (a : UInt8), q < m → ascL[q]? = some a → ¬ a = y)) (fun i => 7 - (intOf i).toNat)
              case atStart => exact ⟨0, by omega, rfl, fun q a h => absurd h (by omega)⟩
              case round =>
                obtain ⟨m, hm, rfl, HNO⟩ := hrel
                by_cases hm7 : m < 7
                · obtain ⟨a, ha⟩ : ∃ a, ascL[m]? = some a := ⟨_, List.getElem?_eq_getElem hm7⟩
                  have hcm := HKK.out m a ha
                  have HA := Lib.hid ha
                  clear ha
                  by_cases hay : a = y
                  · subst hay
                    have hmb : m < binS.size := hm7
                    have hs : Hid (pStep (92 :: a :: r2) = .go [binS[m]'hmb] r2) := by
                      show _ = _
                      rw [pStep_92, esc_cons, if_neg h117, if_neg h47, escB_at HA.out hmb]
                    go_wp2_with (fail)
                    refine (writeByte_any (binS[m]'hmb) hS3.out (by simp at hlen2; omega)).mono ?_
                    rintro e w3 ⟨rfl, hf3, hS4⟩
                    go_wp2
                    go_roundg k
                    case measure => omega
                    case rel => exact ⟨r2, acc ++ [binS[m]'hmb], HR.out.go H0.out hs hJ3.out hF3.out hf3 hS4⟩
                  · have eb : ((a.toNat : Int) == (y.toNat : Int)) = false := by rw [beq_eq_false_iff_ne]; intro e; exact hay (UInt8.toNat_inj.1 (by exact_mod_cast e))
                    have HAY := Lib.hid hay
                    clear hay
                    go_wp2
                    go_round
                    case rel => exact ⟨m + 1, by omega, by go_num, fun q b hq hb => by
                      rcases Nat.lt_or_ge q m with h | h
                      · exact HNO.out q b h hb
                      · obtain rfl : q = m := by omega
                        rw [HA.out] at hb; cases hb; exact HAY.out⟩
                    case measure => simp [intOf]; omega
                · obtain rfl : m = 7 := by omega
                  have hs : Hid (pStep (92 :: y :: r2) = .err) := by
                    show _ = _
                    rw [pStep_92, esc_cons, if_neg h117, if_neg h47, escB_none (fun q a h => HNO.out q a (by have := (List.getElem?_eq_some_iff.1 h).1; exact this) h)]
                  go_wp2_with (fail)
                  refine (errorsNew_any _ _).mono ?_
                  rintro e w3 ⟨rfl, rfl⟩
                  go_wp2
                  rw [Exit.noGoto_ret]
                  go_ret2
                  exact QPost.no HRES.out (HR.out.err hs) ⟨_, _, rfl⟩ (hF3.out.alloc _) ⟨_, hJ3.out.below ((Below.refl _ _).alloc (Nat.le_refl _) _)⟩
        -- nothing to read behind the backslash
        · refine (next_stop (HJ1.out _).toR (fun y r2 e => by
            rcases Nat.lt_or_ge 127 y.toNat with h | h
            · exact h
            · exact absurd ⟨y, r2, e, h⟩ hy)).mono ?_
          rintro e w2 ⟨v, ⟨t, a, rfl⟩, rfl, hf2, r3, hJ3⟩
          go_wp2
          rw [Exit.noGoto_ret]
          go_ret2
          have hs : pStep (92 :: r) = .err := by
            rw [pStep_92]
            cases r with
            | nil => rfl
            | cons y r2 => exact esc_high (by rcases Nat.lt_or_ge 127 y.toNat with h | h; exact h; exact absurd ⟨y, r2, rfl, h⟩ hy)
          exact QPost.no HRES.out (HR.out.err hs) ⟨_, _, rfl⟩ ((HF1.out _).trans hf2) ⟨_, hJ3⟩
      · skip
        refine (writeByte_any x (HS1.out _) (by simp at hlen2; omega)).mono ?_
        rintro e w2 ⟨rfl, hf2, hS2⟩
        go_wp2
        have h34 : ¬ x = 34 := u8_neq (n := 34) (by omega) (by assumption)
        have h92 : ¬ x = 92 := u8_neq (n := 92) (by omega) (by assumption)
        have h32 : (32 : Int) ≤ (x.toNat : Int) := by assumption
        have h128 : (x.toNat : Int) < 128 := by assumption
        have hs : Hid (pStep (x :: r) = .go [x] r) := by
          show _ = _
          rw [pStep_cons, if_neg h34, if_neg (by omega), if_neg h92, if_pos (by omega)]
        clear h34 h92
        go_roundg k
        case measure => omega
        case rel => exact ⟨r, acc ++ [x], HR.out.go H0.out hs (HJ1.out _).toR (HF1.out _) hf2 hS2⟩
      · skip
        have hx128 : (128 : Int) ≤ (x.toNat : Int) := by assumption
        have h34 : ¬ x = 34 := u8_neq (n := 34) (by omega) (by assumption)
        have h92 : ¬ x = 92 := u8_neq (n := 92) (by omega) (by assumption)
        have hsm : Hid (pStep (x :: r) = multi (x :: r)) := by
          show _ = _
          rw [pStep_cons, if_neg h34, if_neg (by omega), if_neg h92, if_neg (by omega)]
        clear h34 h92
        have hi1 : (i : Int) ≤ (D.length : Int) := by omega
        have hi2 : (D.length : Int) ≤ (c : Int) := by have := HC.out.1; omega
        have hci : ¬ c = i := by have := HC.out.1; omega
        have hi3 : (c : Int) ≤ 9223372036854775807 := by have := HC.out.2; omega
        have HFA : Hid (∀ m, JW (((wr.drewN m).setCell ⟨j, 1, none⟩ (.int .i64 ((i : Int) + 1))).setCell ⟨j, 1, none⟩ (.int .i64 (i : Int))) j (some ⟨b, off, none⟩) c D i d ∧ Fr j w (((wr.drewN m).setCell ⟨j, 1, none⟩ (.int .i64 ((i : Int) + 1))).setCell ⟨j, 1, none⟩ (.int .i64 (i : Int))) ∧ SB (w.heap.size + 1) w.heap.size acc (((wr.drewN m).setCell ⟨j, 1, none⟩ (.int .i64 ((i : Int) + 1))).setCell ⟨j, 1, none⟩ (.int .i64 (i : Int)))) :=
          fun m => ⟨HV.out m, (HF1.out m).setCell (Or.inl rfl) _, (HS1.out m).fr ((Fr.refl j _).setCell (Or.inl rfl) _) (by omega) (by omega)⟩
        refine (fun (k : ∀ W, (JW W j (some ⟨b, off, none⟩) c D i d ∧ Fr j w W ∧ SB (w.heap.size + 1) w.heap.size acc W) → Code.wp _ _ _ _ W) => k _ (HFA.out _)) ?_
        clear HFA HV HF1 HS1 HJ1 c0 c1 f1 hcell
        rintro V ⟨hJV, hFV, hSV⟩
        have HJV := Lib.hid hJV
        have HFV := Lib.hid hFV
        have HSV := Lib.hid hSV
        have HDR := Lib.hid (decode_at hJV.drew HD.out)
        have c0 := hJV.c0
        have c1 := hJV.c1
        clear hJV hFV hSV
        obtain ⟨p1, p2, hp⟩ : ∃ p1 p2 : Nat, (p1, p2) = Lib.decodeGo ⟨(x :: r).toArray⟩ := ⟨_, _, rfl⟩
        rw [← hp] at HDR
        have hw := decodeGo_pos (x :: r) (by simp)
        rw [← hp] at hw
        have hp1 := Lib.hid hp
        clear hp
        go_region_held3 (fun w' => w'.cell? ⟨j, 0, none⟩ = some (.slice (some ⟨b, off, none⟩) D.length c) ∧ w'.cell? ⟨j, 1, none⟩ = some (.int .i64 (i : Int))) (first | exact ⟨g0, g1⟩ | exact ⟨c0, c1⟩) (first | (go_at_call 175; go_must (go_fit HDR.out); rintro e w2 ⟨rfl, hb2⟩; have g0 := (HJV.out.drew.below hb2).c0; have g1 := (HJV.out.drew.below hb2).c1))
        have HB2 := Lib.hid hb2
        have hF2 := Lib.hid ((HFV.out.drewN 1).below hb2)
        have hJ2 := Lib.hid (HJV.out.drew.below hb2)
        have hS2 := Lib.hid ((HSV.out.drewN 1).below hb2)
        have f1 := hJ2.out.fz 1
        have hlenx : i + (x :: r).length = D.length := by
          have := congrArg List.length HD.out; rw [List.length_drop] at this; omega
        have hp2a : 1 ≤ p2 := hw.1
        have hp2c : p2 ≤ r.length + 1 := by have := hw.2; simpa using this
        have hp2b : i + p2 ≤ D.length := by have := hw.2; simp only [List.length_cons] at *; omega
        have HMUL : Hid (multi (x :: r) = if p1 = 65533 ∧ p2 ≤ 1 then .err else .go ((x :: r).take p2) ((x :: r).drop p2)) := by
          show _ = _
          unfold multi
          rw [← hp1.out]
        obtain ⟨P1, hP1⟩ : ∃ P : Int, P = (p1 : Int) := ⟨_, rfl⟩
        rw [← hP1]
        have HP1 := Lib.hid hP1
        clear hb2 hP1 hw HDR HJV HFV HSV hp1
        by_cases hbad : P1 = 65533 ∧ p2 ≤ 1
        · obtain ⟨rfl, hp2⟩ := hbad
          have hs : Hid (pStep (x :: r) = .err) := by
            show _ = _
            rw [hsm.out, HMUL.out, if_pos ⟨by have := HP1.out; omega, hp2⟩]
          clear hlenx
          go_wp2_with (fail)
          refine (errorsNew_any _ _).mono ?_
          rintro e w3 ⟨rfl, rfl⟩
          go_wp2
          rw [Exit.noGoto_ret]
          go_ret2
          exact QPost.no HRES.out (HR.out.err hs) ⟨_, _, rfl⟩ (hF2.out.alloc _) ⟨_, JR.below ⟨i, hJ2.out, HD.out⟩ ((Below.refl _ _).alloc (Nat.le_refl _) _)⟩
        · have hs : Hid (pStep (x :: r) = .go ((x :: r).take p2) ((x :: r).drop p2)) := by
            show _ = _
            rw [hsm.out, HMUL.out, if_neg (fun e => hbad ⟨by have := HP1.out; omega, e.2⟩)]
          have hml : ((x :: r).take p2).length = p2 := by rw [List.length_take]; omega
          have HWR : Hid (Calls Tryz.prog 176 #[.pointer (some ⟨w.heap.size, 0, none⟩), .slice (some ⟨b, off + i, none⟩) p2 (c - i)] w2.drew fun e w' =>
              e = .returned (.tuple #[.int .i64 p2, .nilIface]) ∧ FrR (w.heap.size + 1) w.heap.size w2.drew w' ∧ SB (w.heap.size + 1) w.heap.size (acc ++ (x :: r).take p2) w') := by
            have hbw : b < w.heap.size := by
              obtain ⟨i0, h0, _⟩ := H0.out
              obtain ⟨b', off', e, _, h2, _⟩ := h0.dat 0 (D[0]'(by omega)) (by rw [List.getElem?_eq_getElem])
              cases e; exact h2
            have := write_any (m := (x :: r).take p2) ⟨b, off + i, none⟩ (c - i) (hS2.out.drewN 1) (by have := hml; simp only [List.length_cons] at hlen2; omega) (by simp only; omega) (fun t u ht => by
              rw [Lib.byteCells, List.getElem?_map] at ht
              cases e : ((x :: r).take p2)[t]? with
              | none => rw [e] at ht; cases ht
              | some y =>
                rw [e] at ht
                cases ht
                have htl := (List.getElem?_eq_some_iff.1 e).1
                have h1 : D[i + t]? = some y := by
                  rw [← List.getElem?_drop, HD.out, ← e, List.getElem?_take_of_lt (by omega)]
                obtain ⟨b', off', e2, _, _, h3⟩ := hJ2.out.dat _ _ h1
                cases e2
                rw [addr_add, Nat.add_assoc]
                exact h3) (by simp only; omega)
            rw [hml] at this
            exact this
          have hbb : (P1 == 65533) = false ∨ ((P1 == 65533) = true ∧ 1 < p2) := by
            by_cases e : P1 = 65533
            · exact Or.inr ⟨beq_iff_eq.2 e, by omega⟩
            · exact Or.inl (beq_eq_false_iff_ne.2 e)
          have hs1 : (i : Int) ≤ (i : Int) + (p2 : Int) := by omega
          have hs4 : (0 : Int) ≤ (i : Int) + (p2 : Int) := by omega
          have hs0 : IntKind.i64.wrap ((i : Int) + (p2 : Int)) = (i : Int) + (p2 : Int) := IntWalk.i64_in _ (by omega)
          have hs2 : (i : Int) + (p2 : Int) ≤ (c : Int) := by omega
          have hs3 : ((i : Int) + (p2 : Int)).toNat - i = p2 := by omega
          clear hbad hml hlenx
          rcases hbb with hbb | ⟨hbb, hp22⟩
          all_goals
            go_wp2_with (fail)
            go_region_held3 (fun w' => w'.cell? ⟨j, 0, none⟩ = some (.slice (some ⟨b, off, none⟩) D.length c) ∧ w'.cell? ⟨j, 1, none⟩ = some (.int .i64 (i : Int))) (first | exact ⟨g0', g1'⟩ | exact ⟨g0, g1⟩) (first | (go_at_call 176; refine HWR.out.mono ?_; rintro e w3 ⟨rfl, hf3, hS3⟩; have g0' := (hf3.cell (p := ⟨j, 0, none⟩) (by simp only; omega) (by simp only; omega)).trans g0; have g1' := (hf3.cell (p := ⟨j, 1, none⟩) (by simp only; omega) (by simp only; omega)).trans g1))
            obtain ⟨i0, h00, _⟩ := H0.out
            have hF3 := (hF2.out.drewN 1).frR hf3 (Nat.le_succ _) (Nat.le_refl _)
            have hJ3 := h00.two hF3 hJ2.out.drew (hf3.block j (by omega) (by omega))
            have f1' := hJ3.fz 1
            have HF3 := Lib.hid hF3
            have HJ3 := Lib.hid hJ3
            have HS3 := Lib.hid hS3
            clear hF3 hJ3 hS3 h00 hf3 HWR
            go_wp2
            go_roundg k
            case measure => omega
            case rel => exact ⟨(x :: r).drop p2, acc ++ (x :: r).take p2, HR.out.go2 hs (HF3.out.setCell (Or.inl rfl) _) ⟨i + p2, HJ3.out.set1 (i + p2) hp2b, by rw [← HD.out, List.drop_drop]⟩ (HS3.out.fr ((Fr.refl j _).setCell (Or.inl rfl) _) (by omega) (by omega))⟩
end Go.Proofs.YtjganhmbjffjfaaGreatDoor

