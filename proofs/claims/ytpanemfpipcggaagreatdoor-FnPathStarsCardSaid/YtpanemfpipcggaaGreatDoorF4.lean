/- path.matchChunk at chunks without classes and escapes, and texts of ASCII without /. -/
import Derived.Test.YtpanemfpipcggaaGreatDoorF3
open Go Go.RowKit
namespace Go.Proofs.YtpanemfpipcggaaGreatDoor
/-- Signs of ASCII, no /. -/
def PartL (l : List UInt8) : Prop := ∀ x ∈ l, x.toNat < 128 ∧ x ≠ 47
/-- What matchChunk tells. -/
def MkV (o : Option (List UInt8)) : Value := match o with
  | some t => .tuple #[.string (bs t), .bool true, .nilIface]
  | none => .tuple #[.string ⟨#[]⟩, .bool false, .nilIface]
/-- The head of the loop. -/
structure MkA (c s : List UInt8) (cc ss : ByteArray) (ff : Bool) : Prop where
  eq : (if ff then none else mcB cc.data.toList ss.data.toList) = mcB c s
  q : QuietL cc.data.toList
  p : PartL ss.data.toList
theorem MkA.fail {c s : List UInt8} {cc ss : ByteArray} (h : MkA c s cc ss true) : MkA c s (cc.extract 1 cc.size) ss true :=
  ⟨h.eq, by rw [bs_tail, bs_data]; exact fun x hx => h.q x (List.mem_of_mem_drop hx), h.p⟩
theorem MkA.empty {c s : List UInt8} {cc ss : ByteArray} (h : MkA c s cc ss false) (h0 : 0 < cc.size) (h1 : ¬ 0 < ss.size) : MkA c s (cc.extract 1 cc.size) ss true := by
  refine ⟨?_, by rw [bs_tail, bs_data]; exact fun x hx => h.q x (List.mem_of_mem_drop hx), h.p⟩
  rw [← h.eq, bs_cons cc h0, bs_nil h1]; rfl
theorem MkA.hit {c s : List UInt8} {cc ss : ByteArray} (h : MkA c s cc ss false) (h0 : 0 < cc.size) (h1 : 0 < ss.size) (h2 : cc[0] = 63 ∨ cc[0] = ss[0]) : MkA c s (cc.extract 1 cc.size) (ss.extract 1 ss.size) false := by
  refine ⟨?_, by rw [bs_tail, bs_data]; exact fun x hx => h.q x (List.mem_of_mem_drop hx), by rw [bs_tail, bs_data]; exact fun x hx => h.p x (List.mem_of_mem_drop hx)⟩
  rw [← h.eq]
  conv => rhs; rw [bs_cons cc h0, bs_cons ss h1]
  simp only [Bool.false_eq_true, if_false, bs_tail, bs_data]
  rw [mcB, if_pos h2]
theorem MkA.miss {c s : List UInt8} {cc ss : ByteArray} (h : MkA c s cc ss false) (h0 : 0 < cc.size) (h1 : 0 < ss.size) (h2 : ¬ (cc[0] = 63 ∨ cc[0] = ss[0])) : MkA c s (cc.extract 1 cc.size) (ss.extract 1 ss.size) true := by
  refine ⟨?_, by rw [bs_tail, bs_data]; exact fun x hx => h.q x (List.mem_of_mem_drop hx), by rw [bs_tail, bs_data]; exact fun x hx => h.p x (List.mem_of_mem_drop hx)⟩
  rw [← h.eq, bs_cons cc h0, bs_cons ss h1]
  simp only [Bool.false_eq_true, if_false, if_true]
  rw [mcB, if_neg h2]
theorem MkA.done {c s : List UInt8} {cc ss : ByteArray} (h : MkA c s cc ss false) (h0 : ¬ 0 < cc.size) : mcB c s = some ss.data.toList := by
  rw [← h.eq, bs_nil h0]; rfl
theorem MkA.none {c s : List UInt8} {cc ss : ByteArray} (h : MkA c s cc ss true) : mcB c s = none := by rw [← h.eq]; rfl
theorem ext1_size (s : ByteArray) : (s.extract 1 s.size).size = s.size - 1 := by rw [ByteArray.size_extract]; omega
set_option maxRecDepth 100000 in
set_option maxHeartbeats 2000000 in
theorem decRune_ascii {s : ByteArray} (h0 : 0 < s.size) (h1 : s[0].toNat < 128) (w : World) : Calls Tryz.prog 154 #[.string s] w fun e w' => e = .returned (.tuple #[.int .i32 s[0].toNat, .int .i64 1]) ∧ w = w' := by
  have i1 : (s[0].toNat : Int) < 128 := by omega
  have e0 : (!s.toList.isEmpty) = true := by rw [Lib.toList_data, bs_cons s h0]; rfl
  go_enter Tryz.func154, Tryz.ntmps154
  go_wp2_with (fail)
  go_ret2
  exact ⟨rfl, rfl⟩
/-- What matchChunk leaves. -/
def MkP (c s : List UInt8) (w : World) (e : Ending) (w' : World) : Prop := e = .returned (MkV (mcB c s)) ∧ Below w.heap.size w w'
theorem MkP.some {c s t : List UInt8} {w w' : World} {x : ByteArray} (h : mcB c s = some t) (hx : x.data.toList = t) (hb : Below w.heap.size w w') : MkP c s w (.returned (.tuple #[.string x, .bool true, .nilIface])) w' := by
  refine ⟨?_, hb⟩
  rw [h, ← hx]; unfold MkV; simp only [bs_of]
theorem MkP.none {c s : List UInt8} {w w' : World} (h : mcB c s = none) (hb : Below w.heap.size w w') : MkP c s w (.returned (.tuple #[.string ⟨#[]⟩, .bool false, .nilIface])) w' := ⟨by rw [h]; rfl, hb⟩
set_option maxRecDepth 100000 in
set_option maxHeartbeats 8000000 in
theorem matchChunk_any {c s : ByteArray} (hq : QuietL c.data.toList) (hp : PartL s.data.toList) (hcs : c.size ≤ 4294967296) (hss : s.size ≤ 4294967296) (w : World) :
    Calls Tryz.prog 120 #[.string c, .string s] w (MkP c.data.toList s.data.toList w) := by
  have HQ := Lib.hid hq
  have HP := Lib.hid hp
  clear hq hp
  go_enter Tryz.func120, Tryz.ntmps120
  go_wp2_with (fail)
  go_loopg [0, 1, 7] c.size (fun g v u b wr => ∃ (cc ss : ByteArray) (ff : Bool), v = .string cc ∧ u = .string ss ∧ b = .bool ff ∧ cc.size = g ∧ cc.size ≤ 4294967296 ∧ ss.size ≤ 4294967296 ∧ Hid (MkA c.data.toList s.data.toList cc ss ff) ∧ Hid (Below w.heap.size w wr))
  case atStart => exact ⟨c, s, false, rfl, rfl, rfl, rfl, hcs, hss, ⟨rfl, HQ.out, HP.out⟩, Below.refl _ _⟩
  case round =>
    obtain ⟨cc, ss, ff, rfl, rfl, rfl, hg, hcl, hsl, HA, HB⟩ := hrel
    cases gk with
    | zero =>
      have h0 : ¬ 0 < cc.size := by omega
      clear hg
      have i0 : ¬ (0 : Int) < (cc.size : Int) := by omega
      cases ff with
      | true =>
        have HN := Lib.hid HA.out.none
        go_wp2_with (fail)
        refine bodyPost_ret (v := .tuple #[.string ⟨#[]⟩, .bool false, .nilIface]) (by simp [results, Tryz.results120, go_sem]) rfl (MkP.none HN.out HB.out)
      | false =>
        have HN := Lib.hid (HA.out.done h0)
        go_wp2_with (fail)
        refine bodyPost_ret (v := .tuple #[.string ss, .bool true, .nilIface]) (by simp [results, Tryz.results120, go_sem]) rfl (MkP.some HN.out rfl HB.out)
    | succ g =>
      have h0 : 0 < cc.size := by omega
      have hg1 := Nat.le_of_eq hg
      have hg2 := Nat.le_of_eq hg.symm
      clear hg
      have HES : Hid ((cc.extract 1 cc.size).size = g) := by rw [ext1_size]; exact Lib.hid (by omega)
      have HSS : Hid ((ss.extract 1 ss.size).size ≤ 4294967296) := by rw [ext1_size]; exact Lib.hid (by omega)
      have hq0 := HA.out.q cc[0] (by rw [bs_cons cc h0]; exact List.mem_cons_self)
      have q1 : ((cc[0].toNat : Nat) : Int) ≠ 91 := u8_neI (n := 91) (by decide) hq0.1
      have q2 : ((cc[0].toNat : Nat) : Int) ≠ 92 := u8_neI (n := 92) (by decide) hq0.2.1
      clear hq0
      cases ff with
      | true =>
        have HA2 := Lib.hid HA.out.fail
        by_cases h63 : cc[0] = 63
        · have i1 : ((cc[0].toNat : Nat) : Int) = 63 := by rw [h63]; rfl
          clear h63 q1 q2
          go_wp2_with (fail)
          go_roundg g
          case measure => omega
          case rel => exact ⟨_, ss, true, rfl, rfl, rfl, HES.out, by rw [HES.out]; omega, hsl, HA2, HB⟩
        · have i1 : ((cc[0].toNat : Nat) : Int) ≠ 63 := u8_neI (n := 63) (by decide) h63
          clear h63
          go_wp2_with (fail)
          go_roundg g
          case measure => omega
          case rel => exact ⟨_, ss, true, rfl, rfl, rfl, HES.out, by rw [HES.out]; omega, hsl, HA2, HB⟩
      | false =>
        by_cases hs0 : 0 < ss.size
        · have j0 : ((ss.size : Int) == 0) = false := by rw [beq_eq_false_iff_ne]; omega
          by_cases h63 : cc[0] = 63
          · have HA2 := Lib.hid (HA.out.hit h0 hs0 (.inl h63))
            have i1 : ((cc[0].toNat : Nat) : Int) = 63 := by rw [h63]; rfl
            have hp0 := HA.out.p ss[0] (by rw [bs_cons ss hs0]; exact List.mem_cons_self)
            have i2 : (((ss[0].toNat : Nat) : Int) == 47) = false := by rw [beq_eq_false_iff_ne]; exact u8_neI (n := 47) (by decide) hp0.2
            have HD := fun w => Lib.hid (decRune_ascii hs0 hp0.1 w)
            clear h63 q1 q2 hp0
            go_wp2_with (go_at_call 154; refine (HD _).out.mono ?_; rintro e w' ⟨rfl, rfl⟩)
            go_roundg g
            case measure => omega
            case rel => exact ⟨_, _, false, rfl, rfl, rfl, HES.out, by rw [HES.out]; omega, HSS.out, HA2, HB⟩
          · have i1 : ((cc[0].toNat : Nat) : Int) ≠ 63 := u8_neI (n := 63) (by decide) h63
            by_cases hx : cc[0] = ss[0]
            · have HA2 := Lib.hid (HA.out.hit h0 hs0 (.inr hx))
              have i2 : (((cc[0].toNat : Nat) : Int) != ((ss[0].toNat : Nat) : Int)) = false := by rw [hx]; simp
              clear h63 hx
              go_wp2_with (fail)
              go_quiet (fail)
              go_wp2_with (fail)
              go_roundg g
              case measure => omega
              case rel => exact ⟨_, _, false, rfl, rfl, rfl, HES.out, by rw [HES.out]; omega, HSS.out, HA2, below_drewN HB.out _⟩
            · have HA2 := Lib.hid (HA.out.miss h0 hs0 (by rintro (h | h); exact h63 h; exact hx h))
              have i2 : (((cc[0].toNat : Nat) : Int) != ((ss[0].toNat : Nat) : Int)) = true := by
                simp only [bne_iff_ne, ne_eq]; intro e; exact hx (UInt8.toNat_inj.1 (by omega))
              clear h63 hx
              go_wp2_with (fail)
              go_quiet (fail)
              go_wp2_with (fail)
              go_roundg g
              case measure => omega
              case rel => exact ⟨_, _, true, rfl, rfl, rfl, HES.out, by rw [HES.out]; omega, HSS.out, HA2, below_drewN HB.out _⟩
        · have HA2 := Lib.hid (HA.out.empty h0 hs0)
          have j0 : ((ss.size : Int) == 0) = true := by rw [beq_iff_eq]; omega
          by_cases h63 : cc[0] = 63
          · have i1 : ((cc[0].toNat : Nat) : Int) = 63 := by rw [h63]; rfl
            clear h63 q1 q2
            go_wp2_with (fail)
            go_roundg g
            case measure => omega
            case rel => exact ⟨_, ss, true, rfl, rfl, rfl, HES.out, by rw [HES.out]; omega, hsl, HA2, HB⟩
          · have i1 : ((cc[0].toNat : Nat) : Int) ≠ 63 := u8_neI (n := 63) (by decide) h63
            clear h63
            go_wp2_with (fail)
            go_roundg g
            case measure => omega
            case rel => exact ⟨_, ss, true, rfl, rfl, rfl, HES.out, by rw [HES.out]; omega, hsl, HA2, HB⟩
end Go.Proofs.YtpanemfpipcggaaGreatDoor
