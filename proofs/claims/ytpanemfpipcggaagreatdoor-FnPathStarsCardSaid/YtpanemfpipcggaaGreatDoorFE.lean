/- impl.Delegated at roles of paths. -/
import Derived.Test.YtpanemfpipcggaaGreatDoorFC
import Derived.Test.YtpanemfpipcggaaGreatDoorFD
open Go Go.RowKit
namespace Go.Proofs.YtpanemfpipcggaaGreatDoor
theorem delRole_any {nm : ByteArray} {thr : Int} {tm : Bool} {pv : Value} {l : List (List UInt8)} {w : World} (h : TxtB w pv l) (hl : l.length ≤ 1073741824) :
    Calls Tryz.prog 37 #[.agg #[.string nm, .slice none 0 0, .int .i64 thr, .bool tm, pv, .slice none 0 0]] w (DrP nm thr tm l w) := by
  rcases h with ⟨rfl, rfl⟩ | ⟨ad, cp, rfl, h1, h2⟩
  · exact delRole_nil
  · exact delRole_some (.inr ⟨ad, cp, rfl, h1, h2⟩) hl
set_option maxRecDepth 100000 in
set_option maxHeartbeats 8000000 in
theorem delegated_any {nm : ByteArray} {thr : Int} {tm : Bool} {pv : Value} {l : List (List UInt8)} {t : ByteArray} {w : World} (hp : TxtB w pv l) (hl : l.length ≤ 1073741824) (hq : ∀ a ∈ l, QuietL a ∧ a.length ≤ 4294967290) (ht : AsciiL t.data.toList) (htl : t.size ≤ 4294967290) :
    Calls Tryz.prog 22 #[.agg #[.string nm, .slice none 0 0, .int .i64 thr, .bool tm, pv, .slice none 0 0], .string t] w (BoolP (l.any fun a => tipB t.data.toList a) w) := by
  obtain ⟨pa, pn, pc, rfl⟩ := hp.sl
  obtain ⟨W1, hW1⟩ : ∃ W1, W1 = w.alloc (.cells #[.string nm, .slice none 0 0, .int .i64 thr, .bool tm, .slice pa pn pc, .slice none 0 0] 45) := ⟨_, rfl⟩
  have HB1 : Hid (Below w.heap.size w W1) := by rw [hW1]; exact Lib.hid ((Below.refl _ _).alloc (Nat.le_refl _) _)
  have HD : Hid (Calls Tryz.prog 37 #[.agg #[.string nm, .slice none 0 0, .int .i64 thr, .bool tm, .slice pa pn pc, .slice none 0 0]] W1 (DrP nm thr tm l W1)) := Lib.hid (delRole_any (hp.stay HB1.out) hl)
  have HW1 := Lib.hid hW1
  have HQ := Lib.hid hq
  have HT := Lib.hid ht
  clear hp hl hq ht hW1
  go_enter Tryz.func22, Tryz.ntmps22
  go_upto_region 2 with (go_at_call 37; rw [← HW1.out]; refine HD.out.mono ?_; rintro e w2 ⟨pv, rfl, hpv, hb⟩; unfold dRole; obtain ⟨ua, un, uc, rfl⟩ := hpv.sl)
  obtain ⟨W3, hW3⟩ : ∃ W3, W3 = w2.alloc (.cells #[.string nm, .slice none 0 0, .int .i64 thr, .bool tm, .slice none 0 0, .slice ua un uc] 87) := ⟨_, rfl⟩
  have HB2 : Hid (Below w.heap.size w w2) := Lib.hid (HB1.out.trans (hb.mono HB1.out.size))
  have HB3 : Hid (Below w.heap.size w W3) := by rw [hW3]; exact Lib.hid (HB2.out.alloc HB2.out.size _)
  have HI : Hid (Calls Tryz.prog 38 #[.pointer (some ⟨w2.heap.size, 0, none⟩), .string t] W3 (IdP (l.any fun a => tipB t.data.toList a) W3)) := Lib.hid (isDel_any (nm := nm) (thr := thr) (tm := tm) (by rw [hW3]; exact alloc_at _ _) (hpv.stay (by rw [hW3]; exact (Below.refl _ _).alloc (Nat.le_refl _) _)) HQ.out HT.out htl)
  rw [← hW3]
  obtain ⟨β, hβ⟩ : ∃ β, β = l.any fun a => tipB t.data.toList a := ⟨_, rfl⟩
  rw [← hβ] at HI
  have HBE := Lib.hid hβ
  unfold IdP at HI
  clear hW3 hb hpv hβ HD HW1
  cases β <;> (
    go_wp2_with (go_at_call 38; refine HI.out.mono ?_; rintro e w4 ⟨rfl, hb⟩)
    have HB4 := Lib.hid (HB3.out.trans (hb.mono HB3.out.size))
    clear hb
    go_ret
    exact ⟨by rw [← HBE.out]; rfl, HB4.out⟩)
end Go.Proofs.YtpanemfpipcggaaGreatDoor
