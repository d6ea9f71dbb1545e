/- writeNode: the canonical text of a node is written. parseEntry; bytes.Buffer.Grow at a new buffer. jcs.Transform. impl.Transform. -/
import Derived.Test.YtjganhmbjffjfaaGreatDoorN5
import Derived.Test.YtjganhmbjffjfaaGreatDoorJ8
import Derived.Lib.BufferOld
import Derived.Test.YtjganhmbjffjfaaGreatDoorN8
import Derived.Deep.QuietTactic
import Derived.BigQuiet
import Derived.Lib.BufferMore
import Derived.Recover
import Derived.Deep.RegionLaw
open Go Go.RowKit
namespace Go.Proofs.YtjganhmbjffjfaaGreatDoor

/-- A bytes.Buffer in block b that holds l; all of it from B on. -/
def WB (B b : Nat) (l : List UInt8) (w : World) : Prop := Lib.IsBuffer 213 5 B b (Lib.byteCells l) w ∧ B ≤ w.heap.size
/-- What writing leaves: all below B; and all blocks but the buffer's and rows of bytes. -/
def WF (B b : Nat) (w w' : World) : Prop := Below B w w' ∧ Lib.OthersKept 5 (some b) w w'
theorem WF.refl (B b : Nat) (w : World) : WF B b w w := ⟨Below.refl _ _, Lib.OthersKept.refl _ _ _⟩
theorem WF.trans {B b : Nat} {u v w : World} (h : WF B b u v) (k : WF B b v w) : WF B b u w := ⟨h.1.trans k.1, h.2.trans k.2⟩
theorem WF.old {B b : Nat} {u v w : World} (h : WF B b u v) (hB : B ≤ v.heap.size) (k : Below v.heap.size v w) : WF B b u w := ⟨h.1.trans (k.mono hB), h.2.below k⟩
theorem WB.old {B b : Nat} {l : List UInt8} {w w' : World} (h : WB B b l w) (k : Below w.heap.size w w') : WB B b l w' := ⟨h.1.old k, Nat.le_trans h.2 k.size⟩
theorem WB.alloc {B b : Nat} {l : List UInt8} {w : World} (h : WB B b l w) (o : Obj) : WB B b l (w.alloc o) := h.old ((Below.refl _ _).alloc (Nat.le_refl _) _)
theorem byte_one (l : List UInt8) : ∀ v ∈ Lib.byteCells l, v.oneCell' = true := by
  intro v hv; simp [Lib.byteCells] at hv; obtain ⟨x, _, rfl⟩ := hv; rfl
def WPost (B b : Nat) (l : List UInt8) (w : World) (e : Ending) (w' : World) : Prop := e = .returned (.tuple #[]) ∧ WF B b w w' ∧ WB B b l w'
theorem wByte {B b : Nat} {l : List UInt8} {w : World} (c : UInt8) (h : WB B b l w) (hl : l.length + 1 ≤ 140737488355328) :
    Calls Tryz.prog 90 #[.pointer (some ⟨b, 0, none⟩), .int .u8 c.toNat] w fun e w' => e = .returned .nilIface ∧ WF B b w w' ∧ WB B b (l ++ [c]) w' := by
  refine (Tryz.Buffer_WriteByte_k B b _ c.toNat w h.1 h.2 (byte_one l) (by rw [byteCells_length]; exact hl)).mono ?_
  rintro e w' ⟨rfl, h1, h2, h3⟩
  exact ⟨rfl, ⟨h2, h3⟩, by rw [byteCells_append]; exact h1, Nat.le_trans h.2 h2.size⟩
theorem wString {B b : Nat} {l : List UInt8} {w : World} (s : ByteArray) (h : WB B b l w) (hl : l.length + s.size ≤ 140737488355328) :
    Calls Tryz.prog 89 #[.pointer (some ⟨b, 0, none⟩), .string s] w fun e w' => e = .returned (.tuple #[.int .i64 s.size, .nilIface]) ∧ WF B b w w' ∧ WB B b (l ++ s.data.toList) w' := by
  refine (Tryz.Buffer_WriteString_k B b _ s w h.1 h.2 (byte_one l) (by rw [byteCells_length]; exact hl)).mono ?_
  rintro e w' ⟨rfl, h1, h2, h3⟩
  exact ⟨rfl, ⟨h2, h3⟩, by rw [byteCells_append]; exact h1, Nat.le_trans h.2 h2.size⟩
theorem WF.box {B b n : Nat} {w w' : World} {c : Array Value} (h : WF B b w w') (hn : w.heap[n]? = some (.cells c 206 (0, 0))) (hb : n ≠ b) : w'.heap[n]? = some (.cells c 206 (0, 0)) :=
  h.2 n _ hn (by intro e; cases e; exact hb rfl) (by intro c' fz e; cases e)
theorem joinC_take {l : List (List UInt8)} {k : Nat} {t : List UInt8} (h : l[k]? = some t) : joinC (l.take (k + 1)) = joinC (l.take k) ++ (if k = 0 then t else 44 :: t) := by
  have hl := (List.getElem?_eq_some_iff.1 h).1
  have e : l.take (k + 1) = l.take k ++ [t] := by
    rw [List.take_add_one, h]; rfl
  rw [e, joinC_snoc]
  by_cases hk : k = 0
  · subst hk; simp [joinC]
  · rw [if_neg (by intro h0; have := congrArg List.length h0; rw [List.length_take, List.length_nil] at this; omega), if_neg hk]
theorem joinC_app_le (a b : List (List UInt8)) : (joinC a).length ≤ (joinC (a ++ b)).length := by
  cases a with
  | nil => simp [joinC]
  | cons x a => simp [joinC]
theorem joinC_take_le {l : List (List UInt8)} (k : Nat) : (joinC (l.take k)).length ≤ (joinC l).length := by
  have := joinC_app_le (l.take k) (l.drop k)
  rwa [List.take_append_drop] at this
theorem flat4 {L : List (List Value × List UInt8)} (h4 : ∀ x ∈ L, x.1.length = 4) : ∀ {k m : Nat} {x : List Value × List UInt8} {u : Value}, L[k]? = some x → x.1[m]? = some u → (L.flatMap (·.1))[k * 4 + m]? = some u := by
  induction L with
  | nil => intro k m x u h; simp at h
  | cons y L ih =>
    intro k m x u hk hm
    have hy := h4 y (by simp)
    rw [List.flatMap_cons]
    cases k with
    | zero =>
      simp only [List.getElem?_cons_zero, Option.some.injEq] at hk
      subst hk
      have := (List.getElem?_eq_some_iff.1 hm).1
      rw [List.getElem?_append_left (by omega)]
      simpa using hm
    | succ k =>
      simp only [List.getElem?_cons_succ] at hk
      rw [List.getElem?_append_right (by omega), hy, show (k + 1) * 4 + m - 4 = k * 4 + m by omega]
      exact ih (fun z hz => h4 z (by simp [hz])) hk hm

theorem flatMap_get' {α : Type} (f : α → List Value) (k : Nat) (hk : 0 < k) (hf : ∀ x, (f x).length = k) : ∀ (L : List α) (j : Nat), (L.flatMap f)[j]? = (L[j / k]?).bind fun x => (f x)[j % k]?
  | [], j => by simp
  | x :: L, j => by
    rw [List.flatMap_cons]
    rcases Nat.lt_or_ge j k with h | h
    · rw [List.getElem?_append_left (by rw [hf]; exact h), Nat.div_eq_of_lt h, Nat.mod_eq_of_lt h]; rfl
    · rw [List.getElem?_append_right (by rw [hf]; exact h), hf, flatMap_get' f k hk hf L (j - k)]
      have h1 : j / k = (j - k) / k + 1 := by rw [Nat.div_eq_sub_div hk h]
      have h2 : j % k = (j - k) % k := by rw [Nat.mod_eq_sub_mod h]
      rw [h1, h2]; rfl

set_option maxRecDepth 100000 in
set_option maxHeartbeats 8000000 in
theorem node_written (B b : Nat) (w0 : World) (p : Value) {v : List Value} {t : List UInt8} (h : ND (fun k => k < B) w0 v t) :
    ∀ (w : World) (l : List UInt8), Below B w0 w → WB B b l w → l.length + t.length ≤ 1099511627776 → Calls Tryz.prog 87 #[p, .pointer (some ⟨b, 0, none⟩), .agg v.toArray] w (WPost B b (l ++ t) w) := by
  induction h with
  | scal s =>
    intro w l hb hW hl
    have HW := Lib.hid (hW.alloc (.cells #[.int .u8 0, .string s, .slice none 0 0, .slice none 0 0] 206))
    have HL : Hid (l.length + s.size ≤ 140737488355328) := by show _ ≤ _; rw [Lib.size_eq]; omega
    have HF := Lib.hid ((WF.refl B b w).old hW.2 ((Below.refl _ _).alloc (Nat.le_refl _) (.cells #[.int .u8 0, .string s, .slice none 0 0, .slice none 0 0] 206)))
    clear hb hW hl
    go_enter Tryz.func87, Tryz.ntmps87
    go_wp2_with (fail)
    refine (wString s HW.out HL.out).mono ?_
    rintro e w2 ⟨rfl, hF, hW2⟩
    go_wp2
    go_end0
    exact ⟨rfl, HF.out.trans hF, hW2⟩
  | arr n0 n c L hb0 hlt hn hc hm hv hcell ih =>
    intro w l hb hW hl
    have h4 : ∀ x ∈ L, x.1.length = 4 := fun x hx => (hv x hx).len
    have HV := Lib.hid hv
    have HIH := Lib.hid ih
    have HC0 := Lib.hid hcell
    have H4 := Lib.hid h4
    have HB := Lib.hid hb
    obtain ⟨T, hT⟩ : ∃ T, T = L.map (·.2) := ⟨_, rfl⟩
    rw [← hT] at hl ⊢
    have HT := Lib.hid hT
    have HLT : Hid (T.length = n) := by show _ = _; rw [hT, List.length_map]; exact hn
    have HLL : Hid (l.length + (joinC T).length + 2 ≤ 1099511627776) := by show _ ≤ _; simp at hl; omega
    have hjl : ∀ k, (joinC (T.take k)).length ≤ (joinC T).length := fun k => joinC_take_le k
    have HJL := Lib.hid hjl
    have hnn : n ≤ 9223372036854775807 := by unfold maxLen at hm; omega
    have HW := Lib.hid (hW.alloc (.cells #[.int .u8 1, .string ⟨#[]⟩, .slice (some ⟨n0, 0, none⟩) n c, .slice none 0 0] 206))
    have HF := Lib.hid ((WF.refl B b w).old hW.2 ((Below.refl _ _).alloc (Nat.le_refl _) (.cells #[.int .u8 1, .string ⟨#[]⟩, .slice (some ⟨n0, 0, none⟩) n c, .slice none 0 0] 206)))
    have HBX := Lib.hid (alloc_at w (.cells #[.int .u8 1, .string ⟨#[]⟩, .slice (some ⟨n0, 0, none⟩) n c, .slice none 0 0] 206))
    have hnb : w.heap.size ≠ b := by have := hW.1.lt; omega
    have HLN := Lib.hid hn
    clear hb hW hl hv hcell ih h4 hT hjl hn hm
    go_enter Tryz.func87, Tryz.ntmps87
    go_wp2_with (fail)
    refine (wByte 91 HW.out (by have := HLL.out; omega)).mono ?_
    rintro e w2 ⟨rfl, hF2, hW2⟩
    have HF2 := Lib.hid (HF.out.trans hF2)
    have HW2 := Lib.hid hW2
    have HBX2 := Lib.hid (hF2.box HBX.out hnb)
    obtain ⟨s0, s1, s2, s3, sf, sl⟩ := slot_cells HBX2.out
    clear hF2 hW2 HW HF HBX sf
    go_wp2_with (fail)
    go_loopw [21] (fun i wr => ∃ k : Nat, k ≤ n ∧ i = .int .i64 k ∧ Hid (WF B b w wr ∧ WB B b (l ++ 91 :: joinC (T.take k)) wr ∧ wr.heap[w.heap.size]? = some (.cells #[.int .u8 1, .string ⟨#[]⟩, .slice (some ⟨n0, 0, none⟩) n c, .slice none 0 0] 206 (0, 0)))) (fun i _ => n - (intOf i).toNat)
    case atStart => exact ⟨0, Nat.zero_le _, rfl, HF2.out, by simpa [joinC] using HW2.out, HBX2.out⟩
    case round =>
      obtain ⟨k, hk, rfl, HR⟩ := hrel
      clear HF2 HW2 HBX2 s0 s1 s2 s3 sl
      obtain ⟨s0, s1, s2, s3, sf, sl⟩ := slot_cells HR.out.2.2
      clear sf
      by_cases hlt2 : k < n
      · obtain ⟨x, hx⟩ : ∃ x, L[k]? = some x := ⟨_, List.getElem?_eq_getElem (by rw [HLN.out]; exact hlt2)⟩
        have hxm := List.mem_of_getElem? hx
        obtain ⟨y0, y1, y2, y3, hy⟩ := (HV.out x hxm).four
        have HTX : Hid (T[k]? = some x.2) := by show _ = _; rw [HT.out, List.getElem?_map, hx]; rfl
        have hcl : ∀ (m : Nat) (u : Value), [y0, y1, y2, y3][m]? = some u → wr.cell? ⟨n0, k * 4 + m, none⟩ = some u := fun m u hu => by
          have h1 := HC0.out (k * 4 + m) u (flat4 H4.out hx (by rw [hy]; exact hu))
          rw [← h1]
          exact (HB.out.trans HR.out.1.1).cell (p := ⟨n0, k * 4 + m, none⟩) hb0
        have d0 : wr.cell? ⟨n0, k * 4, none⟩ = some y0 := hcl 0 y0 rfl
        have d1 := hcl 1 y1 rfl
        have d2 := hcl 2 y2 rfl
        have d3 := hcl 3 y3 rfl
        have HXM := Lib.hid hxm
        have HY := Lib.hid hy
        clear hx hcl hxm hy
        have HLK : Hid ((joinC (T.take (k + 1))).length ≤ (joinC T).length ∧ joinC (T.take (k + 1)) = joinC (T.take k) ++ (if k = 0 then x.2 else 44 :: x.2)) := ⟨HJL.out _, joinC_take HTX.out⟩
        by_cases hk0 : k = 0
        · subst hk0
          go_wp2_with (fail)
          have hi := HIH.out x HXM.out wr (l ++ 91 :: joinC (T.take 0)) (HB.out.trans HR.out.1.1) HR.out.2.1 (by
            have h1 := HLK.out.1; rw [HLK.out.2] at h1; have := HLL.out; simp at h1 ⊢; simp [joinC] at *; omega)
          rw [HY.out] at hi
          refine hi.mono ?_
          clear hi
          rintro e w4 ⟨rfl, hF4, hW4⟩
          have HX4 := Lib.hid (show WF B b w w4 ∧ WB B b (l ++ 91 :: joinC (T.take (0 + 1))) w4 ∧ w4.heap[w.heap.size]? = some (.cells #[.int .u8 1, .string ⟨#[]⟩, .slice (some ⟨n0, 0, none⟩) n c, .slice none 0 0] 206 (0, 0)) from
            ⟨HR.out.1.trans hF4, by have := hW4; rw [joinC_take HTX.out, if_pos rfl]; simpa using this, hF4.box HR.out.2.2 hnb⟩)
          clear hF4 hW4
          go_wp2
          go_roundw
          case rel => exact ⟨0 + 1, by omega, by go_num, HX4.out⟩
          case measure => simp [intOf]; omega
        · have hk1 : 0 < k := by omega
          go_wp2_with (fail)
          refine (wByte 44 HR.out.2.1 (by have := HLL.out; have := HJL.out k; simp; omega)).mono ?_
          rintro e w3 ⟨rfl, hF3, hW3⟩
          have HF3 := Lib.hid hF3
          have HW3 := Lib.hid hW3
          have HBX3 := Lib.hid (hF3.box HR.out.2.2 hnb)
          have d0' : w3.cell? ⟨n0, k * 4, none⟩ = some y0 := (HF3.out.1.cell (p := ⟨n0, k * 4, none⟩) hb0).trans d0
          have d1' : w3.cell? ⟨n0, k * 4 + 1, none⟩ = some y1 := (HF3.out.1.cell (p := ⟨n0, k * 4 + 1, none⟩) hb0).trans d1
          have d2' : w3.cell? ⟨n0, k * 4 + 2, none⟩ = some y2 := (HF3.out.1.cell (p := ⟨n0, k * 4 + 2, none⟩) hb0).trans d2
          have d3' : w3.cell? ⟨n0, k * 4 + 3, none⟩ = some y3 := (HF3.out.1.cell (p := ⟨n0, k * 4 + 3, none⟩) hb0).trans d3
          clear s0 s1 s2 s3 d0 d1 d2 d3 hF3 hW3 sl
          obtain ⟨s0, s1, s2, s3, sf, sl⟩ := slot_cells HBX3.out
          clear sf
          go_wp2_with (fail)
          have hi := HIH.out x HXM.out w3 ((l ++ 91 :: joinC (T.take k)) ++ [44]) (HB.out.trans (HR.out.1.trans HF3.out).1) HW3.out (by
            have h1 := HLK.out.1; rw [HLK.out.2, if_neg hk0] at h1; have := HLL.out; simp at *; omega)
          rw [HY.out] at hi
          refine hi.mono ?_
          clear hi
          rintro e w4 ⟨rfl, hF4, hW4⟩
          have HX4 := Lib.hid (show WF B b w w4 ∧ WB B b (l ++ 91 :: joinC (T.take (k + 1))) w4 ∧ w4.heap[w.heap.size]? = some (.cells #[.int .u8 1, .string ⟨#[]⟩, .slice (some ⟨n0, 0, none⟩) n c, .slice none 0 0] 206 (0, 0)) from
            ⟨(HR.out.1.trans HF3.out).trans hF4, by have := hW4; rw [joinC_take HTX.out, if_neg hk0]; simpa using this, hF4.box HBX3.out hnb⟩)
          clear hF4 hW4
          go_wp2
          go_roundw
          case rel => exact ⟨k + 1, by omega, by go_num, HX4.out⟩
          case measure => simp [intOf]; omega
      · obtain rfl : k = n := by omega
        have HTK : Hid (T.take k = T) := by show _ = _; exact List.take_of_length_le (by rw [HLT.out]; exact Nat.le_refl _)
        have HW5 : Hid (WB B b (l ++ 91 :: joinC T) wr) := by show WB _ _ _ _; have := HR.out.2.1; rw [HTK.out] at this; exact this
        go_wp2_with (fail)
        refine (wByte 93 HW5.out (by have := HLL.out; simp; omega)).mono ?_
        rintro e w6 ⟨rfl, hF6, hW6⟩
        go_wp2
        first | go_end0 | (rw [Exit.noGoto_ret]; go_end0)
        exact ⟨rfl, HR.out.1.trans hF6, by simpa using hW6⟩
  | obj n0 n c L hb0 hlt hn hc hm hv hname hp hpc hcell ih =>
    intro w l hb hW hl
    have HV := Lib.hid hv
    have HIH := Lib.hid ih
    have HC0 := Lib.hid hcell
    have HP := Lib.hid hp
    have HPC := Lib.hid hpc
    have HNAME := Lib.hid hname
    have HB := Lib.hid hb
    obtain ⟨T, hT⟩ : ∃ T, T = L.map Mem.text := ⟨_, rfl⟩
    rw [← hT] at hl ⊢
    have HT := Lib.hid hT
    have HLT : Hid (T.length = n) := by show _ = _; rw [hT, List.length_map]; exact hn
    have HLL : Hid (l.length + (joinC T).length + 2 ≤ 1099511627776) := by show _ ≤ _; simp at hl; omega
    have hjl : ∀ k, (joinC (T.take k)).length ≤ (joinC T).length := fun k => joinC_take_le k
    have HJL := Lib.hid hjl
    have hnn : n ≤ 9223372036854775807 := by unfold maxLen at hm; omega
    have HW := Lib.hid (hW.alloc (.cells #[.int .u8 2, .string ⟨#[]⟩, .slice none 0 0, .slice (some ⟨n0, 0, none⟩) n c] 206))
    have HF := Lib.hid ((WF.refl B b w).old hW.2 ((Below.refl _ _).alloc (Nat.le_refl _) (.cells #[.int .u8 2, .string ⟨#[]⟩, .slice none 0 0, .slice (some ⟨n0, 0, none⟩) n c] 206)))
    have HBX := Lib.hid (alloc_at w (.cells #[.int .u8 2, .string ⟨#[]⟩, .slice none 0 0, .slice (some ⟨n0, 0, none⟩) n c] 206))
    have hnb : w.heap.size ≠ b := by have := hW.1.lt; omega
    have HLN := Lib.hid hn
    clear hb hW hl hv hcell ih hT hjl hn hm hp hpc hname
    go_enter Tryz.func87, Tryz.ntmps87
    go_wp2_with (fail)
    refine (wByte 123 HW.out (by have := HLL.out; omega)).mono ?_
    rintro e w2 ⟨rfl, hF2, hW2⟩
    have HF2 := Lib.hid (HF.out.trans hF2)
    have HW2 := Lib.hid hW2
    have HBX2 := Lib.hid (hF2.box HBX.out hnb)
    obtain ⟨s0, s1, s2, s3, sf, sl⟩ := slot_cells HBX2.out
    clear hF2 hW2 HW HF HBX sf
    go_wp2_with (fail)
    go_loopw [46] (fun i wr => ∃ k : Nat, k ≤ n ∧ i = .int .i64 k ∧ Hid (WF B b w wr ∧ WB B b (l ++ 123 :: joinC (T.take k)) wr ∧ wr.heap[w.heap.size]? = some (.cells #[.int .u8 2, .string ⟨#[]⟩, .slice none 0 0, .slice (some ⟨n0, 0, none⟩) n c] 206 (0, 0)))) (fun i _ => n - (intOf i).toNat)
    case atStart => exact ⟨0, Nat.zero_le _, rfl, HF2.out, by simpa [joinC] using HW2.out, HBX2.out⟩
    case round =>
      obtain ⟨k, hk, rfl, HR⟩ := hrel
      clear HF2 HW2 HBX2 s0 s1 s2 s3 sl
      by_cases hlt2 : k < n
      · obtain ⟨x, hx⟩ : ∃ x, L[k]? = some x := ⟨_, List.getElem?_eq_getElem (by rw [HLN.out]; exact hlt2)⟩
        have hxm := List.mem_of_getElem? hx
        obtain ⟨y0, y1, y2, y3, hy⟩ := (HV.out x hxm).four
        have HTX : Hid (T[k]? = some x.text) := by show _ = _; rw [HT.out, List.getElem?_map, hx]; rfl
        have hcl : ∀ (W : World), Below B w W → ∀ (m : Nat) (u : Value), x.cells[m]? = some u → W.cell? ⟨n0, k * 3 + m, none⟩ = some u := fun W hW m u hu => by
          have hm3 : m < 3 := by have := (List.getElem?_eq_some_iff.1 hu).1; exact this
          have h1 := HC0.out (k * 3 + m) u (by rw [flatMap_get' _ 3 (by omega) (fun _ => rfl), show (k * 3 + m) / 3 = k by omega, show (k * 3 + m) % 3 = m by omega, hx]; exact hu)
          rw [← h1]
          exact (HB.out.trans hW).cell (p := ⟨n0, k * 3 + m, none⟩) hb0
        have hpl : ∀ (W : World), Below B w W → ∀ (m : Nat) (u : Value), [y0, y1, y2, y3][m]? = some u → W.cell? ⟨x.p, m, none⟩ = some u := fun W hW m u hu => by
          have h1 := HPC.out x hxm m u (by rw [hy]; exact hu)
          rw [← h1]
          exact (HB.out.trans hW).cell (p := ⟨x.p, m, none⟩) (HP.out x hxm).1
        have HNM := Lib.hid (HNAME.out x hxm)
        have HXM := Lib.hid hxm
        have HY := Lib.hid hy
        have HTK0 := joinC_take HTX.out
        have HTK1 := HJL.out (k + 1)
        have HCL := Lib.hid hcl
        have HPL := Lib.hid hpl
        clear hx hxm hy hcl hpl
        by_cases hk0 : k = 0
        · subst hk0
          rw [if_pos rfl] at HTK0
          have HTK := Lib.hid HTK0
          have HLK : Hid ((joinC (T.take 0)).length + (deco x.name.data.toList).length + 1 + x.t.length ≤ (joinC T).length) := by
            show _ ≤ _
            have h1 := HTK1; rw [HTK0] at h1; simp only [List.length_append, Mem.text, List.length_cons] at h1; omega
          clear HTK0 HTK1
          have q0 : wr.cell? ⟨n0, 0 * 3, none⟩ = some (.string x.name) := HCL.out wr HR.out.1.1 0 _ rfl
          obtain ⟨s0, s1, s2, s3, sf, sl⟩ := slot_cells HR.out.2.2
          clear sf
          go_wp2_with (fail)
          refine (deco_any _ x.name _ HNM.out.1 HNM.out.2).mono ?_
          rintro e w4 ⟨rfl, hb4⟩
          have HF4 := Lib.hid (HR.out.1.old HR.out.2.1.2 hb4)
          have HW4 := Lib.hid (HR.out.2.1.old hb4)
          have HBX4 := Lib.hid (show w4.heap[w.heap.size]? = some (.cells #[.int .u8 2, .string ⟨#[]⟩, .slice none 0 0, .slice (some ⟨n0, 0, none⟩) n c] 206 (0, 0)) from by rw [hb4.block _ sl]; exact HR.out.2.2)
          have HDS : Hid ((⟨(deco x.name.data.toList).toArray⟩ : ByteArray).data.toList = deco x.name.data.toList) := rfl
          obtain ⟨DS, hDS⟩ : ∃ DS : ByteArray, DS = ⟨(deco x.name.data.toList).toArray⟩ := ⟨_, rfl⟩
          rw [← hDS] at HDS ⊢
          clear hDS s0 s1 s2 s3 sl q0 hb4
          go_wp2_with (fail)
          refine (wString DS HW4.out (by rw [Lib.size_eq, HDS.out]; have := HLK.out; have := HLL.out; simp only [List.length_append, List.length_cons] at *; omega)).mono ?_
          rintro e w5 ⟨rfl, hF5, hW5⟩
          have HF5 := Lib.hid (HF4.out.trans hF5)
          have HW5 := Lib.hid hW5
          have HBX5 := Lib.hid (hF5.box HBX4.out hnb)
          clear hF5 hW5
          go_wp2_with (fail)
          refine (wByte 58 HW5.out (by rw [HDS.out]; have := HLK.out; have := HLL.out; simp only [List.length_append, List.length_cons] at *; omega)).mono ?_
          rintro e w6 ⟨rfl, hF6, hW6⟩
          have HF6 := Lib.hid (HF5.out.trans hF6)
          have HW6 := Lib.hid hW6
          have HBX6 := Lib.hid (hF6.box HBX5.out hnb)
          have q2 : w6.cell? ⟨n0, 0 * 3 + 2, none⟩ = some (.pointer (some ⟨x.p, 0, none⟩)) := HCL.out w6 HF6.out.1 2 _ rfl
          have d0 := HPL.out w6 HF6.out.1 0 y0 rfl
          have d1 := HPL.out w6 HF6.out.1 1 y1 rfl
          have d2 := HPL.out w6 HF6.out.1 2 y2 rfl
          have d3 := HPL.out w6 HF6.out.1 3 y3 rfl
          clear hF6 hW6
          obtain ⟨s0, s1, s2, s3, sf, sl⟩ := slot_cells HBX6.out
          clear sf
          go_wp2_with (fail)
          have hi := HIH.out x HXM.out w6 _ (HB.out.trans HF6.out.1) HW6.out (by rw [HDS.out]; have := HLK.out; have := HLL.out; simp only [List.length_append, List.length_cons, List.length_nil] at *; omega)
          rw [HY.out] at hi
          refine hi.mono ?_
          clear hi
          rintro e w7 ⟨rfl, hF7, hW7⟩
          have HX7 := Lib.hid (show WF B b w w7 ∧ WB B b (l ++ 123 :: joinC (T.take (0 + 1))) w7 ∧ w7.heap[w.heap.size]? = some (.cells #[.int .u8 2, .string ⟨#[]⟩, .slice none 0 0, .slice (some ⟨n0, 0, none⟩) n c] 206 (0, 0)) from
            ⟨HF6.out.trans hF7, by have := hW7; rw [HDS.out] at this; rw [HTK.out]; simpa [Mem.text] using this, hF7.box HBX6.out hnb⟩)
          clear hF7 hW7
          go_wp2
          go_roundw
          case rel => exact ⟨0 + 1, by omega, by go_num, HX7.out⟩
          case measure => simp [intOf]; omega
        · rw [if_neg hk0] at HTK0
          have HTK := Lib.hid HTK0
          have HLK : Hid ((joinC (T.take k)).length + 1 + (deco x.name.data.toList).length + 1 + x.t.length ≤ (joinC T).length) := by
            show _ ≤ _
            have h1 := HTK1; rw [HTK0] at h1; simp only [List.length_append, Mem.text, List.length_cons] at h1; omega
          clear HTK0 HTK1
          have hkz : 0 < k := by omega
          obtain ⟨s0, s1, s2, s3, sf, sl⟩ := slot_cells HR.out.2.2
          clear sf
          go_wp2_with (fail)
          refine (wByte 44 HR.out.2.1 (by have := HLL.out; have := HJL.out k; simp; omega)).mono ?_
          rintro e w3 ⟨rfl, hF3, hW3⟩
          have HF3 := Lib.hid (HR.out.1.trans hF3)
          have HW3 := Lib.hid hW3
          have HBX3 := Lib.hid (hF3.box HR.out.2.2 hnb)
          clear hF3 hW3 s0 s1 s2 s3 sl
          have q0 : w3.cell? ⟨n0, k * 3, none⟩ = some (.string x.name) := HCL.out w3 HF3.out.1 0 _ rfl
          obtain ⟨s0, s1, s2, s3, sf, sl⟩ := slot_cells HBX3.out
          clear sf
          go_wp2_with (fail)
          refine (deco_any _ x.name _ HNM.out.1 HNM.out.2).mono ?_
          rintro e w4 ⟨rfl, hb4⟩
          have HF4 := Lib.hid (HF3.out.old HW3.out.2 hb4)
          have HW4 := Lib.hid (HW3.out.old hb4)
          have HBX4 := Lib.hid (show w4.heap[w.heap.size]? = some (.cells #[.int .u8 2, .string ⟨#[]⟩, .slice none 0 0, .slice (some ⟨n0, 0, none⟩) n c] 206 (0, 0)) from by rw [hb4.block _ sl]; exact HBX3.out)
          have HDS : Hid ((⟨(deco x.name.data.toList).toArray⟩ : ByteArray).data.toList = deco x.name.data.toList) := rfl
          obtain ⟨DS, hDS⟩ : ∃ DS : ByteArray, DS = ⟨(deco x.name.data.toList).toArray⟩ := ⟨_, rfl⟩
          rw [← hDS] at HDS ⊢
          clear hDS s0 s1 s2 s3 sl q0 hb4
          go_wp2_with (fail)
          refine (wString DS HW4.out (by rw [Lib.size_eq, HDS.out]; have := HLK.out; have := HLL.out; simp only [List.length_append, List.length_cons, List.length_nil] at *; omega)).mono ?_
          rintro e w5 ⟨rfl, hF5, hW5⟩
          have HF5 := Lib.hid (HF4.out.trans hF5)
          have HW5 := Lib.hid hW5
          have HBX5 := Lib.hid (hF5.box HBX4.out hnb)
          clear hF5 hW5
          go_wp2_with (fail)
          refine (wByte 58 HW5.out (by rw [HDS.out]; have := HLK.out; have := HLL.out; simp only [List.length_append, List.length_cons, List.length_nil] at *; omega)).mono ?_
          rintro e w6 ⟨rfl, hF6, hW6⟩
          have HF6 := Lib.hid (HF5.out.trans hF6)
          have HW6 := Lib.hid hW6
          have HBX6 := Lib.hid (hF6.box HBX5.out hnb)
          have q2 : w6.cell? ⟨n0, k * 3 + 2, none⟩ = some (.pointer (some ⟨x.p, 0, none⟩)) := HCL.out w6 HF6.out.1 2 _ rfl
          have d0 := HPL.out w6 HF6.out.1 0 y0 rfl
          have d1 := HPL.out w6 HF6.out.1 1 y1 rfl
          have d2 := HPL.out w6 HF6.out.1 2 y2 rfl
          have d3 := HPL.out w6 HF6.out.1 3 y3 rfl
          clear hF6 hW6
          obtain ⟨s0, s1, s2, s3, sf, sl⟩ := slot_cells HBX6.out
          clear sf
          go_wp2_with (fail)
          have hi := HIH.out x HXM.out w6 _ (HB.out.trans HF6.out.1) HW6.out (by rw [HDS.out]; have := HLK.out; have := HLL.out; simp only [List.length_append, List.length_cons, List.length_nil] at *; omega)
          rw [HY.out] at hi
          refine hi.mono ?_
          clear hi
          rintro e w7 ⟨rfl, hF7, hW7⟩
          have HX7 := Lib.hid (show WF B b w w7 ∧ WB B b (l ++ 123 :: joinC (T.take (k + 1))) w7 ∧ w7.heap[w.heap.size]? = some (.cells #[.int .u8 2, .string ⟨#[]⟩, .slice none 0 0, .slice (some ⟨n0, 0, none⟩) n c] 206 (0, 0)) from
            ⟨HF6.out.trans hF7, by have := hW7; rw [HDS.out] at this; rw [HTK.out]; simpa [Mem.text] using this, hF7.box HBX6.out hnb⟩)
          clear hF7 hW7
          go_wp2
          go_roundw
          case rel => exact ⟨k + 1, by omega, by go_num, HX7.out⟩
          case measure => simp [intOf]; omega
      · obtain rfl : k = n := by omega
        have HTK : Hid (T.take k = T) := by show _ = _; exact List.take_of_length_le (by rw [HLT.out]; exact Nat.le_refl _)
        have HW5 : Hid (WB B b (l ++ 123 :: joinC T) wr) := by show WB _ _ _ _; have := HR.out.2.1; rw [HTK.out] at this; exact this
        go_wp2_with (fail)
        refine (wByte 125 HW5.out (by have := HLL.out; simp; omega)).mono ?_
        rintro e w6 ⟨rfl, hF6, hW6⟩
        go_wp2
        first | go_end0 | (rw [Exit.noGoto_ret]; go_end0)
        exact ⟨rfl, HR.out.1.trans hF6, by simpa using hW6⟩
theorem retN {w : World} {b : Nat} {x0 x1 x2 x3 u : Value} {T : TypeId} {tmps : Array Value} (h : w.heap[b]? = some (.cells #[x0, x1, x2, x3] T (0, 0))) (hp : tmps.getD 2 undef = .pointer (some ⟨b, 0, none⟩)) (hu : tmps.getD 3 undef = u) :
    (results Tryz.f84 tmps).run Tryz.prog w = .ok (.tuple #[.agg #[x0, x1, x2, x3], u]) w := by
  rw [results_cell_tmp rfl, hp, hu]
  simp only [asAddr, Sem.run_pure, Result.andThen, load4 h]
theorem entry_end {P : Ending → World → Prop} {tmps : Array Value} {w WF : World} {j : Nat} {A : Option Addr} {c : Nat} {D : List UInt8} {d : Nat} {r : List UInt8} {x0 x1 x2 x3 u : Value} (h : ES w j A c D d r x0 x1 x2 x3 WF)
    (h2 : tmps.getD 2 undef = .pointer (some ⟨w.heap.size, 0, none⟩)) (h3 : tmps.getD 3 undef = u) (hP : P (.returned (.tuple #[.agg #[x0, x1, x2, x3], u])) WF) :
    bodyPost Tryz.prog Tryz.f84 P Exit.ret { tmps := tmps, defers := [] } WF := bodyPost_ret (retN h.slot h2 h3) rfl hP
theorem pElem_ws (lit : Lit) (k d : Nat) {s r : List UInt8} {x : UInt8} (h : s.dropWhile wsB = x :: r) : pElem lit k d (x :: r) = pElem lit k d s := by
  cases k with
  | zero => rfl
  | succ k =>
    have hw : wsB x = false := dropWhile_head h
    rw [pElem_succ, pElem_succ, h, List.dropWhile_cons_of_neg (by simpa using hw)]
theorem pElem_err {lit : Lit} {k d : Nat} {s : List UInt8} (h : ∀ x r, s.dropWhile wsB = x :: r → 127 < x.toNat) (hns : pElem lit k d s ≠ .stuck) : pElem lit k d s = .err := by
  cases k with
  | zero => exact absurd (by rw [pElem]) hns
  | succ k =>
    rw [pElem_succ]
    cases hd : s.dropWhile wsB with
    | nil => rfl
    | cons x r => simp only; rw [if_pos (h x r hd)]
set_option maxRecDepth 100000 in
set_option maxHeartbeats 4000000 in
theorem entry_any (lit : Lit) (k : Nat) (HE : ElemOK lit k) {w : World} {j : Nat} {A : Option Addr} {c : Nat} {D s : List UInt8} (h : JR w j A c D s 0) (hns : pElem lit k 0 s ≠ .stuck) :
    Calls Tryz.prog 84 #[.pointer (some ⟨j, 0, none⟩)] w (NPost (pElem lit k 0 s) w j A c D 0) := by
  have HEH := Lib.hid HE
  have hjl := h.lt
  have HS0 := Lib.hid (ES.start h)
  obtain ⟨res, hres⟩ : ∃ res, res = pElem lit k 0 s := ⟨_, rfl⟩
  have HNS := Lib.hid hns
  rw [← hres]
  have HRES := Lib.hid hres
  clear hres hns HE h
  by_cases hpk : ∃ x ys, s.dropWhile wsB = x :: ys ∧ x.toNat ≤ 127
  · obtain ⟨x, ys, hx, hx7⟩ := hpk
    have HR3 : Hid (res = pElem lit k 0 (x :: ys)) := by show _ = _; rw [HRES.out, pElem_ws _ _ _ hx]
    have HX := Lib.hid hx
    clear hx
    go_enter Tryz.func84, Tryz.ntmps84
    go_wp2_with (fail)
    refine (scan_ok HS0.out.jr HX.out hx7).mono ?_
    rintro e w1 ⟨rfl, hf1, i1, hJ1, hD1⟩
    have c1 := hJ1.c1
    have f1 := hJ1.fz 1
    have hi1 := hJ1.ile
    have hlen := hJ1.len
    have hj1 := hJ1.lt
    have e1 : ((i1 + 1 : Nat) : Int) - 1 = (i1 : Int) := by omega
    have HE1 : Hid (ES w j A c D 0 (x :: ys) (.int .u8 0) (.string ⟨#[]⟩) (.slice none 0 0) (.slice none 0 0) (w1.setCell ⟨j, 1, none⟩ (.int .i64 (i1 : Int)))) :=
      HS0.out.keep (hf1.setCell (Or.inl rfl) _) ⟨i1, hJ1.set1 i1 (by omega), hD1⟩
    clear hf1 hJ1 hD1
    go_wp2_with (fail)
    refine (fun (k : ∀ W, ES w j A c D 0 (x :: ys) (.int .u8 0) (.string ⟨#[]⟩) (.slice none 0 0) (.slice none 0 0) W → Calls _ _ _ W _) => k _ HE1.out) ?_
    intro W hEW
    have HEW := Lib.hid hEW
    clear hEW HE1 c1 f1 e1 hj1
    refine (HEH.out W j A c D (x :: ys) 0 (by omega) HEW.out.jr (by rw [← HR3.out, HRES.out]; exact HNS.out)).mono ?_
    rintro e w2 hP
    rw [← HR3.out] at hP
    cases hr : res with
    | stuck => exact absurd (by rw [← HRES.out, hr]) HNS.out
    | err =>
      rw [hr] at hP
      have HE2 := Lib.hid hr
      obtain ⟨⟨v, ⟨t, a, rfl⟩, rfl⟩, hf2, r2, hJ2⟩ := hP
      unfold zeroNode
      have HE3 := Lib.hid (HEW.out.keep hf2 hJ2)
      clear hr hf2 hJ2
      obtain ⟨s0, s1, s2, s3, sf, sl⟩ := slot_cells HE3.out.slot
      have hfz0 := sf 0
      have hfz1 := sf 1
      have hfz2 := sf 2
      have hfz3 := sf 3
      clear sf
      go_wp2
      have hE := HE3.out.set4 (.int .u8 0) (.string ⟨#[]⟩) (.slice none 0 0) (.slice none 0 0)
      exact entry_end hE rfl rfl (NPost.err HE2.out ⟨_, _, rfl⟩ hE.fr hE.jr)
    | ok t2 r2 =>
      rw [hr] at hP
      obtain ⟨x0, x1, x2, x3, rfl, hf2, hJ2, hnd⟩ := hP
      obtain ⟨kd, sx, a1, n1, c1, a2, n2, c2, rfl, rfl, rfl, rfl⟩ := hnd.shape
      have HE3 := Lib.hid (HEW.out.keep hf2 hJ2)
      have HND := Lib.hid hnd
      have HE2 := Lib.hid hr
      have hsz1 := HEW.out.size
      clear hr hf2 hJ2 hnd
      obtain ⟨s0, s1, s2, s3, sf, sl⟩ := slot_cells HE3.out.slot
      have hfz0 := sf 0
      have hfz1 := sf 1
      have hfz2 := sf 2
      have hfz3 := sf 3
      clear sf
      go_wp2
      have hE := HE3.out.set4 (.int .u8 kd) (.string sx) (.slice a1 n1 c1) (.slice a2 n2 c2)
      exact entry_end hE rfl rfl (NPost.ok HE2.out hE.fr hE.jr (nd_set4 (HND.out.mono (Q := fun k => W.heap.size ≤ k) (fun k _ hp => hp)) (fun k hk => by omega) _ _ _ _ |>.mono (fun k _ hp => by have := HEW.out.fr.size; omega)))
  · have HS := Lib.hid (show ∀ x ys, s.dropWhile wsB = x :: ys → 127 < x.toNat from fun x ys e => by
      rcases Nat.lt_or_ge 127 x.toNat with h | h
      · exact h
      · exact absurd ⟨x, ys, e, h⟩ hpk)
    have HE2 : Hid (res = .err) := by show _ = _; rw [HRES.out, pElem_err HS.out HNS.out]
    clear hpk
    go_enter Tryz.func84, Tryz.ntmps84
    go_wp2_with (fail)
    refine (scan_err HS0.out.jr HS.out).mono ?_
    rintro e w1 ⟨v, ⟨t, a, rfl⟩, rfl, hf1, r1, hJ1⟩
    have HE3 := Lib.hid (HS0.out.keep hf1 hJ1)
    clear hf1 hJ1
    obtain ⟨s0, s1, s2, s3, sf, sl⟩ := slot_cells HE3.out.slot
    have hfz0 := sf 0
    have hfz1 := sf 1
    have hfz2 := sf 2
    have hfz3 := sf 3
    clear sf
    go_wp2
    have hE := HE3.out.set4 (.int .u8 0) (.string ⟨#[]⟩) (.slice none 0 0) (.slice none 0 0)
    exact entry_end hE rfl rfl (NPost.err HE2.out ⟨_, _, rfl⟩ hE.fr hE.jr)

set_option maxRecDepth 100000 in
set_option maxHeartbeats 4000000 in
theorem grow_any (B b n : Nat) (w : World) (hB : B ≤ b) (hBw : B ≤ w.heap.size) (hbk : w.heap[b]? = some (.cells #[.slice none 0 0, .int .i64 0, .int .i8 0] 213 (0, 0))) (hn : 1 ≤ n) (hl : n ≤ 4294967296) :
    Calls Tryz.prog 86 #[.pointer (some ⟨b, 0, none⟩), .int .i64 n] w fun e w' => e = .returned (.tuple #[]) ∧ WF B b w w' ∧ WB B b [] w' := by
  have HG : Hid (Calls Tryz.prog 112 #[.pointer (some ⟨b, 0, none⟩), .int .i64 n] w fun e w' => e = .returned (.int .i64 0) ∧ ∃ xs, xs.length = n ∧ Lib.IsBuffer 213 5 B b xs w' ∧ Below B w w' ∧ Lib.OthersKept 5 (some b) w w') := by
    rcases Nat.lt_or_ge 64 n with h | h
    · exact Tryz.Buffer_grow_nil_big_kept B b n 0 w hB hBw hbk h (by omega)
    · exact Tryz.Buffer_grow_nil_small_kept B b n 0 w hB hBw hbk hn h
  clear hbk
  go_enter Tryz.func86, Tryz.ntmps86
  go_wp2_with (fail)
  refine HG.out.mono ?_
  rintro e w1 ⟨rfl, xs, hxs, hbuf, hbel, hoth⟩
  obtain ⟨hBb, v, lr, hb1, hown, hne⟩ := hbuf
  obtain ⟨g, cap, cur, rfl, hg1, hg2, hg3, hg4, hg5, hg6⟩ : ∃ g cap cur, v = .slice (some ⟨g, 0, none⟩) xs.length cap ∧ B ≤ g ∧ w1.heap[g]? = some (.cells cur 5 (0, 0)) ∧ xs.length ≤ cap ∧ cap ≤ maxLen ∧ cur.size = cap * 1 ∧ True := by
    rcases hown.2 with ⟨_, h0⟩ | ⟨g, cap, cur, rfl, h1, h2, h3, h4, h5, _⟩
    · omega
    · exact ⟨g, cap, cur, rfl, h1, h2, h3, h4, h5, trivial⟩
  have c0 : w1.cell? ⟨b, 0, none⟩ = some (.slice (some ⟨g, 0, none⟩) xs.length cap) := by simp [World.cell?, hb1]
  have f0 : w1.frozen? ⟨b, 0, none⟩ = false := by simp [World.frozen?, hb1]
  have hgb : g ≠ b := by intro e; subst e; exact hne rfl
  have HWB : Hid (WB B b [] (w1.setCell ⟨b, 0, none⟩ (.slice (some ⟨g, 0, none⟩) 0 cap))) := by
    refine ⟨⟨hBb, .slice (some ⟨g, 0, none⟩) 0 cap, lr, ?_, ⟨rfl, .inr ⟨g, cap, cur, rfl, hg1, ?_, Nat.zero_le _, hg4, hg5, rfl⟩⟩, by simpa [Value.ownBlock] using hgb⟩, ?_⟩
    · have := setAt hb1 0 (.slice (some ⟨g, 0, none⟩) 0 cap)
      simpa using this
    · rw [Below.heap_setCell _ _ _ _ hgb]; exact hg2
    · rw [World.size_setCell']; exact Nat.le_trans hBw hbel.size
  have HWF : Hid (WF B b w (w1.setCell ⟨b, 0, none⟩ (.slice (some ⟨g, 0, none⟩) 0 cap))) := ⟨hbel.setCell hBb _, hoth.setCell _ rfl _⟩
  have hcap : (0 : Int) ≤ (cap : Int) := by omega
  clear hb1 hown hne hg1 hg2 hg3 hg4 hg5 hbel hoth hxs
  go_wp2

  go_end0
  exact ⟨rfl, HWF.out, HWB.out⟩
theorem quiet_left' {P : Program} {f : FuncId} {args : Array Value} {w : World} {a n : Nat} {v : Value} (h : Calls P f args (w.drewN (a + n)) fun e w' => e = .returned v ∧ w.drewN (a + n) = w') :
    Calls P f args (w.drewN (a + n)) fun e w'' => e = .returned v ∧ ∃ m, w'' = w.drewN (a + m) := h.mono fun _ _ ⟨he, hm⟩ => ⟨he, n, hm.symm⟩
theorem belowN {B : Nat} {a w : World} (h : Below B a w) (n : Nat) : Below B a (w.drewN n) := ⟨h.os, h.tape, h.output, h.size, h.block⟩
/-- What Transform comes to. -/
def TPost (o : Out) (w : World) (e : Ending) (w' : World) : Prop :=
  match o with
  | .stuck => True
  | .err => (∃ v, IsErr v ∧ e = .returned (.tuple #[.slice none 0 0, v])) ∧ Below w.heap.size w w'
  | .ok t _ => ∃ v B, e = .returned (.tuple #[v, .nilIface]) ∧ w.heap.size ≤ B ∧ w'.ownsRow B 5 1 v t.length (Lib.byteCells t) ∧ Below w.heap.size w w'
theorem TPost.no {o : Out} {w w' : World} {v : Value} (ho : o = .err) (hv : IsErr v) (hb : Below w.heap.size w w') : TPost o w (.returned (.tuple #[.slice none 0 0, v])) w' := by subst ho; exact ⟨⟨v, hv, rfl⟩, hb⟩
theorem TPost.yes {o : Out} {w w' : World} {v : Value} {B : Nat} {t r : List UInt8} (ho : o = .ok t r) (hB : w.heap.size ≤ B) (hw : w'.ownsRow B 5 1 v t.length (Lib.byteCells t)) (hb : Below w.heap.size w w') : TPost o w (.returned (.tuple #[v, .nilIface])) w' := by
  subst ho; exact ⟨v, B, rfl, hB, hw, hb⟩
/-- The reader as Transform makes it. -/
theorem start_jr {w : World} {a cp N : Nat} {D : List UInt8} (hdat : ∀ (i : Nat) (x : UInt8), D[i]? = some x → w.cell? ⟨a, i, none⟩ = some (.int .u8 x.toNat)) (ha : a < w.heap.size) (hlen : D.length ≤ 4294967296) (hcap : D.length ≤ cp ∧ cp ≤ 9223372036854775807) (hN : TL N w) :
    JR (w.alloc (.cells #[.slice (some ⟨a, 0, none⟩) D.length cp, .int .i64 0, .int .i64 0] 200)) w.heap.size (some ⟨a, 0, none⟩) cp D D 0 := by
  have hb : Below w.heap.size w (w.alloc (.cells #[.slice (some ⟨a, 0, none⟩) D.length cp, .int .i64 0, .int .i64 0] 200)) := (Below.refl _ _).alloc (Nat.le_refl _) _
  refine ⟨0, ⟨⟨_, alloc_at _ _⟩, fun i x hx => ⟨a, 0, rfl, by omega, by rw [World.size_alloc]; omega, ?_⟩, hlen, hcap, Nat.zero_le _, Nat.zero_le _, N, hN.le, hN.below hb⟩, rfl⟩
  rw [Nat.zero_add, hb.cell (p := ⟨a, i, none⟩) ha]; exact hdat i x hx
theorem nd_min {P : Nat → Prop} {w : World} {v : List Value} {t : List UInt8} (h : ND P w v t) : ND (fun k => k < w.heap.size) w v t := h.mono (fun _ hk _ => hk)
set_option maxRecDepth 100000 in
set_option maxHeartbeats 8000000 in
theorem transform_any (lit : Lit) (hL : LitOK lit) (k : Nat) {w : World} {a cp N : Nat} {D : List UInt8} (hdat : ∀ (i : Nat) (x : UInt8), D[i]? = some x → w.cell? ⟨a, i, none⟩ = some (.int .u8 x.toNat)) (ha : a < w.heap.size) (hlen : D.length ≤ 4294967296)
    (hcap : D.length ≤ cp ∧ cp ≤ 9223372036854775807) (hN : TL N w) (hns : pAll lit k D ≠ .stuck) (hT : ∀ t r, pElem lit k 0 D = .ok t r → t.length ≤ 549755813888) :
    Calls Tryz.prog 60 #[.slice (some ⟨a, 0, none⟩) D.length cp] w (TPost (pAll lit k D) w) := by
  have HJ0 := Lib.hid (start_jr hdat ha hlen hcap hN)
  have HE := Lib.hid (elem_all lit hL k)
  obtain ⟨res, hres⟩ : ∃ res, res = pAll lit k D := ⟨_, rfl⟩
  rw [← hres] at hns ⊢
  have HRES := Lib.hid hres
  have HNS := Lib.hid hns
  have HT := Lib.hid hT
  have hB0 : Below w.heap.size w (w.alloc (.cells #[.slice (some ⟨a, 0, none⟩) D.length cp, .int .i64 0, .int .i64 0] 200)) := (Below.refl _ _).alloc (Nat.le_refl _) _
  have HB0 := Lib.hid hB0
  have hne : pElem lit k 0 D ≠ .stuck := by
    intro e; apply HNS.out; rw [HRES.out, pAll, e]
  have HNE := Lib.hid hne
  have hlen1 : D.length ≤ 140737488355328 := by omega
  clear hdat hN hres hns hT hB0 hne hL
  have hnil := fun w => Lib.run_eql_slice_some_nil (P := Tryz.prog) w (t := 31) (e := 5) ⟨a, 0, none⟩ D.length cp Tryz.underlying31
  go_enter Tryz.func60, Tryz.ntmps60
  go_wp2_with (fail)
  refine (entry_any lit k HE.out HJ0.out HNE.out).mono ?_
  rintro e w1 hP
  cases ho : pElem lit k 0 D with
  | stuck => exact absurd ho HNE.out
  | err =>
    rw [ho] at hP
    have HE2 : Hid (res = .err) := by show _ = _; rw [HRES.out, pAll, ho]
    obtain ⟨⟨v, ⟨t, a', rfl⟩, rfl⟩, hf1, r1, hJ1⟩ := hP
    unfold zeroNode
    have hBB : Below w.heap.size w w1 := HB0.out.trans (hf1.toBelow (Nat.le_refl _) (by rw [World.size_alloc]; omega))
    have HBB := Lib.hid (hBB.alloc hBB.size (.cells #[.int .u8 0, .string ⟨#[]⟩, .slice none 0 0, .slice none 0 0] 206))
    clear ho hf1 hJ1 hBB
    go_wp2
    go_ret2
    exact TPost.no HE2.out ⟨_, _, rfl⟩ HBB.out
  | ok t r =>
    rw [ho] at hP
    obtain ⟨x0, x1, x2, x3, rfl, hf1, hJ1, hnd⟩ := hP
    obtain ⟨kd, sx, a1, n1, c1, a2, n2, c2, rfl, rfl, rfl, rfl⟩ := hnd.shape
    have HR2 : Hid (res = if r.all wsB = true then .ok t [] else .err) := by show _ = _; rw [HRES.out, pAll, ho]
    have HTL : Hid (t.length ≤ 549755813888) := HT.out t r ho
    have hBB : Below w.heap.size w w1 := HB0.out.trans (hf1.toBelow (Nat.le_refl _) (by rw [World.size_alloc]; omega))
    have hD1 : 1 ≤ D.length := by
      cases D with
      | nil => exact absurd ho (by cases k with | zero => rw [pElem]; exact fun h => by cases h | succ k => rw [pElem_succ]; exact fun h => by cases h)
      | cons x D => simp
    have hs1 : w.heap.size < w1.heap.size := by have := hf1.size; rw [World.size_alloc] at this; omega
    have HW2 : Hid (Below w.heap.size w (w1.alloc (.cells #[.int .u8 kd, .string sx, .slice a1 n1 c1, .slice a2 n2 c2] 206)) ∧ JR (w1.alloc (.cells #[.int .u8 kd, .string sx, .slice a1 n1 c1, .slice a2 n2 c2] 206)) w.heap.size (some ⟨a, 0, none⟩) cp D r 0 ∧
        (w1.alloc (.cells #[.int .u8 kd, .string sx, .slice a1 n1 c1, .slice a2 n2 c2] 206)).heap[w1.heap.size]? = some (.cells #[.int .u8 kd, .string sx, .slice a1 n1 c1, .slice a2 n2 c2] 206 (0, 0)) ∧
        ND (fun k => w.heap.size + 1 ≤ k) (w1.alloc (.cells #[.int .u8 kd, .string sx, .slice a1 n1 c1, .slice a2 n2 c2] 206)) [.int .u8 kd, .string sx, .slice a1 n1 c1, .slice a2 n2 c2] t) :=
      ⟨hBB.alloc hBB.size _, hJ1.below ((Below.refl _ _).alloc (Nat.le_refl _) _), alloc_at _ _, (hnd.mono (Q := fun k => w.heap.size + 1 ≤ k) (fun k _ hp => by rw [World.size_alloc] at hp; omega)).stay ((Below.refl _ _).alloc (Nat.le_refl _) _)⟩
    clear ho hf1 hJ1 hBB hnd
    go_wp2_with (fail)
    have hJL : w.heap.size < w.heap.size + 1 := Nat.lt_succ_self _
    go_loopg [2] (r.length + 1) (fun kq v2 wr => ∃ rest, rest.length < kq ∧ Hid (r.all wsB = rest.all wsB) ∧ JR wr w.heap.size (some ⟨a, 0, none⟩) cp D rest 0 ∧ Hid (Fr w.heap.size (w1.alloc (.cells #[.int .u8 kd, .string sx, .slice a1 n1 c1, .slice a2 n2 c2] 206)) wr))
    case atStart => exact ⟨r, Nat.lt_succ_self _, rfl, HW2.out.2.1, Fr.refl _ _⟩
    case round =>
      obtain ⟨rest, hkq, HALL, hJ, HFR⟩ := hrel
      have HJ := Lib.hid hJ
      obtain ⟨i, hJw, hDi⟩ := hJ
      have c0 := hJw.c0
      have c1' := hJw.c1
      have f1 := hJw.fz 1
      have hile := hJw.ile
      cases rest with
      | nil =>
        have hge : ¬ i < D.length := by
          have := congrArg List.length hDi; simp at this; omega
        have hge2 : D.length ≤ i := by omega
        have HR3 : Hid (res = .ok t []) := by show _ = _; rw [HR2.out, HALL.out]; rfl
        clear hJw hDi
        have hfs := HFR.out.size
        rw [World.size_alloc] at hfs
        have hBW : Below w.heap.size w wr := HW2.out.1.trans (HFR.out.toBelow (Nat.le_refl _) (by rw [World.size_alloc]; omega))
        have HBW := Lib.hid hBW
        have HROOT : Hid (wr.heap[w1.heap.size]? = some (.cells #[.int .u8 kd, .string sx, .slice a1 n1 c1, .slice a2 n2 c2] 206 (0, 0))) := by
          show _ = _
          rw [HFR.out.block _ (by rw [World.size_alloc]; omega) (by omega)]; exact HW2.out.2.2.1
        have HNDR : Hid (ND (fun k => k < wr.heap.size) wr [.int .u8 kd, .string sx, .slice a1 n1 c1, .slice a2 n2 c2] t) := nd_min (HW2.out.2.2.2.fr HFR.out (fun k hk => by omega))
        have hwr : w.heap.size < wr.heap.size := by omega
        have hwr2 : w1.heap.size < wr.heap.size := by omega
        clear hBW hfs HW2 HFR HJ
        go_wp2
        go_quiet (fail)
        go_wp2_with (fail)
        refine (grow_any wr.heap.size wr.heap.size D.length _ (Nat.le_refl _) (by rw [World.size_alloc]; exact Nat.le_succ _) (alloc_at (wr.drewN _) _) hD1 hlen).mono ?_
        rintro e w5 ⟨rfl, hF5, hW5⟩
        have hB5 : Below wr.heap.size wr w5 := ((belowN (Below.refl _ _) _).alloc (Nat.le_refl _) _).trans hF5.1
        have HB5 := Lib.hid hB5
        have HW5 := Lib.hid hW5
        have HND5 : Hid (ND (fun k => k < wr.heap.size) w5 [.int .u8 kd, .string sx, .slice a1 n1 c1, .slice a2 n2 c2] t) := HNDR.out.stay hB5
        have HROOT5 : Hid (w5.heap[w1.heap.size]? = some (.cells #[.int .u8 kd, .string sx, .slice a1 n1 c1, .slice a2 n2 c2] 206 (0, 0))) := by show _ = _; rw [hB5.block _ hwr2]; exact HROOT.out
        clear hF5 hW5 hB5
        obtain ⟨s0, s1, s2, s3, sf, sl⟩ := slot_cells HROOT5.out
        clear sf
        go_wp2_with (fail)
        refine (node_written wr.heap.size wr.heap.size w5 _ HND5.out w5 [] (Below.refl _ _) HW5.out (by have := HTL.out; simp; omega)).mono ?_
        rintro e w6 ⟨rfl, hF6, hW6⟩
        rw [List.nil_append] at hW6
        have HB6 := Lib.hid (HB5.out.trans hF6.1)
        have HW6 := Lib.hid hW6
        clear hF6 hW6 s0 s1 s2 s3
        go_wp2_with (fail)
        refine (Tryz.Buffer_Bytes wr.heap.size wr.heap.size (Lib.byteCells t) w6 HW6.out.1).mono ?_
        rintro e w7 ⟨v, rfl, hown, q, rfl⟩
        have HOWN := Lib.hid hown
        obtain ⟨aa, cc, rfl, _⟩ := ownsRow.slice hown
        rw [byteCells_length] at HOWN ⊢
        clear hown
        go_wp2
        go_ret2
        exact TPost.yes HR3.out (Nat.le_of_lt hwr) HOWN.out (belowN (HBW.out.trans (HB6.out.mono (Nat.le_of_lt hwr))) _)
      | cons x ys =>
        have hlt : i < D.length := by
          have := congrArg List.length hDi; simp at this; omega
        have hx := (drop_cons hDi).1
        have hcell : wr.cell? ⟨a, i, none⟩ = some (.int .u8 x.toNat) := by
          obtain ⟨b', off', e, _, _, h3⟩ := hJw.dat i x hx
          cases e; rw [Nat.zero_add] at h3; exact h3
        have HJX := Lib.hid hJw
        have HDX := Lib.hid (drop_cons hDi).2
        have hfs := HFR.out.size
        rw [World.size_alloc] at hfs
        have hBW : Below w.heap.size w wr := HW2.out.1.trans (HFR.out.toBelow (Nat.le_refl _) (by rw [World.size_alloc]; omega))
        have HBW := Lib.hid hBW
        have hwr : w.heap.size < wr.heap.size := by omega
        have e1 : ((i + 1 : Nat) : Int) = (i : Int) + 1 := by omega
        have HNXT : Hid (∀ q, JR ((wr.drewN q).setCell ⟨w.heap.size, 1, none⟩ (.int .i64 ((i : Int) + 1))) w.heap.size (some ⟨a, 0, none⟩) cp D ys 0 ∧ Fr w.heap.size (w1.alloc (.cells #[.int .u8 kd, .string sx, .slice a1 n1 c1, .slice a2 n2 c2] 206)) ((wr.drewN q).setCell ⟨w.heap.size, 1, none⟩ (.int .i64 ((i : Int) + 1)))) := fun q => by
          have h2 := (HJX.out.drewN q).set1 (i + 1) hlt
          rw [e1] at h2
          exact ⟨⟨i + 1, h2, HDX.out⟩, (HFR.out.drewN q).setCell (Or.inl rfl) _⟩
        clear hJw hDi hx hBW e1 HFR HJ
        go_wp2
        go_quiet (fail)
        go_wp2_with (fail)
        go_quiet ((go_at_call 85; exact quiet_left' (isWs_any _ _ _)))
        go_wp2_with (fail)
        · have hw : wsB x = false := by simpa using ‹(!wsB x) = true›
          have HE2 : Hid (res = .err) := by show _ = _; rw [HR2.out, HALL.out]; simp [hw]
          refine (errorsNew_any _ _).mono ?_
          rintro e w9 ⟨rfl, rfl⟩
          go_wp2
          first | go_ret2 | (rw [Exit.noGoto_ret]; go_ret2)
          exact TPost.no HE2.out ⟨_, _, rfl⟩ ((belowN HBW.out _).alloc (Nat.le_of_lt hwr) _)
        · have hw : wsB x = true := by simpa using ‹(!wsB x) = false›
          have HALL2 : Hid (r.all wsB = ys.all wsB) := by show _ = _; rw [HALL.out]; simp [hw]
          go_roundg (ys.length + 1)
          case measure => simp at hkq; omega
          case rel => exact ⟨ys, Nat.lt_succ_self _, HALL2.out, (HNXT.out _).1, (HNXT.out _).2⟩
theorem transD_idle (p q : Addr) (w : World) :
    CallsD Tryz.prog 59 #[.pointer (some p), .pointer (some q)] .returning w fun e u' w' => e = .returned (.tuple #[]) ∧ u' = .returning ∧ w' = w := by
  refine callsD_of_wpS Tryz.func59 rfl fun c₀ cs hu => ?_
  apply wpS_seq
  apply wpS_region
  simp [wpOpsS, go_sem, recoverD, hu, Tryz.ntmps59, Exit.thenS]
  refine wpS_cond (t := false) (by simp [Act.eval, Array.replicate]) ?_
  simp only [Bool.false_eq_true, if_false]
  refine wpS_of_wp (wp_skip ?_)
  cases c₀
  simp_all [bodyPostS, results, Tryz.results59]
def TIPost (o : Out) (w : World) (e : Ending) (w' : World) : Prop :=
  match o with
  | .stuck => True
  | .err => e = .returned (.tuple #[.slice none 0 0, .bool false]) ∧ Below w.heap.size w w'
  | .ok t _ => ∃ v B, e = .returned (.tuple #[v, .bool true]) ∧ w.heap.size ≤ B ∧ w'.ownsRow B 5 1 v t.length (Lib.byteCells t) ∧ Below w.heap.size w w'
theorem ownsRow_keep {w w' : World} {R k n : Nat} {T : TypeId} {v : Value} {xs : List Value} (h : w.ownsRow R T k v n xs) (hk : ∀ i, R ≤ i → w'.heap[i]? = w.heap[i]?) : w'.ownsRow R T k v n xs := by
  refine ⟨h.1, ?_⟩
  rcases h.2 with hn | ⟨g, cap, cur, rfl, hb, hg, rest⟩
  · exact .inl hn
  · exact .inr ⟨g, cap, cur, rfl, hb, by rw [hk g hb]; exact hg, rest⟩
set_option maxRecDepth 100000 in
set_option maxHeartbeats 8000000 in
theorem implTransform_any (lit : Lit) (hL : LitOK lit) (k : Nat) {w : World} {a cp N : Nat} {D : List UInt8} (hdat : ∀ (i : Nat) (x : UInt8), D[i]? = some x → w.cell? ⟨a, i, none⟩ = some (.int .u8 x.toNat)) (ha : a < w.heap.size) (hlen : D.length ≤ 4294967296)
    (hN : TL N w) (hns : pAll lit k D ≠ .stuck) (hT : ∀ t r, pElem lit k 0 D = .ok t r → t.length ≤ 549755813888) :
    Calls Tryz.prog 32 #[.slice (some ⟨a, 0, none⟩) D.length cp] w (TIPost (pAll lit k D) w) := by
  obtain ⟨i0, hi, hz0, hz1, hz2⟩ := info_parts info_u8
  have hmf : ∀ (fn : Fn) (first cap : Array Value) (w : World), (Instr.makeFunc fn first cap).run Tryz.prog w = .ok (.func fn first cap) w := fun _ _ _ _ => rfl
  have HDAT := Lib.hid hdat
  have HTL := Lib.hid hN
  have HNS := Lib.hid hns
  have HT := Lib.hid hT
  have HL := Lib.hid hL
  obtain ⟨W3, hW3⟩ : ∃ W3, W3 = ((w.alloc (.cells #[.slice none 0 0] 31)).alloc (.cells #[.bool false] 4)).alloc (.cells #[] 5) := ⟨_, rfl⟩
  have hs3 : W3.heap.size = w.heap.size + 3 := by rw [hW3, World.size_alloc, World.size_alloc, World.size_alloc]
  have hB3 : Below w.heap.size w W3 := by rw [hW3]; exact (((Below.refl _ _).alloc (Nat.le_refl _) _).alloc (by rw [World.size_alloc]; omega) _).alloc (by rw [World.size_alloc, World.size_alloc]; omega) _
  have HOWN : Hid (W3.ownsRow (w.heap.size + 2) 5 1 (.slice (some ⟨w.heap.size + 2, 0, none⟩) 0 0) 0 []) := by
    refine ⟨rfl, .inr ⟨w.heap.size + 2, 0, #[], rfl, Nat.le_refl _, ?_, Nat.le_refl _, by decide, rfl, rfl⟩⟩
    have := alloc_at ((w.alloc (.cells #[.slice none 0 0] 31)).alloc (.cells #[.bool false] 4)) (.cells #[] 5)
    rw [World.size_alloc, World.size_alloc] at this
    rw [hW3]; exact this
  have HNEW : Hid (∀ (j : Nat) (u : Value), (Lib.byteCells D)[j]? = some u → W3.cell? ((⟨a, 0, none⟩ : Addr).add j) = some u) := by
    intro j u hu
    rw [addrAdd, Nat.zero_add, hB3.cell (p := ⟨a, j, none⟩) ha]
    rw [Lib.byteCells, List.getElem?_map] at hu
    cases e : D[j]? with
    | none => rw [e] at hu; cases hu
    | some y => rw [e] at hu; cases hu; exact hdat j y e
  have HR1 : Hid (W3.heap[w.heap.size]? = some (.cells #[.slice none 0 0] 31 (0, 0)) ∧ W3.heap[w.heap.size + 1]? = some (.cells #[.bool false] 4 (0, 0))) := by
    refine ⟨?_, ?_⟩
    · have := alloc_at w (.cells #[.slice none 0 0] 31)
      rw [hW3, Below.heap_alloc _ _ _ (by rw [World.size_alloc, World.size_alloc]; omega), Below.heap_alloc _ _ _ (by rw [World.size_alloc]; omega)]; exact this
    · have := alloc_at (w.alloc (.cells #[.slice none 0 0] 31)) (.cells #[.bool false] 4)
      rw [World.size_alloc] at this
      rw [hW3, Below.heap_alloc _ _ _ (by rw [World.size_alloc, World.size_alloc]; omega)]; exact this
  have HB3 := Lib.hid hB3
  have HW3 := Lib.hid hW3
  clear hdat hN hns hT hL hW3 hB3
  go_enter_defers Tryz.func32, Tryz.ntmps32
  go_wp2_with (at_builtin; rw [← HW3.out]; refine wpList_append_own_at _ rfl _ _ 31 rfl (w.heap.size + 2) 5 i0 (.int .u8 0) 1 1 Tryz.underlying31 hi hz0 hz1 hz2 rfl (by decide) _ _ _ rfl HOWN.out ⟨a, 0, none⟩ D.length cp (Lib.byteCells D) rfl (by rw [byteCells_length, Nat.mul_one]) HNEW.out (byte_one D) (by unfold maxLen; omega) (by omega) (by omega) ?_)
  intro v' w4 hown hgr hnil hat
  obtain ⟨g, cap, cur, rfl, hg1, hg2, hg3, hg4⟩ : ∃ g cap cur, v' = .slice (some ⟨g, 0, none⟩) D.length cap ∧ w.heap.size + 2 ≤ g ∧ w4.heap[g]? = some (.cells cur 5 (0, 0)) ∧ D.length ≤ cap ∧ cap ≤ maxLen := by
    rcases hown.2 with ⟨rfl, _⟩ | ⟨g, cap, cur, rfl, h1, h2, h3, h4, _⟩
    · exact absurd rfl hnil
    · exact ⟨g, cap, cur, rfl, h1, h2, h3, h4⟩
  have hB4 : Below (w.heap.size + 2) W3 w4 := ⟨hgr.os, hgr.tape, hgr.output, hgr.size, fun k hk => hgr.block k (by rw [hs3]; omega) (fun e => by simp [Value.ownBlock] at e; omega)⟩
  have hBw : Below w.heap.size w w4 := HB3.out.trans (hB4.mono (by omega))
  have HBW := Lib.hid hBw
  have hgl : g < w4.heap.size := by
    rcases Nat.lt_or_ge g w4.heap.size with h | h
    · exact h
    · rw [Array.getElem?_eq_none h] at hg2; cases hg2
  have hs4 : w.heap.size + 3 ≤ w4.heap.size := by have := hgr.size; omega
  have HD4 : Hid (∀ (i : Nat) (x : UInt8), D[i]? = some x → w4.cell? ⟨g, i, none⟩ = some (.int .u8 x.toNat)) := by
    intro i x hx
    have := hown.cells (g := g) rfl i (.int .u8 x.toNat) (by rw [Lib.byteCells, List.getElem?_map, hx]; rfl)
    rw [addrAdd, Nat.zero_add] at this; exact this
  have HR4 : Hid (w4.heap[w.heap.size]? = some (.cells #[.slice none 0 0] 31 (0, 0)) ∧ w4.heap[w.heap.size + 1]? = some (.cells #[.bool false] 4 (0, 0))) :=
    ⟨by rw [hB4.block _ (by omega)]; exact HR1.out.1, by rw [hB4.block _ (by omega)]; exact HR1.out.2⟩
  have hN4 : ∃ N, TL N w4 := ⟨N, HTL.out.mono HTL.out.le hBw⟩
  obtain ⟨N4, hN4⟩ := hN4
  have HTL4 := Lib.hid hN4
  unfold maxLen at hg4
  clear hown hgr hnil hat hg2 hB4 hBw hN4 HR1 HB3 HOWN HNEW HW3
  go_wp2_with (fail)
  refine (transform_any lit HL.out k HD4.out hgl hlen ⟨hg3, hg4⟩ HTL4.out HNS.out HT.out).mono ?_
  rintro e w5 hP
  cases ho : pAll lit k D with
  | stuck => exact absurd ho HNS.out
  | err =>
    rw [ho] at hP
    obtain ⟨⟨v, ⟨tt, aa, rfl⟩, rfl⟩, hb5⟩ := hP
    have HB5 := Lib.hid (HBW.out.trans (hb5.mono (by omega)))
    have HR5 : Hid (w5.heap[w.heap.size]? = some (.cells #[.slice none 0 0] 31 (0, 0)) ∧ w5.heap[w.heap.size + 1]? = some (.cells #[.bool false] 4 (0, 0))) := ⟨by rw [hb5.block _ (by omega)]; exact HR4.out.1, by rw [hb5.block _ (by omega)]; exact HR4.out.2⟩
    have r0 : w5.cell? ⟨w.heap.size, 0, none⟩ = some (.slice none 0 0) := by simp [World.cell?, HR5.out.1]
    have r1 : w5.cell? ⟨w.heap.size + 1, 0, none⟩ = some (.bool false) := by simp [World.cell?, HR5.out.2]
    have z0 : w5.frozen? ⟨w.heap.size, 0, none⟩ = false := by simp [World.frozen?, HR5.out.1]
    have z1 : w5.frozen? ⟨w.heap.size + 1, 0, none⟩ = false := by simp [World.frozen?, HR5.out.2]
    have HO := Lib.hid ho
    clear ho hb5
    go_wp2_with (fail)
    go_region
    go_wp2
    refine leaves_cons (f := 59) (args := #[.pointer (some ⟨w.heap.size, 0, none⟩), .pointer (some ⟨w.heap.size + 1, 0, none⟩)]) (by simp) (by simp [go_sem]) ?_
    refine (transD_idle _ _ _).mono ?_
    rintro e u' w9 ⟨rfl, rfl, rfl⟩
    simp [Leaves, settle, results, Tryz.results32, go_sem, r0, r1]
    have HP : TIPost .err w (.returned (.tuple #[.slice none 0 0, .bool false])) (((w5.setCell ⟨w.heap.size, 0, none⟩ (.slice none 0 0)).setCell ⟨w.heap.size, 0, none⟩ (.slice none 0 0)).setCell ⟨w.heap.size + 1, 0, none⟩ (.bool false)).drew :=
      ⟨rfl, (((HB5.out.setCell (Nat.le_refl _) _).setCell (Nat.le_refl _) _).setCell (Nat.le_succ _) _).drew⟩
    rw [← HO.out] at HP
    exact HP
  | ok t r =>
    rw [ho] at hP
    obtain ⟨v, B, rfl, hB, hown5, hb5⟩ := hP
    have HB5 := Lib.hid (HBW.out.trans (hb5.mono (by omega)))
    have HR5 : Hid (w5.heap[w.heap.size]? = some (.cells #[.slice none 0 0] 31 (0, 0)) ∧ w5.heap[w.heap.size + 1]? = some (.cells #[.bool false] 4 (0, 0))) := ⟨by rw [hb5.block _ (by omega)]; exact HR4.out.1, by rw [hb5.block _ (by omega)]; exact HR4.out.2⟩
    have r0 : w5.cell? ⟨w.heap.size, 0, none⟩ = some (.slice none 0 0) := by simp [World.cell?, HR5.out.1]
    have r1 : w5.cell? ⟨w.heap.size + 1, 0, none⟩ = some (.bool false) := by simp [World.cell?, HR5.out.2]
    have z0 : w5.frozen? ⟨w.heap.size, 0, none⟩ = false := by simp [World.frozen?, HR5.out.1]
    have z1 : w5.frozen? ⟨w.heap.size + 1, 0, none⟩ = false := by simp [World.frozen?, HR5.out.2]
    have HOW := Lib.hid hown5
    have HO := Lib.hid ho
    have hBw : w.heap.size + 2 ≤ B := by omega
    obtain ⟨aa, cc, rfl, _⟩ := ownsRow.slice hown5
    clear ho hb5 hown5
    go_wp2_with (fail)
    go_region
    go_wp2
    refine leaves_cons (f := 59) (args := #[.pointer (some ⟨w.heap.size, 0, none⟩), .pointer (some ⟨w.heap.size + 1, 0, none⟩)]) (by simp) (by simp [go_sem]) ?_
    refine (transD_idle _ _ _).mono ?_
    rintro e u' w9 ⟨rfl, rfl, rfl⟩
    simp [Leaves, settle, results, Tryz.results32, go_sem, r0, r1]
    have hkeep : ∀ k, B ≤ k → (((w5.setCell ⟨w.heap.size, 0, none⟩ (.slice aa t.length cc)).setCell ⟨w.heap.size, 0, none⟩ (.slice aa t.length cc)).setCell ⟨w.heap.size + 1, 0, none⟩ (.bool true)).drew.heap[k]? = w5.heap[k]? := fun k hk =>
      (Below.heap_setCell _ _ _ _ (by simp only; omega)).trans ((Below.heap_setCell _ _ _ _ (by simp only; omega)).trans (Below.heap_setCell _ _ _ _ (by simp only; omega)))
    have HP : TIPost (.ok t r) w (.returned (.tuple #[.slice aa t.length cc, .bool true])) (((w5.setCell ⟨w.heap.size, 0, none⟩ (.slice aa t.length cc)).setCell ⟨w.heap.size, 0, none⟩ (.slice aa t.length cc)).setCell ⟨w.heap.size + 1, 0, none⟩ (.bool true)).drew :=
      ⟨_, B, rfl, by omega, ownsRow_keep HOW.out hkeep, (((HB5.out.setCell (Nat.le_refl _) _).setCell (Nat.le_refl _) _).setCell (Nat.le_succ _) _).drew⟩
    rw [← HO.out] at HP
    exact HP
end Go.Proofs.YtjganhmbjffjfaaGreatDoor
