/- writeNode: the canonical text of a node is written. -/
import Derived.Test.YtngifhngangpeaaGreatDoorN4
import Derived.Test.YtngifhngangpeaaGreatDoorJ8
import Derived.Lib.BufferOld
open Go Go.RowKit
namespace Go.Proofs.YtngifhngangpeaaGreatDoor

/-- A bytes.Buffer in block b that holds l; all of it from B on. -/
def WB (B b : Nat) (l : List UInt8) (w : World) : Prop := Lib.IsBuffer 87 5 B b (Lib.byteCells l) w ∧ B ≤ w.heap.size
/-- What writing leaves: all below B; and all blocks but the buffer's and rows of bytes. -/
def WF (B b : Nat) (w w' : World) : Prop := Below B w w' ∧ Lib.OthersKept 5 (some b) w w'
theorem WF.refl (B b : Nat) (w : World) : WF B b w w := ⟨Below.refl _ _, Lib.OthersKept.refl _ _ _⟩
theorem WF.trans {B b : Nat} {u v w : World} (h : WF B b u v) (k : WF B b v w) : WF B b u w := ⟨h.1.trans k.1, h.2.trans k.2⟩
theorem WF.old {B b : Nat} {u v w : World} (h : WF B b u v) (hB : B ≤ v.heap.size) (k : Below v.heap.size v w) : WF B b u w := ⟨h.1.trans (k.mono hB), h.2.below k⟩
theorem WB.old {B b : Nat} {l : List UInt8} {w w' : World} (h : WB B b l w) (k : Below w.heap.size w w') : WB B b l w' := ⟨h.1.old k, Nat.le_trans h.2 k.size⟩
theorem WB.alloc {B b : Nat} {l : List UInt8} {w : World} (h : WB B b l w) (o : Obj) : WB B b l (w.alloc o) := h.old ((Below.refl _ _).alloc (Nat.le_refl _) _)
theorem byte_one (l : List UInt8) : ∀ v ∈ Lib.byteCells l, v.oneCell' = true := by
  intro v hv; simp [Lib.byteCells] at hv; obtain ⟨x, _, rfl⟩ := hv; rfl
def WPost (B b : Nat) (l : List UInt8) (w : World) (e : Ending) (w' : World) : Prop := e = .returned (.tuple #[]) ∧ WF B b w w' ∧ WB B b l w'
theorem wByte {B b : Nat} {l : List UInt8} {w : World} (c : UInt8) (h : WB B b l w) (hl : l.length + 1 ≤ 140737488355328) :
    Calls Tryz.prog 54 #[.pointer (some ⟨b, 0, none⟩), .int .u8 c.toNat] w fun e w' => e = .returned .nilIface ∧ WF B b w w' ∧ WB B b (l ++ [c]) w' := by
  refine (Tryz.Buffer_WriteByte_k B b _ c.toNat w h.1 h.2 (byte_one l) (by rw [byteCells_length]; exact hl)).mono ?_
  rintro e w' ⟨rfl, h1, h2, h3⟩
  exact ⟨rfl, ⟨h2, h3⟩, by rw [byteCells_append]; exact h1, Nat.le_trans h.2 h2.size⟩
theorem wString {B b : Nat} {l : List UInt8} {w : World} (s : ByteArray) (h : WB B b l w) (hl : l.length + s.size ≤ 140737488355328) :
    Calls Tryz.prog 53 #[.pointer (some ⟨b, 0, none⟩), .string s] w fun e w' => e = .returned (.tuple #[.int .i64 s.size, .nilIface]) ∧ WF B b w w' ∧ WB B b (l ++ s.data.toList) w' := by
  refine (Tryz.Buffer_WriteString_k B b _ s w h.1 h.2 (byte_one l) (by rw [byteCells_length]; exact hl)).mono ?_
  rintro e w' ⟨rfl, h1, h2, h3⟩
  exact ⟨rfl, ⟨h2, h3⟩, by rw [byteCells_append]; exact h1, Nat.le_trans h.2 h2.size⟩
theorem WF.box {B b n : Nat} {w w' : World} {c : Array Value} (h : WF B b w w') (hn : w.heap[n]? = some (.cells c 135 (0, 0))) (hb : n ≠ b) : w'.heap[n]? = some (.cells c 135 (0, 0)) :=
  h.2 n _ hn (by intro e; cases e; exact hb rfl) (by intro c' fz e; cases e)
theorem joinC_take {l : List (List UInt8)} {k : Nat} {t : List UInt8} (h : l[k]? = some t) : joinC (l.take (k + 1)) = joinC (l.take k) ++ (if k = 0 then t else 44 :: t) := by
  have hl := (List.getElem?_eq_some_iff.1 h).1
  have e : l.take (k + 1) = l.take k ++ [t] := by
    rw [List.take_add_one, h]; rfl
  rw [e, joinC_snoc]
  by_cases hk : k = 0
  · subst hk; simp [joinC]
  · rw [if_neg (by intro h0; have := congrArg List.length h0; rw [List.length_take, List.length_nil] at this; omega), if_neg hk]
theorem joinC_app_le (a b : List (List UInt8)) : (joinC a).length ≤ (joinC (a ++ b)).length := by
  cases a with
  | nil => simp [joinC]
  | cons x a => simp [joinC]
theorem joinC_take_le {l : List (List UInt8)} (k : Nat) : (joinC (l.take k)).length ≤ (joinC l).length := by
  have := joinC_app_le (l.take k) (l.drop k)
  rwa [List.take_append_drop] at this
theorem flat4 {L : List (List Value × List UInt8)} (h4 : ∀ x ∈ L, x.1.length = 4) : ∀ {k m : Nat} {x : List Value × List UInt8} {u : Value}, L[k]? = some x → x.1[m]? = some u → (L.flatMap (·.1))[k * 4 + m]? = some u := by
  induction L with
  | nil => intro k m x u h; simp at h
  | cons y L ih =>
    intro k m x u hk hm
    have hy := h4 y (by simp)
    rw [List.flatMap_cons]
    cases k with
    | zero =>
      simp only [List.getElem?_cons_zero, Option.some.injEq] at hk
      subst hk
      have := (List.getElem?_eq_some_iff.1 hm).1
      rw [List.getElem?_append_left (by omega)]
      simpa using hm
    | succ k =>
      simp only [List.getElem?_cons_succ] at hk
      rw [List.getElem?_append_right (by omega), hy, show (k + 1) * 4 + m - 4 = k * 4 + m by omega]
      exact ih (fun z hz => h4 z (by simp [hz])) hk hm

theorem flatMap_get' {α : Type} (f : α → List Value) (k : Nat) (hk : 0 < k) (hf : ∀ x, (f x).length = k) : ∀ (L : List α) (j : Nat), (L.flatMap f)[j]? = (L[j / k]?).bind fun x => (f x)[j % k]?
  | [], j => by simp
  | x :: L, j => by
    rw [List.flatMap_cons]
    rcases Nat.lt_or_ge j k with h | h
    · rw [List.getElem?_append_left (by rw [hf]; exact h), Nat.div_eq_of_lt h, Nat.mod_eq_of_lt h]; rfl
    · rw [List.getElem?_append_right (by rw [hf]; exact h), hf, flatMap_get' f k hk hf L (j - k)]
      have h1 : j / k = (j - k) / k + 1 := by rw [Nat.div_eq_sub_div hk h]
      have h2 : j % k = (j - k) % k := by rw [Nat.mod_eq_sub_mod h]
      rw [h1, h2]; rfl

set_option maxRecDepth 100000 in
set_option maxHeartbeats 8000000 in
theorem node_written (B b : Nat) (w0 : World) (p : Value) {v : List Value} {t : List UInt8} (h : ND (fun k => k < B) w0 v t) :
    ∀ (w : World) (l : List UInt8), Below B w0 w → WB B b l w → l.length + t.length ≤ 1099511627776 → Calls Tryz.prog 67 #[p, .pointer (some ⟨b, 0, none⟩), .agg v.toArray] w (WPost B b (l ++ t) w) := by
  induction h with
  | scal s =>
    intro w l hb hW hl
    have HW := Lib.hid (hW.alloc (.cells #[.int .u8 0, .string s, .slice none 0 0, .slice none 0 0] 135))
    have HL : Hid (l.length + s.size ≤ 140737488355328) := by show _ ≤ _; rw [Lib.size_eq]; omega
    have HF := Lib.hid ((WF.refl B b w).old hW.2 ((Below.refl _ _).alloc (Nat.le_refl _) (.cells #[.int .u8 0, .string s, .slice none 0 0, .slice none 0 0] 135)))
    clear hb hW hl
    go_enter Tryz.func67, Tryz.ntmps67
    go_wp2_with (fail)
    refine (wString s HW.out HL.out).mono ?_
    rintro e w2 ⟨rfl, hF, hW2⟩
    go_wp2
    go_end0
    exact ⟨rfl, HF.out.trans hF, hW2⟩
  | arr n0 n c L hb0 hlt hn hc hm hv hcell ih =>
    intro w l hb hW hl
    have h4 : ∀ x ∈ L, x.1.length = 4 := fun x hx => (hv x hx).len
    have HV := Lib.hid hv
    have HIH := Lib.hid ih
    have HC0 := Lib.hid hcell
    have H4 := Lib.hid h4
    have HB := Lib.hid hb
    obtain ⟨T, hT⟩ : ∃ T, T = L.map (·.2) := ⟨_, rfl⟩
    rw [← hT] at hl ⊢
    have HT := Lib.hid hT
    have HLT : Hid (T.length = n) := by show _ = _; rw [hT, List.length_map]; exact hn
    have HLL : Hid (l.length + (joinC T).length + 2 ≤ 1099511627776) := by show _ ≤ _; simp at hl; omega
    have hjl : ∀ k, (joinC (T.take k)).length ≤ (joinC T).length := fun k => joinC_take_le k
    have HJL := Lib.hid hjl
    have hnn : n ≤ 9223372036854775807 := by unfold maxLen at hm; omega
    have HW := Lib.hid (hW.alloc (.cells #[.int .u8 1, .string ⟨#[]⟩, .slice (some ⟨n0, 0, none⟩) n c, .slice none 0 0] 135))
    have HF := Lib.hid ((WF.refl B b w).old hW.2 ((Below.refl _ _).alloc (Nat.le_refl _) (.cells #[.int .u8 1, .string ⟨#[]⟩, .slice (some ⟨n0, 0, none⟩) n c, .slice none 0 0] 135)))
    have HBX := Lib.hid (alloc_at w (.cells #[.int .u8 1, .string ⟨#[]⟩, .slice (some ⟨n0, 0, none⟩) n c, .slice none 0 0] 135))
    have hnb : w.heap.size ≠ b := by have := hW.1.lt; omega
    have HLN := Lib.hid hn
    clear hb hW hl hv hcell ih h4 hT hjl hn hm
    go_enter Tryz.func67, Tryz.ntmps67
    go_wp2_with (fail)
    refine (wByte 91 HW.out (by have := HLL.out; omega)).mono ?_
    rintro e w2 ⟨rfl, hF2, hW2⟩
    have HF2 := Lib.hid (HF.out.trans hF2)
    have HW2 := Lib.hid hW2
    have HBX2 := Lib.hid (hF2.box HBX.out hnb)
    obtain ⟨s0, s1, s2, s3, sf, sl⟩ := slot_cells HBX2.out
    clear hF2 hW2 HW HF HBX sf
    go_wp2_with (fail)
    go_loopw [21] (fun i wr => ∃ k : Nat, k ≤ n ∧ i = .int .i64 k ∧ Hid (WF B b w wr ∧ WB B b (l ++ 91 :: joinC (T.take k)) wr ∧ wr.heap[w.heap.size]? = some (.cells #[.int .u8 1, .string ⟨#[]⟩, .slice (some ⟨n0, 0, none⟩) n c, .slice none 0 0] 135 (0, 0)))) (fun i _ => n - (intOf i).toNat)
    case atStart => exact ⟨0, Nat.zero_le _, rfl, HF2.out, by simpa [joinC] using HW2.out, HBX2.out⟩
    case round =>
      obtain ⟨k, hk, rfl, HR⟩ := hrel
      clear HF2 HW2 HBX2 s0 s1 s2 s3 sl
      obtain ⟨s0, s1, s2, s3, sf, sl⟩ := slot_cells HR.out.2.2
      clear sf
      by_cases hlt2 : k < n
      · obtain ⟨x, hx⟩ : ∃ x, L[k]? = some x := ⟨_, List.getElem?_eq_getElem (by rw [HLN.out]; exact hlt2)⟩
        have hxm := List.mem_of_getElem? hx
        obtain ⟨y0, y1, y2, y3, hy⟩ := (HV.out x hxm).four
        have HTX : Hid (T[k]? = some x.2) := by show _ = _; rw [HT.out, List.getElem?_map, hx]; rfl
        have hcl : ∀ (m : Nat) (u : Value), [y0, y1, y2, y3][m]? = some u → wr.cell? ⟨n0, k * 4 + m, none⟩ = some u := fun m u hu => by
          have h1 := HC0.out (k * 4 + m) u (flat4 H4.out hx (by rw [hy]; exact hu))
          rw [← h1]
          exact (HB.out.trans HR.out.1.1).cell (p := ⟨n0, k * 4 + m, none⟩) hb0
        have d0 : wr.cell? ⟨n0, k * 4, none⟩ = some y0 := hcl 0 y0 rfl
        have d1 := hcl 1 y1 rfl
        have d2 := hcl 2 y2 rfl
        have d3 := hcl 3 y3 rfl
        have HXM := Lib.hid hxm
        have HY := Lib.hid hy
        clear hx hcl hxm hy
        have HLK : Hid ((joinC (T.take (k + 1))).length ≤ (joinC T).length ∧ joinC (T.take (k + 1)) = joinC (T.take k) ++ (if k = 0 then x.2 else 44 :: x.2)) := ⟨HJL.out _, joinC_take HTX.out⟩
        by_cases hk0 : k = 0
        · subst hk0
          go_wp2_with (fail)
          have hi := HIH.out x HXM.out wr (l ++ 91 :: joinC (T.take 0)) (HB.out.trans HR.out.1.1) HR.out.2.1 (by
            have h1 := HLK.out.1; rw [HLK.out.2] at h1; have := HLL.out; simp at h1 ⊢; simp [joinC] at *; omega)
          rw [HY.out] at hi
          refine hi.mono ?_
          clear hi
          rintro e w4 ⟨rfl, hF4, hW4⟩
          have HX4 := Lib.hid (show WF B b w w4 ∧ WB B b (l ++ 91 :: joinC (T.take (0 + 1))) w4 ∧ w4.heap[w.heap.size]? = some (.cells #[.int .u8 1, .string ⟨#[]⟩, .slice (some ⟨n0, 0, none⟩) n c, .slice none 0 0] 135 (0, 0)) from
            ⟨HR.out.1.trans hF4, by have := hW4; rw [joinC_take HTX.out, if_pos rfl]; simpa using this, hF4.box HR.out.2.2 hnb⟩)
          clear hF4 hW4
          go_wp2
          go_roundw
          case rel => exact ⟨0 + 1, by omega, by go_num, HX4.out⟩
          case measure => simp [intOf]; omega
        · have hk1 : 0 < k := by omega
          go_wp2_with (fail)
          refine (wByte 44 HR.out.2.1 (by have := HLL.out; have := HJL.out k; simp; omega)).mono ?_
          rintro e w3 ⟨rfl, hF3, hW3⟩
          have HF3 := Lib.hid hF3
          have HW3 := Lib.hid hW3
          have HBX3 := Lib.hid (hF3.box HR.out.2.2 hnb)
          have d0' : w3.cell? ⟨n0, k * 4, none⟩ = some y0 := (HF3.out.1.cell (p := ⟨n0, k * 4, none⟩) hb0).trans d0
          have d1' : w3.cell? ⟨n0, k * 4 + 1, none⟩ = some y1 := (HF3.out.1.cell (p := ⟨n0, k * 4 + 1, none⟩) hb0).trans d1
          have d2' : w3.cell? ⟨n0, k * 4 + 2, none⟩ = some y2 := (HF3.out.1.cell (p := ⟨n0, k * 4 + 2, none⟩) hb0).trans d2
          have d3' : w3.cell? ⟨n0, k * 4 + 3, none⟩ = some y3 := (HF3.out.1.cell (p := ⟨n0, k * 4 + 3, none⟩) hb0).trans d3
          clear s0 s1 s2 s3 d0 d1 d2 d3 hF3 hW3 sl
          obtain ⟨s0, s1, s2, s3, sf, sl⟩ := slot_cells HBX3.out
          clear sf
          go_wp2_with (fail)
          have hi := HIH.out x HXM.out w3 ((l ++ 91 :: joinC (T.take k)) ++ [44]) (HB.out.trans (HR.out.1.trans HF3.out).1) HW3.out (by
            have h1 := HLK.out.1; rw [HLK.out.2, if_neg hk0] at h1; have := HLL.out; simp at *; omega)
          rw [HY.out] at hi
          refine hi.mono ?_
          clear hi
          rintro e w4 ⟨rfl, hF4, hW4⟩
          have HX4 := Lib.hid (show WF B b w w4 ∧ WB B b (l ++ 91 :: joinC (T.take (k + 1))) w4 ∧ w4.heap[w.heap.size]? = some (.cells #[.int .u8 1, .string ⟨#[]⟩, .slice (some ⟨n0, 0, none⟩) n c, .slice none 0 0] 135 (0, 0)) from
            ⟨(HR.out.1.trans HF3.out).trans hF4, by have := hW4; rw [joinC_take HTX.out, if_neg hk0]; simpa using this, hF4.box HBX3.out hnb⟩)
          clear hF4 hW4
          go_wp2
          go_roundw
          case rel => exact ⟨k + 1, by omega, by go_num, HX4.out⟩
          case measure => simp [intOf]; omega
      · obtain rfl : k = n := by omega
        have HTK : Hid (T.take k = T) := by show _ = _; exact List.take_of_length_le (by rw [HLT.out]; exact Nat.le_refl _)
        have HW5 : Hid (WB B b (l ++ 91 :: joinC T) wr) := by show WB _ _ _ _; have := HR.out.2.1; rw [HTK.out] at this; exact this
        go_wp2_with (fail)
        refine (wByte 93 HW5.out (by have := HLL.out; simp; omega)).mono ?_
        rintro e w6 ⟨rfl, hF6, hW6⟩
        go_wp2
        first | go_end0 | (rw [Exit.noGoto_ret]; go_end0)
        exact ⟨rfl, HR.out.1.trans hF6, by simpa using hW6⟩
  | obj n0 n c L hb0 hlt hn hc hm hv hname hp hpc hcell ih =>
    intro w l hb hW hl
    have HV := Lib.hid hv
    have HIH := Lib.hid ih
    have HC0 := Lib.hid hcell
    have HP := Lib.hid hp
    have HPC := Lib.hid hpc
    have HNAME := Lib.hid hname
    have HB := Lib.hid hb
    obtain ⟨T, hT⟩ : ∃ T, T = L.map Mem.text := ⟨_, rfl⟩
    rw [← hT] at hl ⊢
    have HT := Lib.hid hT
    have HLT : Hid (T.length = n) := by show _ = _; rw [hT, List.length_map]; exact hn
    have HLL : Hid (l.length + (joinC T).length + 2 ≤ 1099511627776) := by show _ ≤ _; simp at hl; omega
    have hjl : ∀ k, (joinC (T.take k)).length ≤ (joinC T).length := fun k => joinC_take_le k
    have HJL := Lib.hid hjl
    have hnn : n ≤ 9223372036854775807 := by unfold maxLen at hm; omega
    have HW := Lib.hid (hW.alloc (.cells #[.int .u8 2, .string ⟨#[]⟩, .slice none 0 0, .slice (some ⟨n0, 0, none⟩) n c] 135))
    have HF := Lib.hid ((WF.refl B b w).old hW.2 ((Below.refl _ _).alloc (Nat.le_refl _) (.cells #[.int .u8 2, .string ⟨#[]⟩, .slice none 0 0, .slice (some ⟨n0, 0, none⟩) n c] 135)))
    have HBX := Lib.hid (alloc_at w (.cells #[.int .u8 2, .string ⟨#[]⟩, .slice none 0 0, .slice (some ⟨n0, 0, none⟩) n c] 135))
    have hnb : w.heap.size ≠ b := by have := hW.1.lt; omega
    have HLN := Lib.hid hn
    clear hb hW hl hv hcell ih hT hjl hn hm hp hpc hname
    go_enter Tryz.func67, Tryz.ntmps67
    go_wp2_with (fail)
    refine (wByte 123 HW.out (by have := HLL.out; omega)).mono ?_
    rintro e w2 ⟨rfl, hF2, hW2⟩
    have HF2 := Lib.hid (HF.out.trans hF2)
    have HW2 := Lib.hid hW2
    have HBX2 := Lib.hid (hF2.box HBX.out hnb)
    obtain ⟨s0, s1, s2, s3, sf, sl⟩ := slot_cells HBX2.out
    clear hF2 hW2 HW HF HBX sf
    go_wp2_with (fail)
    go_loopw [46] (fun i wr => ∃ k : Nat, k ≤ n ∧ i = .int .i64 k ∧ Hid (WF B b w wr ∧ WB B b (l ++ 123 :: joinC (T.take k)) wr ∧ wr.heap[w.heap.size]? = some (.cells #[.int .u8 2, .string ⟨#[]⟩, .slice none 0 0, .slice (some ⟨n0, 0, none⟩) n c] 135 (0, 0)))) (fun i _ => n - (intOf i).toNat)
    case atStart => exact ⟨0, Nat.zero_le _, rfl, HF2.out, by simpa [joinC] using HW2.out, HBX2.out⟩
    case round =>
      obtain ⟨k, hk, rfl, HR⟩ := hrel
      clear HF2 HW2 HBX2 s0 s1 s2 s3 sl
      by_cases hlt2 : k < n
      · obtain ⟨x, hx⟩ : ∃ x, L[k]? = some x := ⟨_, List.getElem?_eq_getElem (by rw [HLN.out]; exact hlt2)⟩
        have hxm := List.mem_of_getElem? hx
        obtain ⟨y0, y1, y2, y3, hy⟩ := (HV.out x hxm).four
        have HTX : Hid (T[k]? = some x.text) := by show _ = _; rw [HT.out, List.getElem?_map, hx]; rfl
        have hcl : ∀ (W : World), Below B w W → ∀ (m : Nat) (u : Value), x.cells[m]? = some u → W.cell? ⟨n0, k * 3 + m, none⟩ = some u := fun W hW m u hu => by
          have hm3 : m < 3 := by have := (List.getElem?_eq_some_iff.1 hu).1; exact this
          have h1 := HC0.out (k * 3 + m) u (by rw [flatMap_get' _ 3 (by omega) (fun _ => rfl), show (k * 3 + m) / 3 = k by omega, show (k * 3 + m) % 3 = m by omega, hx]; exact hu)
          rw [← h1]
          exact (HB.out.trans hW).cell (p := ⟨n0, k * 3 + m, none⟩) hb0
        have hpl : ∀ (W : World), Below B w W → ∀ (m : Nat) (u : Value), [y0, y1, y2, y3][m]? = some u → W.cell? ⟨x.p, m, none⟩ = some u := fun W hW m u hu => by
          have h1 := HPC.out x hxm m u (by rw [hy]; exact hu)
          rw [← h1]
          exact (HB.out.trans hW).cell (p := ⟨x.p, m, none⟩) (HP.out x hxm).1
        have HNM := Lib.hid (HNAME.out x hxm)
        have HXM := Lib.hid hxm
        have HY := Lib.hid hy
        have HTK0 := joinC_take HTX.out
        have HTK1 := HJL.out (k + 1)
        have HCL := Lib.hid hcl
        have HPL := Lib.hid hpl
        clear hx hxm hy hcl hpl
        by_cases hk0 : k = 0
        · subst hk0
          rw [if_pos rfl] at HTK0
          have HTK := Lib.hid HTK0
          have HLK : Hid ((joinC (T.take 0)).length + (deco x.name.data.toList).length + 1 + x.t.length ≤ (joinC T).length) := by
            show _ ≤ _
            have h1 := HTK1; rw [HTK0] at h1; simp only [List.length_append, Mem.text, List.length_cons] at h1; omega
          clear HTK0 HTK1
          have q0 : wr.cell? ⟨n0, 0 * 3, none⟩ = some (.string x.name) := HCL.out wr HR.out.1.1 0 _ rfl
          obtain ⟨s0, s1, s2, s3, sf, sl⟩ := slot_cells HR.out.2.2
          clear sf
          go_wp2_with (fail)
          refine (deco_any _ x.name _ HNM.out.1 HNM.out.2).mono ?_
          rintro e w4 ⟨rfl, hb4⟩
          have HF4 := Lib.hid (HR.out.1.old HR.out.2.1.2 hb4)
          have HW4 := Lib.hid (HR.out.2.1.old hb4)
          have HBX4 := Lib.hid (show w4.heap[w.heap.size]? = some (.cells #[.int .u8 2, .string ⟨#[]⟩, .slice none 0 0, .slice (some ⟨n0, 0, none⟩) n c] 135 (0, 0)) from by rw [hb4.block _ sl]; exact HR.out.2.2)
          have HDS : Hid ((⟨(deco x.name.data.toList).toArray⟩ : ByteArray).data.toList = deco x.name.data.toList) := rfl
          obtain ⟨DS, hDS⟩ : ∃ DS : ByteArray, DS = ⟨(deco x.name.data.toList).toArray⟩ := ⟨_, rfl⟩
          rw [← hDS] at HDS ⊢
          clear hDS s0 s1 s2 s3 sl q0 hb4
          go_wp2_with (fail)
          refine (wString DS HW4.out (by rw [Lib.size_eq, HDS.out]; have := HLK.out; have := HLL.out; simp only [List.length_append, List.length_cons] at *; omega)).mono ?_
          rintro e w5 ⟨rfl, hF5, hW5⟩
          have HF5 := Lib.hid (HF4.out.trans hF5)
          have HW5 := Lib.hid hW5
          have HBX5 := Lib.hid (hF5.box HBX4.out hnb)
          clear hF5 hW5
          go_wp2_with (fail)
          refine (wByte 58 HW5.out (by rw [HDS.out]; have := HLK.out; have := HLL.out; simp only [List.length_append, List.length_cons] at *; omega)).mono ?_
          rintro e w6 ⟨rfl, hF6, hW6⟩
          have HF6 := Lib.hid (HF5.out.trans hF6)
          have HW6 := Lib.hid hW6
          have HBX6 := Lib.hid (hF6.box HBX5.out hnb)
          have q2 : w6.cell? ⟨n0, 0 * 3 + 2, none⟩ = some (.pointer (some ⟨x.p, 0, none⟩)) := HCL.out w6 HF6.out.1 2 _ rfl
          have d0 := HPL.out w6 HF6.out.1 0 y0 rfl
          have d1 := HPL.out w6 HF6.out.1 1 y1 rfl
          have d2 := HPL.out w6 HF6.out.1 2 y2 rfl
          have d3 := HPL.out w6 HF6.out.1 3 y3 rfl
          clear hF6 hW6
          obtain ⟨s0, s1, s2, s3, sf, sl⟩ := slot_cells HBX6.out
          clear sf
          go_wp2_with (fail)
          have hi := HIH.out x HXM.out w6 _ (HB.out.trans HF6.out.1) HW6.out (by rw [HDS.out]; have := HLK.out; have := HLL.out; simp only [List.length_append, List.length_cons, List.length_nil] at *; omega)
          rw [HY.out] at hi
          refine hi.mono ?_
          clear hi
          rintro e w7 ⟨rfl, hF7, hW7⟩
          have HX7 := Lib.hid (show WF B b w w7 ∧ WB B b (l ++ 123 :: joinC (T.take (0 + 1))) w7 ∧ w7.heap[w.heap.size]? = some (.cells #[.int .u8 2, .string ⟨#[]⟩, .slice none 0 0, .slice (some ⟨n0, 0, none⟩) n c] 135 (0, 0)) from
            ⟨HF6.out.trans hF7, by have := hW7; rw [HDS.out] at this; rw [HTK.out]; simpa [Mem.text] using this, hF7.box HBX6.out hnb⟩)
          clear hF7 hW7
          go_wp2
          go_roundw
          case rel => exact ⟨0 + 1, by omega, by go_num, HX7.out⟩
          case measure => simp [intOf]; omega
        · rw [if_neg hk0] at HTK0
          have HTK := Lib.hid HTK0
          have HLK : Hid ((joinC (T.take k)).length + 1 + (deco x.name.data.toList).length + 1 + x.t.length ≤ (joinC T).length) := by
            show _ ≤ _
            have h1 := HTK1; rw [HTK0] at h1; simp only [List.length_append, Mem.text, List.length_cons] at h1; omega
          clear HTK0 HTK1
          have hkz : 0 < k := by omega
          obtain ⟨s0, s1, s2, s3, sf, sl⟩ := slot_cells HR.out.2.2
          clear sf
          go_wp2_with (fail)
          refine (wByte 44 HR.out.2.1 (by have := HLL.out; have := HJL.out k; simp; omega)).mono ?_
          rintro e w3 ⟨rfl, hF3, hW3⟩
          have HF3 := Lib.hid (HR.out.1.trans hF3)
          have HW3 := Lib.hid hW3
          have HBX3 := Lib.hid (hF3.box HR.out.2.2 hnb)
          clear hF3 hW3 s0 s1 s2 s3 sl
          have q0 : w3.cell? ⟨n0, k * 3, none⟩ = some (.string x.name) := HCL.out w3 HF3.out.1 0 _ rfl
          obtain ⟨s0, s1, s2, s3, sf, sl⟩ := slot_cells HBX3.out
          clear sf
          go_wp2_with (fail)
          refine (deco_any _ x.name _ HNM.out.1 HNM.out.2).mono ?_
          rintro e w4 ⟨rfl, hb4⟩
          have HF4 := Lib.hid (HF3.out.old HW3.out.2 hb4)
          have HW4 := Lib.hid (HW3.out.old hb4)
          have HBX4 := Lib.hid (show w4.heap[w.heap.size]? = some (.cells #[.int .u8 2, .string ⟨#[]⟩, .slice none 0 0, .slice (some ⟨n0, 0, none⟩) n c] 135 (0, 0)) from by rw [hb4.block _ sl]; exact HBX3.out)
          have HDS : Hid ((⟨(deco x.name.data.toList).toArray⟩ : ByteArray).data.toList = deco x.name.data.toList) := rfl
          obtain ⟨DS, hDS⟩ : ∃ DS : ByteArray, DS = ⟨(deco x.name.data.toList).toArray⟩ := ⟨_, rfl⟩
          rw [← hDS] at HDS ⊢
          clear hDS s0 s1 s2 s3 sl q0 hb4
          go_wp2_with (fail)
          refine (wString DS HW4.out (by rw [Lib.size_eq, HDS.out]; have := HLK.out; have := HLL.out; simp only [List.length_append, List.length_cons, List.length_nil] at *; omega)).mono ?_
          rintro e w5 ⟨rfl, hF5, hW5⟩
          have HF5 := Lib.hid (HF4.out.trans hF5)
          have HW5 := Lib.hid hW5
          have HBX5 := Lib.hid (hF5.box HBX4.out hnb)
          clear hF5 hW5
          go_wp2_with (fail)
          refine (wByte 58 HW5.out (by rw [HDS.out]; have := HLK.out; have := HLL.out; simp only [List.length_append, List.length_cons, List.length_nil] at *; omega)).mono ?_
          rintro e w6 ⟨rfl, hF6, hW6⟩
          have HF6 := Lib.hid (HF5.out.trans hF6)
          have HW6 := Lib.hid hW6
          have HBX6 := Lib.hid (hF6.box HBX5.out hnb)
          have q2 : w6.cell? ⟨n0, k * 3 + 2, none⟩ = some (.pointer (some ⟨x.p, 0, none⟩)) := HCL.out w6 HF6.out.1 2 _ rfl
          have d0 := HPL.out w6 HF6.out.1 0 y0 rfl
          have d1 := HPL.out w6 HF6.out.1 1 y1 rfl
          have d2 := HPL.out w6 HF6.out.1 2 y2 rfl
          have d3 := HPL.out w6 HF6.out.1 3 y3 rfl
          clear hF6 hW6
          obtain ⟨s0, s1, s2, s3, sf, sl⟩ := slot_cells HBX6.out
          clear sf
          go_wp2_with (fail)
          have hi := HIH.out x HXM.out w6 _ (HB.out.trans HF6.out.1) HW6.out (by rw [HDS.out]; have := HLK.out; have := HLL.out; simp only [List.length_append, List.length_cons, List.length_nil] at *; omega)
          rw [HY.out] at hi
          refine hi.mono ?_
          clear hi
          rintro e w7 ⟨rfl, hF7, hW7⟩
          have HX7 := Lib.hid (show WF B b w w7 ∧ WB B b (l ++ 123 :: joinC (T.take (k + 1))) w7 ∧ w7.heap[w.heap.size]? = some (.cells #[.int .u8 2, .string ⟨#[]⟩, .slice none 0 0, .slice (some ⟨n0, 0, none⟩) n c] 135 (0, 0)) from
            ⟨HF6.out.trans hF7, by have := hW7; rw [HDS.out] at this; rw [HTK.out]; simpa [Mem.text] using this, hF7.box HBX6.out hnb⟩)
          clear hF7 hW7
          go_wp2
          go_roundw
          case rel => exact ⟨k + 1, by omega, by go_num, HX7.out⟩
          case measure => simp [intOf]; omega
      · obtain rfl : k = n := by omega
        have HTK : Hid (T.take k = T) := by show _ = _; exact List.take_of_length_le (by rw [HLT.out]; exact Nat.le_refl _)
        have HW5 : Hid (WB B b (l ++ 123 :: joinC T) wr) := by show WB _ _ _ _; have := HR.out.2.1; rw [HTK.out] at this; exact this
        go_wp2_with (fail)
        refine (wByte 125 HW5.out (by have := HLL.out; simp; omega)).mono ?_
        rintro e w6 ⟨rfl, hF6, hW6⟩
        go_wp2
        first | go_end0 | (rw [Exit.noGoto_ret]; go_end0)
        exact ⟨rfl, HR.out.1.trans hF6, by simpa using hW6⟩
end Go.Proofs.YtngifhngangpeaaGreatDoor
