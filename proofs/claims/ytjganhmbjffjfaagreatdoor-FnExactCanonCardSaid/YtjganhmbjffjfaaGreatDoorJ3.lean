/- The reader's state. The reader's nextChar: what it returns, and where it stands behind it. The reader's isWhiteSpace, scan, scanFor, peek. The reader's scanFor and peek. -/
import Derived.Test.YtjganhmbjffjfaaGreatDoorT0
import Derived.Deep.LoopGhost
open Go Go.RowKit
namespace Go.Proofs.YtjganhmbjffjfaaGreatDoor

/-- The reader: its block, its bytes, where it stands, how deep. -/
structure JW (w : World) (j : Nat) (A : Option Addr) (c : Nat) (D : List UInt8) (i d : Nat) : Prop where
  blk : ∃ T, w.heap[j]? = some (.cells #[.slice A D.length c, .int .i64 i, .int .i64 d] T (0, 0))
  dat : ∀ k x, D[k]? = some x → ∃ b off, A = some ⟨b, off, none⟩ ∧ b ≠ j ∧ b < w.heap.size ∧ w.cell? ⟨b, off + k, none⟩ = some (.int .u8 x.toNat)
  len4 : D.length ≤ 4294967296
  cap : D.length ≤ c ∧ c ≤ 9223372036854775807
  ile : i ≤ D.length
  dle : d ≤ 20000
  tl : ∃ N, N ≤ j ∧ TL N w

section
variable {w w' : World} {j : Nat} {A : Option Addr} {c : Nat} {D : List UInt8} {i d : Nat}
theorem JW.len (h : JW w j A c D i d) : D.length ≤ 140737488355328 := by have := h.len4; omega
theorem JW.lt (h : JW w j A c D i d) : j < w.heap.size := by
  obtain ⟨T, hb⟩ := h.blk
  rcases Nat.lt_or_ge j w.heap.size with h | h
  · exact h
  · rw [Array.getElem?_eq_none h] at hb; cases hb
theorem JW.c0 (h : JW w j A c D i d) : w.cell? ⟨j, 0, none⟩ = some (.slice A D.length c) := by
  obtain ⟨T, hb⟩ := h.blk; simp [World.cell?, hb]
theorem JW.c1 (h : JW w j A c D i d) : w.cell? ⟨j, 1, none⟩ = some (.int .i64 i) := by
  obtain ⟨T, hb⟩ := h.blk; simp [World.cell?, hb]
theorem JW.c2 (h : JW w j A c D i d) : w.cell? ⟨j, 2, none⟩ = some (.int .i64 d) := by
  obtain ⟨T, hb⟩ := h.blk; simp [World.cell?, hb]
theorem JW.fz (h : JW w j A c D i d) (k : Nat) : w.frozen? ⟨j, k, none⟩ = false := by
  obtain ⟨T, hb⟩ := h.blk; simp [World.frozen?, hb]
theorem JW.fr (h : JW w j A c D i d) (f : Fr j w w') {i' d' : Nat} (hb : ∃ T, w'.heap[j]? = some (.cells #[.slice A D.length c, .int .i64 i', .int .i64 d'] T (0, 0))) (hi : i' ≤ D.length) (hd : d' ≤ 20000) : JW w' j A c D i' d' := by
  refine ⟨hb, fun k x hk => ?_, h.len4, h.cap, hi, hd, by obtain ⟨N, hN, ht⟩ := h.tl; exact ⟨N, hN, ht.fr hN f⟩⟩
  obtain ⟨b, off, rfl, h1, h2, h3⟩ := h.dat k x hk
  exact ⟨b, off, rfl, h1, Nat.lt_of_lt_of_le h2 f.size, by rw [f.cell h2 h1]; exact h3⟩
theorem JW.drewN (h : JW w j A c D i d) (n : Nat) : JW (w.drewN n) j A c D i d := ⟨h.blk, h.dat, h.len4, h.cap, h.ile, h.dle, h.tl⟩
theorem JW.drew (h : JW w j A c D i d) : JW w.drew j A c D i d := ⟨h.blk, h.dat, h.len4, h.cap, h.ile, h.dle, h.tl⟩
theorem JW.below (h : JW w j A c D i d) (hb : Below w.heap.size w w') : JW w' j A c D i d :=
  h.fr (Fr.of_below hb) (by obtain ⟨T, e⟩ := h.blk; exact ⟨T, by rw [hb.block j h.lt]; exact e⟩) h.ile h.dle
theorem JW.set1 (h : JW w j A c D i d) (i' : Nat) (hi : i' ≤ D.length) : JW (w.setCell ⟨j, 1, none⟩ (.int .i64 i')) j A c D i' d :=
  h.fr ((Fr.refl j w).setCell (Or.inl rfl) _) (by obtain ⟨T, e⟩ := h.blk; exact ⟨T, by
    have hl := h.lt
    simp [World.setCell, Array.getElem?_modify, e]⟩) hi h.dle
theorem JW.set2 (h : JW w j A c D i d) (d' : Nat) (hd : d' ≤ 20000) : JW (w.setCell ⟨j, 2, none⟩ (.int .i64 d')) j A c D i d' :=
  h.fr ((Fr.refl j w).setCell (Or.inl rfl) _) (by obtain ⟨T, e⟩ := h.blk; exact ⟨T, by
    have hl := h.lt
    simp [World.setCell, Array.getElem?_modify, e]⟩) h.ile hd
end

set_option maxHeartbeats 400000 in
theorem errorsNew_any (s : ByteArray) (w : World) :
    Calls Tryz.prog 63 #[.string s] w fun e w' => e = .returned (.iface 221 (.pointer (some ⟨w.heap.size, 0, none⟩))) ∧ w.alloc (.cells #[.string s] 223) = w' := by
  go_enter Tryz.func63, Tryz.ntmps63
  go_wp2
  go_ret
  exact ⟨rfl, rfl⟩

set_option maxHeartbeats 400000 in
theorem next_ok0 (w : World) (j b off n c i : Nat) (x : Int) (hn : n ≤ 140737488355328)
    (h0 : w.cell? ⟨j, 0, none⟩ = some (.slice (some ⟨b, off, none⟩) n c)) (h1 : w.cell? ⟨j, 1, none⟩ = some (.int .i64 (i : Int)))
    (hx : w.cell? ⟨b, off + i, none⟩ = some (.int .u8 x)) (hlt : i < n) (hf : w.frozen? ⟨j, 1, none⟩ = false) (h127 : x ≤ 127) :
    Calls Tryz.prog 130 #[.pointer (some ⟨j, 0, none⟩)] w fun e w' => e = .returned (.tuple #[.int .u8 x, .nilIface]) ∧ ∃ m, (w.setCell ⟨j, 1, none⟩ (.int .i64 (i + 1))).drewN m = w' := by
  go_enter Tryz.func130, Tryz.ntmps130
  go_wp2
  go_quiet (fail)
  go_wp2
  go_quiet (fail)
  go_wp2
  go_ret2
  exact ⟨rfl, _, rfl⟩

set_option maxHeartbeats 400000 in
theorem next_high0 (w : World) (j b off n c i : Nat) (x : Int) (_hn : n ≤ 140737488355328)
    (h0 : w.cell? ⟨j, 0, none⟩ = some (.slice (some ⟨b, off, none⟩) n c)) (h1 : w.cell? ⟨j, 1, none⟩ = some (.int .i64 (i : Int)))
    (hx : w.cell? ⟨b, off + i, none⟩ = some (.int .u8 x)) (hlt : i < n) (h127 : ¬ x ≤ 127) :
    Calls Tryz.prog 130 #[.pointer (some ⟨j, 0, none⟩)] w fun e w' => (∃ a, e = .returned (.tuple #[.int .u8 0, .iface 221 a])) ∧ Below w.heap.size w w' := by
  go_enter Tryz.func130, Tryz.ntmps130
  go_wp2
  go_quiet (fail)
  go_wp2
  go_quiet (fail)
  go_wp2_with (go_at_call 63; refine (errorsNew_any _ _).mono ?_; rintro e w' ⟨rfl, rfl⟩)
  go_ret2
  exact ⟨⟨_, rfl⟩, ⟨rfl, rfl, rfl, by simp, fun k hk => Below.heap_alloc _ _ k hk⟩⟩

set_option maxHeartbeats 400000 in
theorem next_eof0 (w : World) (j n c i : Nat) (A : Option Addr) (_hn : n ≤ 140737488355328)
    (h0 : w.cell? ⟨j, 0, none⟩ = some (.slice A n c)) (h1 : w.cell? ⟨j, 1, none⟩ = some (.int .i64 (i : Int)))
    (hlt : ¬ i < n) :
    Calls Tryz.prog 130 #[.pointer (some ⟨j, 0, none⟩)] w fun e w' => (∃ a, e = .returned (.tuple #[.int .u8 0, .iface 221 a])) ∧ Below w.heap.size w w' := by
  go_enter Tryz.func130, Tryz.ntmps130
  go_wp2
  go_quiet (fail)
  go_wp2_with (go_at_call 63; refine (errorsNew_any _ _).mono ?_; rintro e w' ⟨rfl, rfl⟩)
  go_ret2
  exact ⟨⟨_, rfl⟩, ⟨rfl, rfl, rfl, by simp, fun k hk => Below.heap_alloc _ _ k hk⟩⟩

/-- An error that is one. -/
def IsErr (v : Value) : Prop := ∃ t a, v = .iface t a

/-- nextChar at a sign of ASCII. -/
def NextOk (w : World) (j : Nat) (A : Option Addr) (c : Nat) (D : List UInt8) (i d : Nat) (x : UInt8) (e : Ending) (w' : World) : Prop :=
  e = .returned (.tuple #[.int .u8 x.toNat, .nilIface]) ∧ Fr j w w' ∧ JW w' j A c D (i + 1) d
theorem next_ok {w : World} {j : Nat} {A : Option Addr} {c : Nat} {D : List UInt8} {i d : Nat} {x : UInt8} (h : JW w j A c D i d) (hx : D[i]? = some x) (h7 : x.toNat ≤ 127) :
    Calls Tryz.prog 130 #[.pointer (some ⟨j, 0, none⟩)] w (NextOk w j A c D i d x) := by
  obtain ⟨b, off, rfl, hbj, hbl, hc⟩ := h.dat i x hx
  have hlt : i < D.length := (List.getElem?_eq_some_iff.1 hx).1
  refine (next_ok0 w j b off D.length c i x.toNat h.len h.c0 h.c1 hc hlt (h.fz 1) (by omega)).mono ?_
  rintro e w' ⟨rfl, m, rfl⟩
  exact ⟨rfl, (((Fr.refl j w).setCell (Or.inl rfl) _).drewN m), (h.set1 (i + 1) (by omega)).drewN m⟩

/-- nextChar at a byte beyond ASCII, or at the end: an error. -/
def NextErr (w : World) (j : Nat) (A : Option Addr) (c : Nat) (D : List UInt8) (i d : Nat) (e : Ending) (w' : World) : Prop :=
  ∃ v, IsErr v ∧ e = .returned (.tuple #[.int .u8 0, v]) ∧ Fr j w w' ∧ JW w' j A c D i d
theorem next_err {w : World} {j : Nat} {A : Option Addr} {c : Nat} {D : List UInt8} {i d : Nat} (h : JW w j A c D i d) (hx : ∀ x, D[i]? = some x → 127 < x.toNat) :
    Calls Tryz.prog 130 #[.pointer (some ⟨j, 0, none⟩)] w (NextErr w j A c D i d) := by
  cases e : D[i]? with
  | none =>
    refine (next_eof0 w j D.length c i A h.len h.c0 h.c1 (by have := List.getElem?_eq_none_iff.1 e; omega)).mono ?_
    rintro e w' ⟨⟨a, rfl⟩, hb⟩
    exact ⟨_, ⟨_, a, rfl⟩, rfl, Fr.of_below hb, h.below hb⟩
  | some x =>
    obtain ⟨b, off, rfl, hbj, hbl, hc⟩ := h.dat i x e
    have hlt : i < D.length := (List.getElem?_eq_some_iff.1 e).1
    have h7 := hx x e
    refine (next_high0 w j b off D.length c i x.toNat h.len h.c0 h.c1 hc hlt (by omega)).mono ?_
    rintro e w' ⟨⟨a, rfl⟩, hb⟩
    exact ⟨_, ⟨_, a, rfl⟩, rfl, Fr.of_below hb, h.below hb⟩

def wsB (x : UInt8) : Bool := x == 32 || x == 10 || x == 13 || x == 9

theorem u8_ne {x : UInt8} {n : Nat} (hn : n < 256) (h : ¬ x = UInt8.ofNat n) : ((x.toNat : Int) == (n : Int)) = false := by
  rw [beq_eq_false_iff_ne]
  intro e
  apply h
  apply UInt8.toNat_inj.1
  have : x.toNat = n := by exact_mod_cast e
  rw [this]; simp; omega

set_option maxHeartbeats 400000 in
theorem isWs_any (p : Value) (x : UInt8) (w : World) :
    Calls Tryz.prog 85 #[p, .int .u8 x.toNat] w fun e w' => e = .returned (.bool (wsB x)) ∧ w = w' := by
  by_cases h1 : x = 32
  · subst h1
    go_enter Tryz.func85, Tryz.ntmps85
    go_wp2
    go_ret
    exact ⟨rfl, rfl⟩
  by_cases h2 : x = 10
  · subst h2
    go_enter Tryz.func85, Tryz.ntmps85
    go_wp2
    go_ret
    exact ⟨rfl, rfl⟩
  by_cases h3 : x = 13
  · subst h3
    go_enter Tryz.func85, Tryz.ntmps85
    go_wp2
    go_ret
    exact ⟨rfl, rfl⟩
  by_cases h4 : x = 9
  · subst h4
    go_enter Tryz.func85, Tryz.ntmps85
    go_wp2
    go_ret
    exact ⟨rfl, rfl⟩
  have hw : wsB x = false := by simp [wsB, h1, h2, h3, h4]
  have H := Lib.hid hw
  clear hw
  have e1 : ((x.toNat : Int) == 32) = false := u8_ne (n := 32) (by omega) h1
  have e2 : ((x.toNat : Int) == 10) = false := u8_ne (n := 10) (by omega) h2
  have e3 : ((x.toNat : Int) == 13) = false := u8_ne (n := 13) (by omega) h3
  have e4 : ((x.toNat : Int) == 9) = false := u8_ne (n := 9) (by omega) h4
  clear h1 h2 h3 h4
  go_enter Tryz.func85, Tryz.ntmps85
  go_wp2
  go_ret
  exact ⟨by rw [H.out]; rfl, rfl⟩

/-- The reader with rest ahead of it. -/
def JR (w : World) (j : Nat) (A : Option Addr) (c : Nat) (D rest : List UInt8) (d : Nat) : Prop := ∃ i, JW w j A c D i d ∧ D.drop i = rest
/-- The reader that has just read x. -/
def JQ (w : World) (j : Nat) (A : Option Addr) (c : Nat) (D : List UInt8) (x : UInt8) (r : List UInt8) (d : Nat) : Prop := ∃ i, JW w j A c D (i + 1) d ∧ D.drop i = x :: r

theorem drop_cons {D : List UInt8} {i : Nat} {x : UInt8} {r : List UInt8} (h : D.drop i = x :: r) : D[i]? = some x ∧ D.drop (i + 1) = r := by
  constructor
  · have := congrArg List.head? h
    simpa [List.head?_drop] using this
  · rw [← List.drop_drop, h]; rfl
theorem JQ.toR {w : World} {j : Nat} {A : Option Addr} {c : Nat} {D : List UInt8} {x : UInt8} {r : List UInt8} {d : Nat} (h : JQ w j A c D x r d) : JR w j A c D r d := by
  obtain ⟨i, h, e⟩ := h; exact ⟨_, h, (drop_cons e).2⟩
section
variable {w w' : World} {j : Nat} {A : Option Addr} {c : Nat} {D rest : List UInt8} {x : UInt8} {r : List UInt8} {d : Nat}
theorem JR.drewN (h : JR w j A c D rest d) (n : Nat) : JR (w.drewN n) j A c D rest d := by obtain ⟨i, h, e⟩ := h; exact ⟨i, h.drewN n, e⟩
theorem JR.below (h : JR w j A c D rest d) (hb : Below w.heap.size w w') : JR w' j A c D rest d := by obtain ⟨i, h, e⟩ := h; exact ⟨i, h.below hb, e⟩
theorem JR.lt (h : JR w j A c D rest d) : j < w.heap.size := by obtain ⟨i, h, e⟩ := h; exact h.lt
theorem JQ.drewN (h : JQ w j A c D x r d) (n : Nat) : JQ (w.drewN n) j A c D x r d := by obtain ⟨i, h, e⟩ := h; exact ⟨i, h.drewN n, e⟩
theorem JQ.below (h : JQ w j A c D x r d) (hb : Below w.heap.size w w') : JQ w' j A c D x r d := by obtain ⟨i, h, e⟩ := h; exact ⟨i, h.below hb, e⟩
end

/-- What a call gives that reads on. -/
def ReadOk (w : World) (j : Nat) (A : Option Addr) (c : Nat) (D : List UInt8) (x : UInt8) (r : List UInt8) (d : Nat) (e : Ending) (w' : World) : Prop :=
  e = .returned (.tuple #[.int .u8 x.toNat, .nilIface]) ∧ Fr j w w' ∧ JQ w' j A c D x r d
def ReadErr (w : World) (j : Nat) (A : Option Addr) (c : Nat) (D : List UInt8) (d : Nat) (e : Ending) (w' : World) : Prop :=
  ∃ v, IsErr v ∧ e = .returned (.tuple #[.int .u8 0, v]) ∧ Fr j w w' ∧ ∃ r, JR w' j A c D r d

theorem next_cons {w : World} {j : Nat} {A : Option Addr} {c : Nat} {D : List UInt8} {x : UInt8} {r : List UInt8} {d : Nat} (h : JR w j A c D (x :: r) d) (h7 : x.toNat ≤ 127) :
    Calls Tryz.prog 130 #[.pointer (some ⟨j, 0, none⟩)] w (ReadOk w j A c D x r d) := by
  obtain ⟨i, h, e⟩ := h
  refine (next_ok h (drop_cons e).1 h7).mono ?_
  rintro e w' ⟨rfl, f, h'⟩
  exact ⟨rfl, f, i, h', ‹_›⟩
theorem next_stop {w : World} {j : Nat} {A : Option Addr} {c : Nat} {D rest : List UInt8} {d : Nat} (h : JR w j A c D rest d) (h7 : ∀ x r, rest = x :: r → 127 < x.toNat) :
    Calls Tryz.prog 130 #[.pointer (some ⟨j, 0, none⟩)] w (ReadErr w j A c D d) := by
  obtain ⟨i, h, e⟩ := h
  refine (next_err h ?_).mono ?_
  · intro x hx
    have hl := (List.getElem?_eq_some_iff.1 hx).1
    refine h7 x (D.drop (i + 1)) ?_
    rw [← e, List.drop_eq_getElem_cons hl, (List.getElem?_eq_some_iff.1 hx).2]
  · rintro e w' ⟨v, hv, rfl, f, h'⟩
    exact ⟨v, hv, rfl, f, _, i, h', rfl⟩

theorem dropWhile_head {p : UInt8 → Bool} {l : List UInt8} {x : UInt8} {r : List UInt8} (h : l.dropWhile p = x :: r) : p x = false := by
  induction l with
  | nil => simp at h
  | cons y l ih =>
    by_cases hy : p y = true
    · rw [List.dropWhile_cons_of_pos hy] at h; exact ih h
    · rw [List.dropWhile_cons_of_neg hy] at h; cases h; simpa using hy

set_option maxHeartbeats 400000 in
theorem scan_ok {w : World} {j : Nat} {A : Option Addr} {c : Nat} {D rest : List UInt8} {d : Nat} {x : UInt8} {r : List UInt8} (h : JR w j A c D rest d) (hr : rest.dropWhile wsB = x :: r) (h7 : x.toNat ≤ 127) :
    Calls Tryz.prog 110 #[.pointer (some ⟨j, 0, none⟩)] w (ReadOk w j A c D x r d) := by
  have HR := Lib.hid hr
  clear hr
  go_enter Tryz.func110, Tryz.ntmps110
  go_wp2
  go_loopg [4] (rest.length) (fun kq v4 wr => Fr j w wr ∧ ∃ rest', rest'.length = kq ∧ JR wr j A c D rest' d ∧ Hid (rest'.dropWhile wsB = x :: r))
  case atStart => exact ⟨Fr.refl _ _, rest, rfl, h, HR⟩
  case round =>
    obtain ⟨hf, rest', hk, hJ, HR'⟩ := hrel
    have HK := Lib.hid hk
    clear hk
    cases rest' with
    | nil => exact absurd HR'.out (by simp)
    | cons y ys =>
      by_cases hy : wsB y = true
      · have hy7 : y.toNat ≤ 127 := by
          simp only [wsB, Bool.or_eq_true, beq_iff_eq] at hy
          rcases hy with ((rfl | rfl) | rfl) | rfl <;> decide
        have HR2 := Lib.hid ((List.dropWhile_cons_of_pos hy).symm.trans HR'.out)
        clear HR'
        go_wp2_with (first | (go_at_call 130; refine (next_cons hJ hy7).mono ?_; rintro e w' ⟨rfl, hf1, hq⟩) | (go_at_call 85; refine (isWs_any _ _ _).mono ?_; rintro e w' ⟨rfl, rfl⟩))
        go_roundg (ys.length)
        case measure => have := HK.out; simp at this; omega
        case rel => exact ⟨hf.trans hf1, ys, rfl, hq.toR, HR2⟩
      · have hy : wsB y = false := by simpa using hy
        have he := (List.dropWhile_cons_of_neg (by simpa using hy)).symm.trans HR'.out
        injection he with he1 he2
        subst he1 he2
        clear HR' HR
        go_wp2_with (first | (go_at_call 130; refine (next_cons hJ h7).mono ?_; rintro e w' ⟨rfl, hf1, hq⟩) | (go_at_call 85; refine (isWs_any _ _ _).mono ?_; rintro e w' ⟨rfl, rfl⟩))
        go_ret2
        exact ⟨rfl, hf.trans hf1, hq⟩

set_option maxHeartbeats 400000 in
theorem scan_err {w : World} {j : Nat} {A : Option Addr} {c : Nat} {D rest : List UInt8} {d : Nat} (h : JR w j A c D rest d) (hr : ∀ x r, rest.dropWhile wsB = x :: r → 127 < x.toNat) :
    Calls Tryz.prog 110 #[.pointer (some ⟨j, 0, none⟩)] w (ReadErr w j A c D d) := by
  have HR := Lib.hid hr
  clear hr
  go_enter Tryz.func110, Tryz.ntmps110
  go_wp2
  go_loopg [4] (rest.length) (fun kq v4 wr => Fr j w wr ∧ ∃ rest', rest'.length = kq ∧ JR wr j A c D rest' d ∧ Hid (∀ x r, rest'.dropWhile wsB = x :: r → 127 < x.toNat))
  case atStart => exact ⟨Fr.refl _ _, rest, rfl, h, HR⟩
  case round =>
    obtain ⟨hf, rest', hk, hJ, HR'⟩ := hrel
    have HK := Lib.hid hk
    clear hk
    by_cases hy : ∃ y ys, rest' = y :: ys ∧ wsB y = true
    · obtain ⟨y, ys, rfl, hy⟩ := hy
      have hy7 : y.toNat ≤ 127 := by
        simp only [wsB, Bool.or_eq_true, beq_iff_eq] at hy
        rcases hy with ((rfl | rfl) | rfl) | rfl <;> decide
      have HR2 := Lib.hid (show ∀ x r, ys.dropWhile wsB = x :: r → 127 < x.toNat from fun x r e => HR'.out x r ((List.dropWhile_cons_of_pos hy).trans e))
      clear HR'
      go_wp2_with (first | (go_at_call 130; refine (next_cons hJ hy7).mono ?_; rintro e w' ⟨rfl, hf1, hq⟩) | (go_at_call 85; refine (isWs_any _ _ _).mono ?_; rintro e w' ⟨rfl, rfl⟩))
      go_roundg (ys.length)
      case measure => have := HK.out; simp at this; omega
      case rel => exact ⟨hf.trans hf1, ys, rfl, hq.toR, HR2⟩
    · have HS := Lib.hid (show ∀ x r, rest' = x :: r → 127 < x.toNat from fun x r e => HR'.out x r (by
        subst e
        rw [List.dropWhile_cons_of_neg]
        exact fun hx => hy ⟨_, _, rfl, hx⟩))
      clear hy HR' HR
      go_wp2_with (first | (go_at_call 130; refine (next_stop hJ HS.out).mono ?_; rintro e w' ⟨v, ⟨t, a, rfl⟩, rfl, hf1, hq⟩))
      go_ret2
      exact ⟨_, ⟨_, _, rfl⟩, rfl, hf.trans hf1, hq⟩

def ErrOnly (w : World) (j : Nat) (A : Option Addr) (c : Nat) (D : List UInt8) (d : Nat) (e : Ending) (w' : World) : Prop :=
  ∃ v, IsErr v ∧ e = .returned v ∧ Fr j w w' ∧ ∃ r, JR w' j A c D r d

theorem u8_cast_ne {x y : UInt8} (h : ¬ y = x) : ((y.toNat : Int) == (x.toNat : Int)) = false := by
  rw [beq_eq_false_iff_ne]
  intro e
  exact h (UInt8.toNat_inj.1 (by exact_mod_cast e))

set_option maxHeartbeats 400000 in
theorem scanFor_ok {w : World} {j : Nat} {A : Option Addr} {c : Nat} {D rest : List UInt8} {d : Nat} {x : UInt8} {r : List UInt8} (h : JR w j A c D rest d) (hr : rest.dropWhile wsB = x :: r) (h7 : x.toNat ≤ 127) :
    Calls Tryz.prog 165 #[.pointer (some ⟨j, 0, none⟩), .int .u8 x.toNat] w fun e w' => e = .returned .nilIface ∧ Fr j w w' ∧ JR w' j A c D r d := by
  have HR := Lib.hid hr
  clear hr
  go_enter Tryz.func165, Tryz.ntmps165
  go_wp2_with (go_at_call 110; refine (scan_ok h HR.out h7).mono ?_; rintro e w' ⟨rfl, hf1, hq⟩)
  go_ret
  exact ⟨rfl, hf1, hq.toR⟩

set_option maxHeartbeats 400000 in
theorem scanFor_err {w : World} {j : Nat} {A : Option Addr} {c : Nat} {D rest : List UInt8} {d : Nat} {x : UInt8} (h : JR w j A c D rest d) (hr : ∀ r, ¬ rest.dropWhile wsB = x :: r) :
    Calls Tryz.prog 165 #[.pointer (some ⟨j, 0, none⟩), .int .u8 x.toNat] w (ErrOnly w j A c D d) := by
  by_cases hy : ∃ y ys, rest.dropWhile wsB = y :: ys ∧ y.toNat ≤ 127
  · obtain ⟨y, ys, hyr, h7⟩ := hy
    have hne : ¬ y = x := fun e => hr ys (by rw [hyr, e])
    have hb := u8_cast_ne hne
    have HR := Lib.hid hyr
    clear hr hyr hne
    go_enter Tryz.func165, Tryz.ntmps165
    go_wp2_with (first | (go_at_call 110; refine (scan_ok h HR.out h7).mono ?_; rintro e w' ⟨rfl, hf1, hq⟩) | (go_at_call 63; refine (errorsNew_any _ _).mono ?_; rintro e w' ⟨rfl, rfl⟩))
    go_ret
    exact ⟨_, ⟨_, _, rfl⟩, rfl, hf1.alloc _, _, hq.toR.below ((Below.refl _ _).alloc (Nat.le_refl _) _)⟩
  · have HS := Lib.hid (show ∀ y ys, rest.dropWhile wsB = y :: ys → 127 < y.toNat from fun y ys e => by
      rcases Nat.lt_or_ge 127 y.toNat with h | h
      · exact h
      · exact absurd ⟨y, ys, e, h⟩ hy)
    clear hy hr
    go_enter Tryz.func165, Tryz.ntmps165
    go_wp2_with (go_at_call 110; refine (scan_err h HS.out).mono ?_; rintro e w' ⟨v, ⟨t, a, rfl⟩, rfl, hf1, hq⟩)
    go_ret
    exact ⟨_, ⟨_, _, rfl⟩, rfl, hf1, hq⟩

set_option maxHeartbeats 400000 in
theorem peek_ok {w : World} {j : Nat} {A : Option Addr} {c : Nat} {D rest : List UInt8} {d : Nat} {x : UInt8} {r : List UInt8} (h : JR w j A c D rest d) (hr : rest.dropWhile wsB = x :: r) (h7 : x.toNat ≤ 127) :
    Calls Tryz.prog 164 #[.pointer (some ⟨j, 0, none⟩)] w fun e w' => e = .returned (.tuple #[.int .u8 x.toNat, .nilIface]) ∧ Fr j w w' ∧ JR w' j A c D (x :: r) d := by
  have HR := Lib.hid hr
  clear hr
  go_enter Tryz.func164, Tryz.ntmps164
  go_wp2_with (go_at_call 110; refine (scan_ok h HR.out h7).mono ?_; rintro e w1 ⟨rfl, hf1, i, hJ, hD⟩; have HD := Lib.hid hD; clear hD; have c1 := hJ.c1; have fz := hJ.fz 1; have hi := hJ.ile; have hl := hJ.len; have e1 : (((i + 1 : Nat) : Int) - 1) = (i : Int) := by omega)
  go_ret2
  exact ⟨rfl, hf1.setCell (Or.inl rfl) _, i, hJ.set1 i (by omega), HD.out⟩

set_option maxHeartbeats 400000 in
theorem peek_err {w : World} {j : Nat} {A : Option Addr} {c : Nat} {D rest : List UInt8} {d : Nat} (h : JR w j A c D rest d) (hr : ∀ x r, rest.dropWhile wsB = x :: r → 127 < x.toNat) :
    Calls Tryz.prog 164 #[.pointer (some ⟨j, 0, none⟩)] w (ReadErr w j A c D d) := by
  have HR := Lib.hid hr
  clear hr
  go_enter Tryz.func164, Tryz.ntmps164
  go_wp2_with (go_at_call 110; refine (scan_err h HR.out).mono ?_; rintro e w1 ⟨v, ⟨t, a, rfl⟩, rfl, hf1, hq⟩)
  go_ret2
  exact ⟨_, ⟨_, _, rfl⟩, rfl, hf1, hq⟩
end Go.Proofs.YtjganhmbjffjfaaGreatDoor
