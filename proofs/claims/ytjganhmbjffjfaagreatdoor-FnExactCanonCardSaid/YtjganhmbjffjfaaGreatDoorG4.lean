/- What the laid variables hold, out of a row's cell. A slice of bytes that came in, opened. Small closed facts that every card takes. Five parameters. -/
import Derived.Test.YtjganhmbjffjfaaGreatDoorT0
import Derived.Test.YtjganhmbjffjfaaGreatDoorRows
import Derived.Lib.LaidU8
import Derived.Lib.LaidCaseMet
import Derived.PinnedBridge
import Derived.LaidLaws
import Derived.Test.YtjganhmbjffjfaaGreatDoorD2
import Derived.ProofKit
import Derived.Test.YtjganhmbjffjfaaGreatDoorCards
import Derived.Test.YtjganhmbjffjfaaGreatDoorTie
import Derived.Lay
import Derived.LaidOnce
import Derived.SevenTiedAt
open Go Go.RowKit
namespace Go.Proofs.YtjganhmbjffjfaaGreatDoor
open Go.Lib
section
variable {W : World}
theorem vr_cells {n : String} {d : DataW Unit} {g t : Nat} (hn : Tryz.prog.globalNamed n = some g) (ht : (Tryz.prog.globals[g]?).map (·.type) = some t) (h : VarReads Tryz.prog W n d) :
    ∃ (cs : List Value) (fuel : Nat) (p : List MemPlace), (∀ i, W.cell? ⟨g, i, none⟩ = cs[i]?) ∧ W.var? Tryz.prog n = some cs.toArray ∧ DataW.trod (fun _ => ()) Tryz.prog W 0 (fun _ => true) false fuel t cs = some (d, p) := by
  obtain ⟨g', t', cs, fuel, p, h1, h2, h3, h4⟩ := h
  obtain rfl := Option.some.inj (hn.symm.trans h1)
  obtain rfl := Option.some.inj (ht.symm.trans h2)
  refine ⟨cs.toList, fuel, p, fun i => ?_, by simpa using h3, h4⟩
  rw [World.var?_cell hn h3 i, Array.getElem?_toList]
theorem tl_err {n : String} {g : Nat} {nm : String} {d : DataW Unit} (hn : Tryz.prog.globalNamed n = some g) (ht : (Tryz.prog.globals[g]?).map (·.type) = some 85) (h : VarReads Tryz.prog W n (.iface nm d)) :
    ∃ ev, W.cell? ⟨g, 0, none⟩ = some ev ∧ (ev = .nilIface ∨ ∃ te pe, ev = .iface te pe) := by
  obtain ⟨cs, fuel, p, hc, _, hd⟩ := vr_cells hn ht h
  obtain ⟨_, u, v, rfl, _, _⟩ := iface_of_trod Tryz.underlying85 hd
  exact ⟨_, hc 0, .inr ⟨u, v, rfl⟩⟩
theorem tl_bool {n : String} {g : Nat} {b : Bool} (hn : Tryz.prog.globalNamed n = some g) (ht : (Tryz.prog.globals[g]?).map (·.type) = some 4) (h : VarReads Tryz.prog W n (.lit (.bool b))) :
    W.cell? ⟨g, 0, none⟩ = some (.bool b) := by
  obtain ⟨cs, fuel, p, hc, _, hd⟩ := vr_cells hn ht h
  obtain ⟨b', rfl, e⟩ := DataW.trod_bool Tryz.underlying4 hd
  cases e
  exact hc 0
theorem tl_u64 (h : VarReads Tryz.prog W "internal/strconv.uint64pow10" (tabData .u64 Lib.pow10Tab)) :
    Lib.TabIs Tryz.prog W "internal/strconv.uint64pow10" .u64 Lib.pow10Tab ∧ ∀ k, k < 20 → W.cell? ⟨5, k, none⟩ = some (.int .u64 (10 ^ k : Nat)) := by
  obtain ⟨cs, fuel, p, hc, hv, hd⟩ := vr_cells (g := 5) (t := 332) (by kernel_rfl) (by kernel_rfl) h
  have e := cells_of_tab Tryz.underlying332 Tryz.underlying92 (by kernel_rfl) (by kernel_rfl) hd
  subst e
  refine ⟨hv, fun k hk => ?_⟩
  rw [hc k, List.getElem?_map]
  have : Lib.pow10Tab[k]? = some ((10 ^ k : Nat) : Int) := by
    have hall : ∀ k, k < 20 → Lib.pow10Tab[k]? = some ((10 ^ k : Nat) : Int) := by decide
    exact hall k hk
  rw [this]; rfl
theorem tl_utf8 (h3 : VarReads Tryz.prog W "unicode/utf8.first" firstData) (h4 : VarReads Tryz.prog W "unicode/utf8.acceptRanges" acceptData) : Lib.Utf8Tabs 0 1 W := by
  refine ⟨fun c hc => ?_, fun i hi => ?_⟩
  · obtain ⟨cs, fuel, p, hcl, hv, hd⟩ := vr_cells (g := 0) (t := 267) (by kernel_rfl) (by kernel_rfl) h3
    have hcs := cells_of_tab Tryz.underlying267 Tryz.underlying5 (by kernel_rfl) (by kernel_rfl) hd
    rw [hcl, hcs]
    simp [firstTab, hc]
  · obtain ⟨cs, fuel, p, hcl, hv, hd⟩ := vr_cells (g := 1) (t := 270) (by kernel_rfl) (by kernel_rfl) h4
    obtain ⟨fuel', d, q, hdi, he⟩ := array_elem Tryz.underlying270 hd i hi
    simp only [List.getElem?_map, List.getElem?_range hi, Option.map_some, Option.some.injEq] at hdi
    subst hdi
    have c138 : Tryz.prog.cellsOf 269 = 2 := by kernel_rfl
    rw [c138] at he
    have hcs := ints_of_struct Tryz.underlying269 (fun j f hj => by
      match j, hj with
      | 0, hj => simp at hj; subst hj; exact ⟨Tryz.underlying5, rfl, by kernel_rfl⟩
      | 1, hj => simp at hj; subst hj; exact ⟨Tryz.underlying5, rfl, by kernel_rfl⟩
      | j + 2, hj => simp at hj) (by rw [c138]; rfl) he
    have e0 := congrArg (·[0]?) hcs
    have e1 := congrArg (·[1]?) hcs
    simp only [List.getElem?_take, List.getElem?_drop] at e0 e1
    constructor
    · rw [hcl]
      simpa [Nat.mul_comm] using e0
    · rw [hcl]
      simpa [Nat.mul_comm] using e1
set_option maxRecDepth 100000 in
theorem tl_info (h : VarReads Tryz.prog W "internal/strconv.float64info" (.agg [.lit (.int .u64 52), .lit (.int .u64 11), .lit (.int .i64 (-1023))])) :
    W.cell? ⟨11, 0, none⟩ = some (.int .u64 52) ∧ W.cell? ⟨11, 1, none⟩ = some (.int .u64 11) ∧ W.cell? ⟨11, 2, none⟩ = some (.int .i64 (-1023)) := by
  obtain ⟨cs, fuel, p, hc, hv, hd⟩ := vr_cells (g := 11) (t := 376) (by kernel_rfl) (by kernel_rfl) h
  obtain ⟨xs, n, rfl, hx, hl, hxl, hall⟩ := DataW.trod_struct Tryz.underlying376 hd
  have hl3 : cs.length = 3 := by rw [hl]; kernel_rfl
  match cs, hl3 with
  | [c0, c1, c2], _ =>
    have k9 : Tryz.prog.cellsOf 264 = 1 := by kernel_rfl
    have k3 : Tryz.prog.cellsOf 3 = 1 := by kernel_rfl
    match xs, hxl with
    | [x0, x1, x2], _ =>
      have h0 : DataW.trod (fun _ => ()) Tryz.prog W 0 (fun _ => true) false n 264 [c0] = some x0 := by
        have := hall 0 _ rfl
        simp only [List.getElem_toArray, List.getElem_cons_zero] at this
        rw [k9] at this; exact this
      have h1 : DataW.trod (fun _ => ()) Tryz.prog W 0 (fun _ => true) false n 264 [c1] = some x1 := by
        have := hall 1 _ rfl
        simp only [List.getElem_toArray, List.getElem_cons_zero, List.getElem_cons_succ] at this
        rw [k9] at this; exact this
      have h2 : DataW.trod (fun _ => ()) Tryz.prog W 0 (fun _ => true) false n 3 [c2] = some x2 := by
        have := hall 2 _ rfl
        simp only [List.getElem_toArray, List.getElem_cons_zero, List.getElem_cons_succ] at this
        rw [k3] at this; exact this
      simp only [Prod.mk.injEq, List.map_cons, List.map_nil, DataW.agg.injEq, List.cons.injEq] at hx
      obtain ⟨⟨e0, e1, e2, _⟩, _⟩ := hx
      obtain ⟨n0, g0, rfl, _⟩ := DataW.trod_int Tryz.underlying264 h0
      obtain ⟨n1, g1, rfl, _⟩ := DataW.trod_int Tryz.underlying264 h1
      obtain ⟨n2, g2, rfl, _⟩ := DataW.trod_int Tryz.underlying3 h2
      cases g0; cases g1; cases g2
      cases e0; cases e1; cases e2
      exact ⟨hc 0, hc 1, hc 2⟩
theorem trod_float {t : TypeId} {k : FloatKind} {fuel : Nat} {cs : List Value} {x : DataW Unit × List MemPlace} (ht : Tryz.prog.underlying t = some (.float k)) (h : DataW.trod (fun _ => ()) Tryz.prog W 0 (fun _ => true) false fuel t cs = some x) : ∃ b, cs = [.float k b] ∧ x.1 = .lit (.float k b) := by
  cases fuel with
  | zero => simp [DataW.trod] at h
  | succ n =>
    unfold DataW.trod at h
    rw [ht] at h
    split at h <;> simp_all
    obtain ⟨⟨rfl, _⟩, rfl⟩ := h
    simp
set_option maxRecDepth 100000 in
theorem tl_f64 {ds : List (DataW Unit)} (hd1 : ds.length = 23) (hd2 : ds[1]? = some (.lit (.float .f64 4621819117588971520))) (h : VarReads Tryz.prog W "internal/strconv.float64pow10" (.slice ds [])) :
    ∃ b o c, W.cell? ⟨14, 0, none⟩ = some (.slice (some ⟨b, o, none⟩) 23 c) ∧ W.cell? ⟨b, o + 1, none⟩ = some (.float .f64 4621819117588971520) := by
  obtain ⟨cs, fuel, p, hc, hv, hd⟩ := vr_cells (g := 14) (t := 414) (by kernel_rfl) (by kernel_rfl) h
  have k1 : Tryz.prog.cellsOf 341 = 1 := by kernel_rfl
  rcases DataW.trod_slice Tryz.underlying414 hd with ⟨_, e⟩ | ⟨a, len, cap, elems, rest, n, _, rfl, hx, _, _, _, hlen, hel, _, _⟩
  · cases e
  simp only [Prod.mk.injEq, DataW.slice.injEq] at hx
  have hds : elems.map (·.1) = ds := hx.1.1.symm
  have h23 : elems.length = 23 := by rw [← hd1, ← hds, List.length_map]
  have e0 := hel 0 (by omega)
  have e1 := hel 1 (by omega)
  rw [k1] at e0 e1
  obtain ⟨y0, hy0⟩ : ∃ y, elems[0]? = some y := ⟨_, List.getElem?_eq_getElem (by omega)⟩
  obtain ⟨y1, hy1⟩ : ∃ y, elems[1]? = some y := ⟨_, List.getElem?_eq_getElem (by omega)⟩
  rw [hy0] at e0
  rw [hy1] at e1
  obtain ⟨c0, hc0, _⟩ := Option.bind_eq_some_iff.1 e0
  obtain ⟨c1, hc1, ht1⟩ := Option.bind_eq_some_iff.1 e1
  obtain ⟨b1, rfl, hb1⟩ := trod_float Tryz.underlying341 ht1
  have hy1' : y1.1 = .lit (.float .f64 4621819117588971520) := by
    have := hd2
    rw [← hds, List.getElem?_map, hy1] at this
    simpa using this
  rw [hb1] at hy1'
  cases hy1'
  have q0 : W.cell? a = c0[0]? := by
    have := (World.cells?_some hc0).2.2 0 (by omega)
    simpa [Addr.add] using this
  have hl0 : c0.length = 1 := (World.cells?_some hc0).2.1
  obtain ⟨b, o, sp⟩ := a
  have hsp : sp = none := by
    have h9 : (W.cell? ⟨b, o, sp⟩).isSome := by rw [q0]; match c0, hl0 with | [x], _ => rfl
    unfold World.cell? at h9
    cases sp with
    | none => rfl
    | some z => split at h9 <;> simp at h9
  subst hsp
  have q1 := (World.cells?_some hc1).2.2 0 (by omega)
  refine ⟨b, o, cap, ?_, ?_⟩
  · rw [hc 0]; simp; omega
  · simpa [Addr.add] using q1
set_option maxRecDepth 100000 in
theorem tl_16 {ds : List (DataW Unit)} (hd2 : ds[364]? = some (.agg [.lit (.int .u64 10240000000000000000), .lit (.int .u64 0)])) (h : VarReads Tryz.prog W "internal/strconv.pow10Tab" (.agg ds)) :
    W.cell? ⟨15, 728, none⟩ = some (.int .u64 10240000000000000000) ∧ W.cell? ⟨15, 729, none⟩ = some (.int .u64 0) := by
  obtain ⟨cs, fuel, p, hc, hv, hd⟩ := vr_cells (g := 15) (t := 424) (by kernel_rfl) (by kernel_rfl) h
  obtain ⟨fuel', d, q, hdi, he⟩ := array_elem Tryz.underlying424 hd 364 (by decide)
  have c2 : Tryz.prog.cellsOf 423 = 2 := by kernel_rfl
  rw [c2] at he
  rw [hd2] at hdi
  cases hdi
  have hcs := ints_of_struct (zs := [10240000000000000000, 0]) Tryz.underlying423 (fun j f hj => by
    match j, hj with
    | 0, hj => simp at hj; subst hj; exact ⟨Tryz.underlying92, rfl, by kernel_rfl⟩
    | 1, hj => simp at hj; subst hj; exact ⟨Tryz.underlying92, rfl, by kernel_rfl⟩
    | j + 2, hj => simp at hj) (by rw [c2]; rfl) he
  have e0 := congrArg (·[0]?) hcs
  have e1 := congrArg (·[1]?) hcs
  simp only [List.getElem?_take, List.getElem?_drop] at e0 e1
  exact ⟨by rw [hc]; simpa using e0, by rw [hc]; simpa using e1⟩
set_option maxRecDepth 100000 in
/-- All of it, out of a list that holds these. -/
theorem tl0_of {l : List (String × DataW Unit)} (h : laidMet Tryz.prog l W)
    (m1 : ("strconv.ErrSyntax", Rows.laid_strconv_ErrSyntax) ∈ l) (m2 : ("strconv.ErrRange", Rows.laid_strconv_ErrRange) ∈ l) (m3 : ("internal/strconv.uint64pow10", Rows.laid_internal_strconv_uint64pow10) ∈ l)
    (m4 : ("internal/strconv.float64info", Rows.laid_internal_strconv_float64info) ∈ l) (m5 : ("unicode/utf8.first", Rows.laid_unicode_utf8_first) ∈ l) (m6 : ("unicode/utf8.acceptRanges", Rows.laid_unicode_utf8_acceptRanges) ∈ l)
    (m7 : ("internal/strconv.optimize", Rows.laid_internal_strconv_optimize) ∈ l) (m8 : ("internal/strconv.float64pow10", Rows.laid_internal_strconv_float64pow10) ∈ l) (m9 : ("internal/strconv.pow10Tab", Rows.laid_internal_strconv_pow10Tab) ∈ l) : TL0 W := by
  have e3 : (Rows.laid_internal_strconv_uint64pow10 : DataW Unit) = tabData .u64 Lib.pow10Tab := by kernel_rfl
  have e5 : (Rows.laid_unicode_utf8_first : DataW Unit) = firstData := Pinned.utf8First_eq
  have e6 : (Rows.laid_unicode_utf8_acceptRanges : DataW Unit) = acceptData := by kernel_rfl
  have r3 := Lib.laidMet.reads h m3
  rw [e3] at r3
  have r5 := Lib.laidMet.reads h m5
  rw [e5] at r5
  have r6 := Lib.laidMet.reads h m6
  rw [e6] at r6
  have hu := tl_u64 r3
  have hi := tl_info (Lib.laidMet.reads h m4)
  obtain ⟨ds, hds, hp2⟩ : ∃ ds : List (DataW Unit), (Rows.laid_internal_strconv_pow10Tab : DataW Unit) = .agg ds ∧ ds[364]? = some (.agg [.lit (.int .u64 10240000000000000000), .lit (.int .u64 0)]) := ⟨_, rfl, by kernel_rfl⟩
  have r9 := Lib.laidMet.reads h m9
  rw [hds] at r9
  exact ⟨tl_err (by kernel_rfl) (by kernel_rfl) (Lib.laidMet.reads h m1), tl_err (by kernel_rfl) (by kernel_rfl) (Lib.laidMet.reads h m2), hu.2, hi.1, hi.2.1, hi.2.2, tl_utf8 r5 r6,
    tl_bool (by kernel_rfl) (by kernel_rfl) (Lib.laidMet.reads h m7), hu.1, tl_f64 (by kernel_rfl) (by kernel_rfl) (Lib.laidMet.reads h m8), tl_16 hp2 r9⟩
theorem tl_of {N : Nat} (h : TL0 W) (hN : N = W.heap.size) : TL N W := ⟨W, h, hN.symm, by omega, fun _ _ => rfl⟩
end
open Go.ChangeShapes Go.WideShapes Go.ChangeAt
set_option maxRecDepth 100000 in
theorem bsrc_of {H : Type} {enc : TypeId × Value → H} {W : World} {base : Nat} {v : Value} {d : DataW H} {p : List MemPlace} (hval : Value.okWide Tryz.prog W .any base 31 v)
    (h : DataW.Trod enc Tryz.prog W 0 (fun _ => true) true 31 v d p) : ∃ body, BSrc W v body := by
  obtain ⟨a0, len, cap, rfl⟩ := okWide_slice Tryz.underlying31 hval
  obtain ⟨fuel, hf⟩ := h
  rcases open_ints Tryz.underlying31 Tryz.underlying5 (by kernel_rfl) hf with ⟨hcs, _⟩ | ⟨a, len', cap', zs, hcs, _, hl, hm, hz, _, hcell, hwz⟩
  · simp [Value.cells] at hcs
    obtain ⟨rfl, rfl, rfl⟩ := hcs
    exact ⟨[], .inl ⟨rfl, rfl⟩⟩
  · simp [Value.cells] at hcs
    obtain ⟨rfl, rfl, rfl⟩ := hcs
    simp only [if_true] at hz
    refine ⟨(zs.take len).map fun z => UInt8.ofNat z.toNat, .inr ⟨a, cap, ?_, ?_, ?_⟩⟩
    · simp; omega
    · simp; omega
    · intro j x hx
      rw [List.getElem?_map] at hx
      cases e : (zs.take len)[j]? with
      | none => rw [e] at hx; cases hx
      | some z =>
        rw [e] at hx
        cases hx
        have hj : j < len := by
          have := (List.getElem?_eq_some_iff.1 e).1
          simp at this
          omega
        have e2 : zs[j]? = some z := by rw [List.getElem?_take_of_lt hj] at e; exact e
        have hzj : zs.getD j 0 = z := by rw [List.getD_eq_getElem?_getD, e2]; rfl
        have hw := hwz z (List.mem_of_getElem? e2)
        have hw2 : 0 ≤ z ∧ z ≤ 255 := by simpa [Lit.wf, IntKind.min, IntKind.max, IntKind.signed, IntKind.bits] using hw
        rw [hcell j (by omega), hzj]
        congr 2
        rw [UInt8.toNat_ofNat_of_lt' (by show _ < 256; omega)]
        omega
theorem own3 : ownKnob Tryz.prog.godebug = none := by kernel_rfl
theorem laidOut3 : laidOutB Tryz.prog = true := by kernel_rfl
theorem andB3 {a b : Bool} (h : a = true) (k : b = true) : (a && b) = true := by rw [h, k]; rfl
section
open Go.ChangeShapes
variable {H : Type} {enc : TypeId × Value → H} {P : Program} {w : World} {base : Nat} {spare : Nat → Bool} {held : Bool}
theorem trodAll_four {t1 t2 t3 t4 : TypeId} {args : Array Value} {ds : List (DataW H)} {ps : List MemPlace} (h : DataW.TrodAll enc P w base spare held [t1, t2, t3, t4] args.toList ds ps) :
    ∃ v1 v2 v3 v4 d1 d2 d3 d4 p1 p2 p3 p4, args = #[v1, v2, v3, v4] ∧ ds = [d1, d2, d3, d4] ∧ ps = p1 ++ p2 ++ p3 ++ p4 ∧ DataW.Trod enc P w base spare held t1 v1 d1 p1 ∧ DataW.Trod enc P w base spare held t2 v2 d2 p2 ∧ DataW.Trod enc P w base spare held t3 v3 d3 p3 ∧ DataW.Trod enc P w base spare held t4 v4 d4 p4 := by
  obtain ⟨v1, vs1, d1, ds1, p1, q1, hargs, rfl, rfl, hd1, hr1⟩ := trodAll_cons h
  obtain ⟨v2, vs2, d2, ds2, p2, q2, rfl, rfl, rfl, hd2, hr2⟩ := trodAll_cons hr1
  obtain ⟨v3, vs3, d3, ds3, p3, q3, rfl, rfl, rfl, hd3, hr3⟩ := trodAll_cons hr2
  obtain ⟨v4, vs4, d4, ds4, p4, q4, rfl, rfl, rfl, hd4, hr4⟩ := trodAll_cons hr3
  obtain ⟨rfl, rfl, rfl⟩ := trodAll_nil hr4
  exact ⟨v1, v2, v3, v4, d1, d2, d3, d4, p1, p2, p3, p4, by cases args; simp_all, rfl, by simp, hd1, hd2, hd3, hd4⟩
theorem trodAll_mk4 {t1 t2 t3 t4 : TypeId} {v1 v2 v3 v4 : Value} {d1 d2 d3 d4 : DataW H} {p1 p2 p3 p4 : List MemPlace} (h1 : DataW.Trod enc P w base spare held t1 v1 d1 p1) (h2 : DataW.Trod enc P w base spare held t2 v2 d2 p2)
    (h3 : DataW.Trod enc P w base spare held t3 v3 d3 p3) (h4 : DataW.Trod enc P w base spare held t4 v4 d4 p4) : DataW.TrodAll enc P w base spare held [t1, t2, t3, t4] [v1, v2, v3, v4] [d1, d2, d3, d4] (p1 ++ (p2 ++ (p3 ++ p4))) := ⟨p1, p2 ++ (p3 ++ p4), h1, trodAll_mk3 h2 h3 h4, rfl⟩
end
open Go.ChangeShapes
section
variable {H : Type} {enc : TypeId × Value → H} {P : Program} {w : World} {base : Nat} {spare : Nat → Bool} {held : Bool}
theorem trodAll_five {t t' t'' t3 t4 : TypeId} {args : Array Value} {ds : List (DataW H)} {ps : List MemPlace} (h : DataW.TrodAll enc P w base spare held [t, t', t'', t3, t4] args.toList ds ps) :
    ∃ v v' v'' v3 v4 d d' d'' d3 d4 p p' p'' p3 p4, args = #[v, v', v'', v3, v4] ∧ ds = [d, d', d'', d3, d4] ∧ ps = p ++ p' ++ p'' ++ p3 ++ p4 ∧ DataW.Trod enc P w base spare held t v d p ∧ DataW.Trod enc P w base spare held t' v' d' p' ∧ DataW.Trod enc P w base spare held t'' v'' d'' p'' ∧ DataW.Trod enc P w base spare held t3 v3 d3 p3 ∧ DataW.Trod enc P w base spare held t4 v4 d4 p4 := by
  obtain ⟨v, vs, d, ds', p, q, hargs, rfl, rfl, hd, hrest⟩ := trodAll_cons h
  obtain ⟨v', vs', d', ds'', p', q', rfl, rfl, rfl, hd', hrest'⟩ := trodAll_cons hrest
  obtain ⟨v'', vs'', d'', ds''', p'', q'', rfl, rfl, rfl, hd'', hrest''⟩ := trodAll_cons hrest'
  obtain ⟨v3, vs3, d3, ds3, p3, q3, rfl, rfl, rfl, hd3, hrest3⟩ := trodAll_cons hrest''
  obtain ⟨v4, vs4, d4, ds4, p4, q4, rfl, rfl, rfl, hd4, hrest4⟩ := trodAll_cons hrest3
  obtain ⟨rfl, rfl, rfl⟩ := trodAll_nil hrest4
  exact ⟨v, v', v'', v3, v4, d, d', d'', d3, d4, p, p', p'', p3, p4, by cases args; simp_all, rfl, by simp, hd, hd', hd'', hd3, hd4⟩
theorem trodAll_mk5 {t t' t'' t3 t4 : TypeId} {v v' v'' v3 v4 : Value} {d d' d'' d3 d4 : DataW H} {p p' p'' p3 p4 : List MemPlace} (h : DataW.Trod enc P w base spare held t v d p) (h' : DataW.Trod enc P w base spare held t' v' d' p')
    (h'' : DataW.Trod enc P w base spare held t'' v'' d'' p'') (h3 : DataW.Trod enc P w base spare held t3 v3 d3 p3) (h4 : DataW.Trod enc P w base spare held t4 v4 d4 p4) : DataW.TrodAll enc P w base spare held [t, t', t'', t3, t4] [v, v', v'', v3, v4] [d, d', d'', d3, d4] (p ++ (p' ++ (p'' ++ (p3 ++ p4)))) := ⟨p, p' ++ (p'' ++ (p3 ++ p4)), h, trodAll_mk4 h' h'' h3 h4, rfl⟩
end
end Go.Proofs.YtjganhmbjffjfaaGreatDoor
