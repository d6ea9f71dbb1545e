/- path.Match at patterns without classes and escapes, and names of ASCII without /. -/
import Derived.Test.YtpanemfpipcggaaGreatDoorF4
import Derived.Deep.LoopGhost
import Derived.Lib.Bytealg
open Go Go.RowKit
namespace Go.Proofs.YtpanemfpipcggaaGreatDoor
/-- What Match tells. -/
def MaP (p s : List UInt8) (w : World) (e : Ending) (w' : World) : Prop := e = .returned (.tuple #[.bool (matB p s), .nilIface]) ∧ Below w.heap.size w w'
/-- The head of the outer loop. -/
structure MaA (p s : List UInt8) (pp nn : ByteArray) : Prop where
  eq : matB pp.data.toList nn.data.toList = matB p s
  q : QuietL pp.data.toList
  n : PartL nn.data.toList
theorem chunk_sub {l : List UInt8} : ∀ x ∈ chunkB l, x ∈ l := fun _ h => (List.dropWhile_sublist _).subset ((List.takeWhile_sublist _).subset h)
theorem rest_sub {l : List UInt8} : ∀ x ∈ restB l, x ∈ l := fun _ h => (List.dropWhile_sublist _).subset ((List.dropWhile_sublist _).subset h)
theorem QuietL.chunk {l : List UInt8} (h : QuietL l) : QuietL (bs (chunkB l)).data.toList := by rw [bs_data]; exact fun x hx => h x (chunk_sub x hx)
theorem QuietL.rest {l : List UInt8} (h : QuietL l) : QuietL (bs (restB l)).data.toList := by rw [bs_data]; exact fun x hx => h x (rest_sub x hx)
theorem rest_lt' {l : List UInt8} (h : l ≠ []) : (restB l).length < l.length := by
  cases l with
  | nil => exact absurd rfl h
  | cons c l => exact rest_lt c l
/-- A text that is left of a part is one. -/
theorem mc_part : ∀ {c s t : List UInt8}, mcB c s = some t → PartL s → PartL t
  | [], s, t, h, hp => by cases h; exact hp
  | c :: cs, [], t, h, _ => by cases h
  | c :: cs, x :: xs, t, h, hp => by
    rw [mcB] at h
    split at h
    · exact mc_part h fun y hy => hp y (List.mem_cons_of_mem _ hy)
    · cases h
theorem mat_ne {l s : List UInt8} (h : l ≠ []) : matB l s =
    if starB l = true ∧ chunkB l = [] then true else
    match mcB (chunkB l) s with
    | some t => if t = [] ∨ restB l ≠ [] then matB (restB l) t else
        if starB l = true then
          match skipB (chunkB l) (restB l).isEmpty s with
          | some t => matB (restB l) t
          | none => false
        else false
    | none => if starB l = true then
          match skipB (chunkB l) (restB l).isEmpty s with
          | some t => matB (restB l) t
          | none => false
        else false := by
  cases l with
  | nil => exact absurd rfl h
  | cons c l => exact mat_cons c l s
/-- What becomes of a round. -/
def TryB (l : List UInt8) (s : List UInt8) : Bool := if starB l = true then
          match skipB (chunkB l) (restB l).isEmpty s with
          | some t => matB (restB l) t
          | none => false
        else false
theorem mat_any {l s : List UInt8} (h : l ≠ []) (h1 : starB l = true) (h2 : chunkB l = []) : matB l s = true := by rw [mat_ne h, if_pos ⟨h1, h2⟩]
theorem mat_go {l s t : List UInt8} (h : l ≠ []) (h1 : ¬ (starB l = true ∧ chunkB l = [])) (h2 : mcB (chunkB l) s = some t) (h3 : t = [] ∨ restB l ≠ []) : matB l s = matB (restB l) t := by
  rw [mat_ne h, if_neg h1, h2]
  simp only
  rw [if_pos h3]
theorem mat_try {l s : List UInt8} (h : l ≠ []) (h1 : ¬ (starB l = true ∧ chunkB l = [])) (h2 : ∀ t, mcB (chunkB l) s = some t → ¬ (t = [] ∨ restB l ≠ [])) : matB l s = TryB l s := by
  rw [mat_ne h, if_neg h1]
  cases e : mcB (chunkB l) s with
  | none => rfl
  | some t => simp only; rw [if_neg (h2 t e)]; rfl
/-- What matchChunk tells, in parts. -/
theorem mkV_form (o : Option (List UInt8)) : ∃ (T : ByteArray) (K : Bool), MkV o = .tuple #[.string T, .bool K, .nilIface] := by
  cases o with
  | none => exact ⟨_, _, rfl⟩
  | some t => exact ⟨_, _, rfl⟩
theorem chunk_len (l : List UInt8) : (chunkB l).length ≤ l.length := Nat.le_trans (List.takeWhile_sublist _).length_le (unstar_le l)
theorem drop_get' {l : List UInt8} {k : Nat} {x : UInt8} (h : l[k]? = some x) : l.drop k = x :: l.drop (k + 1) := by
  obtain ⟨hk, rfl⟩ := List.getElem?_eq_some_iff.1 h
  exact List.drop_eq_getElem_cons hk
/-- bytealg.IndexByteString finds no /. -/
theorem idx_none {s : ByteArray} (h : PartL s.data.toList) (w : World) : (callFunc 119 #[.string s, .int .u8 47]).run Tryz.prog w = .ok (.value (.int .i64 (-1))) w := by
  rw [run_callFunc_extern Tryz.func119 (by kernel_rfl) (by kernel_rfl) (by kernel_rfl) (e := Extern.BytealgIndexByte.indexByte) (by kernel_rfl), Lib.run_indexByteString]
  have : Lib.indexByte s.data.toList (47 : Int).toNat.toUInt8 = -1 := by
    have key : ∀ l : List UInt8, PartL l → Lib.indexByte l 47 = -1 := by
      intro l
      induction l with
      | nil => intro _; rfl
      | cons x l ih =>
        intro hp
        have hx := (hp x List.mem_cons_self).2
        have := ih fun y hy => hp y (List.mem_cons_of_mem _ hy)
        simp [Lib.indexByte, hx, this]
    exact key _ h
  rw [this]
  rfl
set_option maxRecDepth 100000 in
set_option maxHeartbeats 16000000 in
theorem match_any {p s : ByteArray} (hq : QuietL p.data.toList) (hp : PartL s.data.toList) (hpl : p.size ≤ 4294967296) (hsl : s.size ≤ 4294967296) (w : World) :
    Calls Tryz.prog 92 #[.string p, .string s] w (MaP p.data.toList s.data.toList w) := by
  have HQ := Lib.hid hq
  have HP := Lib.hid hp
  clear hq hp
  go_enter Tryz.func92, Tryz.ntmps92
  go_wp2_with (fail)
  go_step3
  go_wp2_with (fail)
  go_step3
  go_wp2_with (fail)
  go_loopg [0, 1] p.size (fun g v0 v1 wr => ∃ (pp nn : ByteArray), v0 = .string pp ∧ v1 = .string nn ∧ pp.size ≤ g ∧ pp.size ≤ 4294967296 ∧ nn.size ≤ 4294967296 ∧ Hid (MaA p.data.toList s.data.toList pp nn) ∧ Hid (Below w.heap.size w wr))
  case atStart => exact ⟨p, s, rfl, rfl, Nat.le_refl _, hpl, hsl, ⟨rfl, HQ.out, HP.out⟩, Below.refl _ _⟩
  case round =>
    obtain ⟨pp, nn, rfl, rfl, hg, hppl, hnnl, HA, HB⟩ := hrel
    by_cases h0 : 0 < pp.size
    · cases gk with
      | zero => exfalso; omega
      | succ g =>
        have HNE : Hid (pp.data.toList ≠ []) := Lib.hid (by rw [bs_cons pp h0]; exact List.cons_ne_nil _ _)
        have HPN : Hid (PartL nn.data.toList) := Lib.hid HA.out.n
        obtain ⟨ck, hck⟩ : ∃ ck, ck = bs (chunkB pp.data.toList) := ⟨_, rfl⟩
        obtain ⟨rr, hrr⟩ : ∃ rr, rr = bs (restB pp.data.toList) := ⟨_, rfl⟩
        obtain ⟨st, hst⟩ : ∃ st, st = starB pp.data.toList := ⟨_, rfl⟩
        have HSC := fun w => Lib.hid (scanChunk_any HA.out.q hppl w)
        unfold ScP at HSC
        rw [← hck, ← hrr, ← hst] at HSC
        have HCQ : Hid (QuietL ck.data.toList) := by rw [hck]; exact Lib.hid HA.out.q.chunk
        have HRQ : Hid (QuietL rr.data.toList) := by rw [hrr]; exact Lib.hid HA.out.q.rest
        have hrs : rr.size < pp.size := by rw [hrr, bs_size, ← bs_size_eq pp]; exact rest_lt' HNE.out
        have hrl : rr.size ≤ 4294967296 := by omega
        have hcl : ck.size ≤ 4294967296 := by rw [hck, bs_size]; have := chunk_len pp.data.toList; rw [bs_size_eq] at this; omega
        have HMC := fun w => Lib.hid (matchChunk_any HCQ.out HPN.out hcl hnnl w)
        unfold MkP at HMC
        have HCK := Lib.hid hck
        have HRR := Lib.hid hrr
        have HRD : Hid (rr.data.toList = restB pp.data.toList) := Lib.hid (by rw [hrr, bs_data])
        have HCD : Hid (ck.data.toList = chunkB pp.data.toList) := Lib.hid (by rw [hck, bs_data])
        have HSS := Lib.hid hst
        clear hck hrr hst
        have k0 := Lib.toList_data ck
        have HKD := Lib.hid k0
        clear k0
        cases st with
        | true =>
          by_cases hc0 : 0 < ck.size
          · have HST : Hid (starB pp.data.toList = true) := Lib.hid HSS.out.symm
            have HNC : Hid (¬ (starB pp.data.toList = true ∧ chunkB pp.data.toList = [])) := Lib.hid (fun h => by have := HCD.out; rw [h.2] at this; have h2 := bs_size_eq ck; rw [this] at h2; simp at h2; omega)
            have e1 : ck.toList.isEmpty = false := by rw [HKD.out, bs_cons ck hc0]; rfl
            cases hm : mcB ck.data.toList nn.data.toList with
            | none =>
              have HTRY : Hid (TryB pp.data.toList nn.data.toList = matB p.data.toList s.data.toList) := Lib.hid (by rw [← HA.out.eq, mat_try HNE.out HNC.out (fun t ht => by rw [← HCD.out, hm] at ht; cases ht)])
              rw [hm, MkV] at HMC
              clear hm
              go_wp2_with (first
                | (go_at_call 118; refine (HSC _).out.mono ?_; rintro e w1 ⟨rfl, hb⟩; have HB1 := Lib.hid (HB.out.trans (hb.mono HB.out.size)); clear hb)
                | (go_at_call 120; refine (HMC _).out.mono ?_; rintro e w2 ⟨rfl, hb⟩; have HB2 := Lib.hid (HB1.out.trans (hb.mono HB1.out.size)); clear hb))
              go_loopg [1, 11] nn.size (fun g2 v1 v11 wy => ∃ k : Nat, k + g2 = nn.size ∧ v1 = .string nn ∧ v11 = .int .i64 k ∧ Hid (skipB (chunkB pp.data.toList) (restB pp.data.toList).isEmpty (nn.data.toList.drop k) = skipB (chunkB pp.data.toList) (restB pp.data.toList).isEmpty nn.data.toList) ∧ Hid (Below w.heap.size w wy))
              case atStart => exact ⟨0, by omega, rfl, rfl, by rw [List.drop_zero]; exact Lib.hid rfl, HB2⟩
              case round =>
                obtain ⟨k, hk, rfl, rfl, HK, HBY⟩ := hrel
                have hk1 : k ≤ nn.size := by omega
                cases gk with
                | zero =>
                  have hkn : nn.size ≤ k := by omega
                  have ik : ¬ (k : Int) < (nn.size : Int) := by omega
                  have HF : Hid (false = matB p.data.toList s.data.toList) := Lib.hid (by rw [← HTRY.out, TryB, if_pos HST.out, ← HK.out, List.drop_of_length_le (by rw [bs_size_eq]; omega)]; rfl)
                  clear hk
                  go_wp2_with (fail)
                  go_loopg [0, 7] rr.size (fun g3 v0 v7 wz => ∃ (qq c7 : ByteArray), v0 = .string qq ∧ v7 = .string c7 ∧ qq.size ≤ g3 ∧ qq.size ≤ 4294967296 ∧ Hid (QuietL qq.data.toList) ∧ Hid (Below w.heap.size w wz))
                  case atStart => exact ⟨rr, _, rfl, rfl, Nat.le_refl _, hrl, HRQ.out, HBY.out⟩
                  case round =>
                    obtain ⟨qq, c7, rfl, rfl, hg3, hql, HQQ, HB3⟩ := hrel
                    by_cases h03 : 0 < qq.size
                    · cases gk with
                      | zero => exfalso; omega
                      | succ g3 =>
                        have HNE : Hid (qq.data.toList ≠ []) := Lib.hid (by rw [bs_cons qq h03]; exact List.cons_ne_nil _ _)
                        obtain ⟨c8, hc8⟩ : ∃ c8, c8 = bs (chunkB qq.data.toList) := ⟨_, rfl⟩
                        obtain ⟨q8, hq8⟩ : ∃ q8, q8 = bs (restB qq.data.toList) := ⟨_, rfl⟩
                        have HSC := fun w => Lib.hid (scanChunk_any HQQ.out hql w)
                        unfold ScP at HSC
                        rw [← hc8, ← hq8] at HSC
                        have HC8 : Hid (QuietL c8.data.toList) := by rw [hc8]; exact Lib.hid HQQ.out.chunk
                        have HQ8 : Hid (QuietL q8.data.toList) := by rw [hq8]; exact Lib.hid HQQ.out.rest
                        have hl8 : q8.size < qq.size := by rw [hq8, bs_size, ← bs_size_eq qq]; exact rest_lt' HNE.out
                        have hl9 : c8.size ≤ 4294967296 := by rw [hc8, bs_size]; have := chunk_len qq.data.toList; rw [bs_size_eq] at this; omega
                        have HMC := fun w => Lib.hid (matchChunk_any (s := ⟨#[]⟩) HC8.out (fun x hx => by simp at hx) hl9 (by simp [ByteArray.size]) w)
                        obtain ⟨sb, hsb⟩ : ∃ sb, sb = starB qq.data.toList := ⟨_, rfl⟩
                        rw [← hsb] at HSC
                        obtain ⟨T9, K9, hv9⟩ : ∃ (T9 : ByteArray) (K9 : Bool), MkV (mcB c8.data.toList (⟨#[]⟩ : ByteArray).data.toList) = .tuple #[.string T9, .bool K9, .nilIface] := mkV_form _
                        unfold MkP at HMC
                        rw [hv9] at HMC
                        clear hc8 hq8 hsb hv9 HC8
                        go_wp2_with (first
                          | (go_at_call 118; refine (HSC _).out.mono ?_; rintro e w1 ⟨rfl, hb⟩; have HB4 := Lib.hid (HB3.out.trans (hb.mono HB3.out.size)); clear hb HSC)
                          | (go_at_call 120; refine (HMC _).out.mono ?_; rintro e w1 ⟨rfl, hb⟩; have HB5 := Lib.hid (HB4.out.trans (hb.mono HB4.out.size)); clear hb))
                        go_roundg g3
                        case measure => omega
                        case rel => exact ⟨q8, _, rfl, rfl, by omega, by omega, HQ8, HB5⟩
                    · have i03 : ¬ (0 : Int) < (qq.size : Int) := by omega
                      go_wp2_with (fail)
                      try rw [Exit.noGoto_ret]
                      refine bodyPost_ret (v := .tuple #[.bool false, .nilIface]) (by simp [results, Tryz.results92, go_sem]) rfl ⟨by rw [← HF.out], HB3.out⟩
                | succ g2 =>
                  have hlt : k < nn.size := by omega
                  have hk2 : k + 1 + g2 = nn.size := by omega
                  have HKE := Lib.hid hk2
                  clear hk hk2
                  have hxk := HPN.out nn[k] (List.mem_of_getElem? (bs_get nn k hlt))
                  have i47 : (((nn[k].toNat : Nat) : Int) != 47) = true := by simpa using u8_neI (n := 47) (by decide) hxk.2
                  have j47 : ((nn[k].toNat : Nat) : Int) ≠ 47 := u8_neI (n := 47) (by decide) hxk.2
                  have hkp : (k : Int) + 1 ≤ (nn.size : Int) := by omega
                  obtain ⟨y, hy⟩ : ∃ y, y = nn.extract (k + 1) nn.size := ⟨_, rfl⟩
                  have hyd : y.data.toList = nn.data.toList.drop (k + 1) := by rw [hy, bs_tail, bs_data]
                  have HYD := Lib.hid hyd
                  have HY := Lib.hid hy
                  have HYP : Hid (PartL y.data.toList) := Lib.hid (by rw [hyd]; exact fun x hx => HPN.out x (List.mem_of_mem_drop hx))
                  have hyl : y.size ≤ 4294967296 := by rw [← bs_size_eq, hyd, List.length_drop, bs_size_eq]; omega
                  have HMC2 := fun w => Lib.hid (matchChunk_any (s := y) HCQ.out HYP.out hcl hyl w)
                  have hstep : skipB (chunkB pp.data.toList) (restB pp.data.toList).isEmpty (nn.data.toList.drop k) = (match mcB ck.data.toList y.data.toList with
                    | some t => if (restB pp.data.toList).isEmpty = true ∧ t ≠ [] then skipB (chunkB pp.data.toList) (restB pp.data.toList).isEmpty (nn.data.toList.drop (k + 1)) else some t
                    | none => skipB (chunkB pp.data.toList) (restB pp.data.toList).isEmpty (nn.data.toList.drop (k + 1))) := by
                    rw [drop_get' (bs_get nn k hlt), skipB, hyd, HCK.out, bs_data]
                    cases mcB (chunkB pp.data.toList) (nn.data.toList.drop (k + 1)) <;> rfl
                  have HSTEP := Lib.hid hstep
                  unfold MkP at HMC2
                  clear hstep hxk hyd hyl
                  cases hm2 : mcB ck.data.toList y.data.toList with
                  | none =>
                    have HK2 : Hid (skipB (chunkB pp.data.toList) (restB pp.data.toList).isEmpty (nn.data.toList.drop (k + 1)) = skipB (chunkB pp.data.toList) (restB pp.data.toList).isEmpty nn.data.toList) := Lib.hid (by rw [← HK.out, HSTEP.out, hm2])
                    rw [hm2, MkV] at HMC2
                    have HM2 := Lib.hid hm2
                    clear hm2 hy
                    go_wp2_with (go_at_call 120; rw [← HY.out]; refine (HMC2 _).out.mono ?_; rintro e w1 ⟨rfl, hb⟩; have HBZ := Lib.hid (HBY.out.trans (hb.mono HBY.out.size)); clear hb)
                    go_roundg g2
                    case measure => omega
                    case rel => exact ⟨k + 1, HKE.out, rfl, by first | rfl | go_num, HK2, HBZ⟩
                  | some t2 =>
                    obtain ⟨T2, hT2⟩ : ∃ T2, T2 = bs t2 := ⟨_, rfl⟩
                    have HT2 := Lib.hid hT2
                    rw [hm2, MkV] at HMC2
                    rw [← hT2] at HMC2
                    have hT2l : t2.length = T2.size := by rw [hT2, bs_size]
                    by_cases hc2 : (restB pp.data.toList).isEmpty = true ∧ t2 ≠ []
                    · have HK2 : Hid (skipB (chunkB pp.data.toList) (restB pp.data.toList).isEmpty (nn.data.toList.drop (k + 1)) = skipB (chunkB pp.data.toList) (restB pp.data.toList).isEmpty nn.data.toList) := Lib.hid (by rw [← HK.out, HSTEP.out, hm2]; simp only; rw [if_pos hc2])
                      have r1 : ((rr.size : Int) == 0) = true := by
                        have : (restB pp.data.toList).length = rr.size := by rw [HRR.out, bs_size]
                        rw [List.isEmpty_iff] at hc2
                        rw [hc2.1] at this
                        rw [beq_iff_eq]; simp at this; omega
                      have r2 : (0 : Int) < (T2.size : Int) := by
                        have := List.length_pos_iff.2 hc2.2
                        omega
                      have r3 := decide_eq_true r2
                      clear hm2 hy hc2 hT2l hT2
                      go_wp2_with (go_at_call 120; rw [← HY.out]; refine (HMC2 _).out.mono ?_; rintro e w1 ⟨rfl, hb⟩; have HBZ := Lib.hid (HBY.out.trans (hb.mono HBY.out.size)); clear hb)
                      go_roundg g2
                      case measure => omega
                      case rel => exact ⟨k + 1, HKE.out, rfl, by first | rfl | go_num, HK2, HBZ⟩
                    · have HNEXT : Hid (MaA p.data.toList s.data.toList rr T2) := by
                        have e1 : matB rr.data.toList T2.data.toList = matB (restB pp.data.toList) t2 := by rw [HRD.out, hT2, bs_data]
                        refine Lib.hid ⟨e1.trans ?_, HRQ.out, ?_⟩
                        · rw [← HTRY.out, TryB, if_pos HST.out, ← HK.out, HSTEP.out, hm2]
                          simp only
                          rw [if_neg hc2]
                        · rw [hT2, bs_data]; exact mc_part hm2 HYP.out
                      have hT2s : T2.size ≤ y.size := by
                        have := mc_len hm2
                        rw [bs_size_eq, bs_size_eq] at this
                        omega
                      have hys : y.size ≤ nn.size := by rw [hy, ByteArray.size_extract]; omega
                      rcases (show (((rr.size : Int) == 0) = false) ∨ (((rr.size : Int) == 0) = true ∧ ¬ (0 : Int) < (T2.size : Int)) by
                        by_cases hr : rr.size = 0
                        · right
                          refine ⟨by rw [beq_iff_eq]; omega, ?_⟩
                          have : (restB pp.data.toList).length = rr.size := by rw [HRR.out, bs_size]
                          have h1 : (restB pp.data.toList).isEmpty = true := by rw [List.isEmpty_iff]; exact List.length_eq_zero_iff.1 (by omega)
                          have h2 : t2 = [] := Classical.byContradiction fun h => hc2 ⟨h1, h⟩
                          rw [h2] at hT2l
                          simp at hT2l
                          omega
                        · left; rw [beq_eq_false_iff_ne]; omega) with r1 | ⟨r1, r2⟩
                      all_goals
                        clear hm2 hy hc2 hT2l hT2
                        go_wp2_with (go_at_call 120; rw [← HY.out]; refine (HMC2 _).out.mono ?_; rintro e w1 ⟨rfl, hb⟩; have HBZ := Lib.hid (HBY.out.trans (hb.mono HBY.out.size)); clear hb)
                        go_roundg g
                        case measure => omega
                        case rel => exact ⟨rr, T2, rfl, rfl, by omega, by omega, by omega, HNEXT, HBZ⟩
            | some t =>
              obtain ⟨T, hT⟩ : ∃ T, T = bs t := ⟨_, rfl⟩
              have HTT := Lib.hid hT
              have hTl : t.length = T.size := by rw [hT, bs_size]
              have hTn : T.size ≤ nn.size := by
                have := mc_len hm
                rw [bs_size_eq, bs_size_eq] at this
                omega
              rw [hm, MkV] at HMC
              rw [← hT] at HMC
              by_cases hcd : t = [] ∨ restB pp.data.toList ≠ []
              · have HNEXT : Hid (MaA p.data.toList s.data.toList rr T) := by
                  refine Lib.hid ⟨?_, HRQ.out, ?_⟩
                  · rw [← HA.out.eq, mat_go HNE.out HNC.out (by rw [← HCD.out]; exact hm) hcd, HRR.out, hT, bs_data, bs_data]
                  · rw [hT, bs_data]; exact mc_part hm HPN.out
                rcases (show (((T.size : Int) == 0) = true) ∨ (((T.size : Int) == 0) = false ∧ (0 : Int) < (rr.size : Int)) by
                  by_cases hz : T.size = 0
                  · left; rw [beq_iff_eq]; omega
                  · right
                    refine ⟨by rw [beq_eq_false_iff_ne]; omega, ?_⟩
                    rcases hcd with h | h
                    · rw [h] at hTl; simp at hTl; omega
                    · have := List.length_pos_iff.2 h
                      rw [HRR.out, bs_size]; omega) with t1 | ⟨t1, t2⟩
                all_goals
                  clear hm hT hTl hcd
                  go_wp2_with (first
                    | (go_at_call 118; refine (HSC _).out.mono ?_; rintro e w1 ⟨rfl, hb⟩; have HB1 := Lib.hid (HB.out.trans (hb.mono HB.out.size)); clear hb)
                    | (go_at_call 120; refine (HMC _).out.mono ?_; rintro e w2 ⟨rfl, hb⟩; have HB2 := Lib.hid (HB1.out.trans (hb.mono HB1.out.size)); clear hb))
                  go_roundg g
                  case measure => omega
                  case rel => exact ⟨rr, T, rfl, rfl, by omega, by omega, by omega, HNEXT, HB2⟩
              · have HTRY : Hid (TryB pp.data.toList nn.data.toList = matB p.data.toList s.data.toList) := Lib.hid (by rw [← HA.out.eq, mat_try HNE.out HNC.out (fun t ht => by rw [← HCD.out, hm] at ht; cases ht; exact hcd)])
                have t1 : ((T.size : Int) == 0) = false := by
                  rw [beq_eq_false_iff_ne]
                  intro h
                  exact hcd (.inl (List.length_eq_zero_iff.1 (by omega)))
                have hre : rr = ⟨#[]⟩ := by
                  have h2 : restB pp.data.toList = [] := Classical.byContradiction fun h2 => hcd (.inr h2)
                  rw [HRR.out, h2]; rfl
                subst hre
                clear hm hT hTl hcd
                go_wp2_with (first
                  | (go_at_call 118; refine (HSC _).out.mono ?_; rintro e w1 ⟨rfl, hb⟩; have HB1 := Lib.hid (HB.out.trans (hb.mono HB.out.size)); clear hb)
                  | (go_at_call 120; refine (HMC _).out.mono ?_; rintro e w2 ⟨rfl, hb⟩; have HB2 := Lib.hid (HB1.out.trans (hb.mono HB1.out.size)); clear hb))
                go_loopg [1, 11] nn.size (fun g2 v1 v11 wy => ∃ k : Nat, k + g2 = nn.size ∧ v1 = .string nn ∧ v11 = .int .i64 k ∧ Hid (skipB (chunkB pp.data.toList) (restB pp.data.toList).isEmpty (nn.data.toList.drop k) = skipB (chunkB pp.data.toList) (restB pp.data.toList).isEmpty nn.data.toList) ∧ Hid (Below w.heap.size w wy))
                case atStart => exact ⟨0, by omega, rfl, rfl, by rw [List.drop_zero]; exact Lib.hid rfl, HB2⟩
                case round =>
                  obtain ⟨k, hk, rfl, rfl, HK, HBY⟩ := hrel
                  have hk1 : k ≤ nn.size := by omega
                  cases gk with
                  | zero =>
                    have hkn : nn.size ≤ k := by omega
                    have ik : ¬ (k : Int) < (nn.size : Int) := by omega
                    have HF : Hid (false = matB p.data.toList s.data.toList) := Lib.hid (by rw [← HTRY.out, TryB, if_pos HST.out, ← HK.out, List.drop_of_length_le (by rw [bs_size_eq]; omega)]; rfl)
                    clear hk
                    go_wp2_with (fail)
                    refine wp_loop_rounds 2 ?_
                    rw [rounds_succ]
                    go_wp2_with (fail)
                    try rw [Exit.noGoto_ret]
                    refine bodyPost_ret (v := .tuple #[.bool false, .nilIface]) (by simp [results, Tryz.results92, go_sem]) rfl ⟨by rw [← HF.out], HBY.out⟩
                  | succ g2 =>
                    have hlt : k < nn.size := by omega
                    have hk2 : k + 1 + g2 = nn.size := by omega
                    have HKE := Lib.hid hk2
                    clear hk hk2
                    have hxk := HPN.out nn[k] (List.mem_of_getElem? (bs_get nn k hlt))
                    have i47 : (((nn[k].toNat : Nat) : Int) != 47) = true := by simpa using u8_neI (n := 47) (by decide) hxk.2
                    have j47 : ((nn[k].toNat : Nat) : Int) ≠ 47 := u8_neI (n := 47) (by decide) hxk.2
                    have hkp : (k : Int) + 1 ≤ (nn.size : Int) := by omega
                    obtain ⟨y, hy⟩ : ∃ y, y = nn.extract (k + 1) nn.size := ⟨_, rfl⟩
                    have hyd : y.data.toList = nn.data.toList.drop (k + 1) := by rw [hy, bs_tail, bs_data]
                    have HYD := Lib.hid hyd
                    have HY := Lib.hid hy
                    have HYP : Hid (PartL y.data.toList) := Lib.hid (by rw [hyd]; exact fun x hx => HPN.out x (List.mem_of_mem_drop hx))
                    have hyl : y.size ≤ 4294967296 := by rw [← bs_size_eq, hyd, List.length_drop, bs_size_eq]; omega
                    have HMC2 := fun w => Lib.hid (matchChunk_any (s := y) HCQ.out HYP.out hcl hyl w)
                    have hstep : skipB (chunkB pp.data.toList) (restB pp.data.toList).isEmpty (nn.data.toList.drop k) = (match mcB ck.data.toList y.data.toList with
                      | some t => if (restB pp.data.toList).isEmpty = true ∧ t ≠ [] then skipB (chunkB pp.data.toList) (restB pp.data.toList).isEmpty (nn.data.toList.drop (k + 1)) else some t
                      | none => skipB (chunkB pp.data.toList) (restB pp.data.toList).isEmpty (nn.data.toList.drop (k + 1))) := by
                      rw [drop_get' (bs_get nn k hlt), skipB, hyd, HCK.out, bs_data]
                      cases mcB (chunkB pp.data.toList) (nn.data.toList.drop (k + 1)) <;> rfl
                    have HSTEP := Lib.hid hstep
                    unfold MkP at HMC2
                    clear hstep hxk hyd hyl
                    cases hm2 : mcB ck.data.toList y.data.toList with
                    | none =>
                      have HK2 : Hid (skipB (chunkB pp.data.toList) (restB pp.data.toList).isEmpty (nn.data.toList.drop (k + 1)) = skipB (chunkB pp.data.toList) (restB pp.data.toList).isEmpty nn.data.toList) := Lib.hid (by rw [← HK.out, HSTEP.out, hm2])
                      rw [hm2, MkV] at HMC2
                      have HM2 := Lib.hid hm2
                      clear hm2 hy
                      go_wp2_with (go_at_call 120; rw [← HY.out]; refine (HMC2 _).out.mono ?_; rintro e w1 ⟨rfl, hb⟩; have HBZ := Lib.hid (HBY.out.trans (hb.mono HBY.out.size)); clear hb)
                      go_roundg g2
                      case measure => omega
                      case rel => exact ⟨k + 1, HKE.out, rfl, by first | rfl | go_num, HK2, HBZ⟩
                    | some t2 =>
                      obtain ⟨T2, hT2⟩ : ∃ T2, T2 = bs t2 := ⟨_, rfl⟩
                      have HT2 := Lib.hid hT2
                      rw [hm2, MkV] at HMC2
                      rw [← hT2] at HMC2
                      have hT2l : t2.length = T2.size := by rw [hT2, bs_size]
                      by_cases hc2 : (restB pp.data.toList).isEmpty = true ∧ t2 ≠ []
                      · have HK2 : Hid (skipB (chunkB pp.data.toList) (restB pp.data.toList).isEmpty (nn.data.toList.drop (k + 1)) = skipB (chunkB pp.data.toList) (restB pp.data.toList).isEmpty nn.data.toList) := Lib.hid (by rw [← HK.out, HSTEP.out, hm2]; simp only; rw [if_pos hc2])
                        have r2 : (0 : Int) < (T2.size : Int) := by
                          have := List.length_pos_iff.2 hc2.2
                          omega
                        have r3 := decide_eq_true r2
                        clear hm2 hy hc2 hT2l hT2
                        go_wp2_with (go_at_call 120; rw [← HY.out]; refine (HMC2 _).out.mono ?_; rintro e w1 ⟨rfl, hb⟩; have HBZ := Lib.hid (HBY.out.trans (hb.mono HBY.out.size)); clear hb)
                        go_roundg g2
                        case measure => omega
                        case rel => exact ⟨k + 1, HKE.out, rfl, by first | rfl | go_num, HK2, HBZ⟩
                      · have HNEXT : Hid (MaA p.data.toList s.data.toList (⟨#[]⟩ : ByteArray) T2) := by
                          have e1 : matB (⟨#[]⟩ : ByteArray).data.toList T2.data.toList = matB (restB pp.data.toList) t2 := by rw [HRD.out, hT2, bs_data]
                          refine Lib.hid ⟨e1.trans ?_, HRQ.out, ?_⟩
                          · rw [← HTRY.out, TryB, if_pos HST.out, ← HK.out, HSTEP.out, hm2]
                            simp only
                            rw [if_neg hc2]
                          · rw [hT2, bs_data]; exact mc_part hm2 HYP.out
                        have hT2s : T2.size ≤ y.size := by
                          have := mc_len hm2
                          rw [bs_size_eq, bs_size_eq] at this
                          omega
                        have hys : y.size ≤ nn.size := by rw [hy, ByteArray.size_extract]; omega
                        have r2 : ¬ (0 : Int) < (T2.size : Int) := by
                          have h1 : (restB pp.data.toList).isEmpty = true := by
                            have h3 : (restB pp.data.toList).length = (⟨#[]⟩ : ByteArray).size := by rw [HRR.out, bs_size]
                            rw [List.isEmpty_iff]; exact List.length_eq_zero_iff.1 h3
                          have h2 : t2 = [] := Classical.byContradiction fun h => hc2 ⟨h1, h⟩
                          rw [h2] at hT2l
                          simp at hT2l
                          omega
                        clear hm2 hy hc2 hT2l hT2
                        go_wp2_with (go_at_call 120; rw [← HY.out]; refine (HMC2 _).out.mono ?_; rintro e w1 ⟨rfl, hb⟩; have HBZ := Lib.hid (HBY.out.trans (hb.mono HBY.out.size)); clear hb)
                        go_roundg g
                        case measure => omega
                        case rel => exact ⟨_, T2, rfl, rfl, by omega, by omega, by omega, HNEXT, HBZ⟩
          · have HY : Hid (true = matB p.data.toList s.data.toList) := Lib.hid (by rw [← HA.out.eq, mat_any HNE.out HSS.out.symm (by rw [← HCD.out]; exact bs_nil hc0)])
            have e1 : ck.toList.isEmpty = true := by rw [HKD.out, bs_nil hc0]; rfl
            have hix := fun w => idx_none HPN.out w
            go_wp2_with (go_at_call 118; refine (HSC _).out.mono ?_; rintro e w1 ⟨rfl, hb⟩; have HB1 := Lib.hid (HB.out.trans (hb.mono HB.out.size)); clear hb)
            try rw [hix]
            try simp only [Result.andThen]
            try rw [Oper.upon_value]
            go_wp2_with (fail)
            try rw [Exit.noGoto_ret]
            refine bodyPost_ret (v := .tuple #[.bool true, .nilIface]) (by simp [results, Tryz.results92, go_sem]) rfl ⟨by rw [← HY.out], HB1.out⟩
        | false =>
          have HST : Hid (¬ starB pp.data.toList = true) := Lib.hid (by rw [← HSS.out]; simp)
          have HNC : Hid (¬ (starB pp.data.toList = true ∧ chunkB pp.data.toList = [])) := Lib.hid (fun h => HST.out h.1)
          cases hm : mcB ck.data.toList nn.data.toList with
          | none =>
            have HTRY : Hid (TryB pp.data.toList nn.data.toList = matB p.data.toList s.data.toList) := Lib.hid (by rw [← HA.out.eq, mat_try HNE.out HNC.out (fun t ht => by rw [← HCD.out, hm] at ht; cases ht)])
            rw [hm, MkV] at HMC
            clear hm
            have HF : Hid (false = matB p.data.toList s.data.toList) := Lib.hid (by rw [← HTRY.out, TryB, if_neg HST.out])
            go_wp2_with (first
              | (go_at_call 118; refine (HSC _).out.mono ?_; rintro e w1 ⟨rfl, hb⟩; have HB1 := Lib.hid (HB.out.trans (hb.mono HB.out.size)); clear hb)
              | (go_at_call 120; refine (HMC _).out.mono ?_; rintro e w2 ⟨rfl, hb⟩; have HB2 := Lib.hid (HB1.out.trans (hb.mono HB1.out.size)); clear hb))
            go_loopg [0, 7] rr.size (fun g3 v0 v7 wz => ∃ (qq c7 : ByteArray), v0 = .string qq ∧ v7 = .string c7 ∧ qq.size ≤ g3 ∧ qq.size ≤ 4294967296 ∧ Hid (QuietL qq.data.toList) ∧ Hid (Below w.heap.size w wz))
            case atStart => exact ⟨rr, _, rfl, rfl, Nat.le_refl _, hrl, HRQ.out, HB2.out⟩
            case round =>
              obtain ⟨qq, c7, rfl, rfl, hg3, hql, HQQ, HB3⟩ := hrel
              by_cases h03 : 0 < qq.size
              · cases gk with
                | zero => exfalso; omega
                | succ g3 =>
                  have HNE : Hid (qq.data.toList ≠ []) := Lib.hid (by rw [bs_cons qq h03]; exact List.cons_ne_nil _ _)
                  obtain ⟨c8, hc8⟩ : ∃ c8, c8 = bs (chunkB qq.data.toList) := ⟨_, rfl⟩
                  obtain ⟨q8, hq8⟩ : ∃ q8, q8 = bs (restB qq.data.toList) := ⟨_, rfl⟩
                  have HSC := fun w => Lib.hid (scanChunk_any HQQ.out hql w)
                  unfold ScP at HSC
                  rw [← hc8, ← hq8] at HSC
                  have HC8 : Hid (QuietL c8.data.toList) := by rw [hc8]; exact Lib.hid HQQ.out.chunk
                  have HQ8 : Hid (QuietL q8.data.toList) := by rw [hq8]; exact Lib.hid HQQ.out.rest
                  have hl8 : q8.size < qq.size := by rw [hq8, bs_size, ← bs_size_eq qq]; exact rest_lt' HNE.out
                  have hl9 : c8.size ≤ 4294967296 := by rw [hc8, bs_size]; have := chunk_len qq.data.toList; rw [bs_size_eq] at this; omega
                  have HMC := fun w => Lib.hid (matchChunk_any (s := ⟨#[]⟩) HC8.out (fun x hx => by simp at hx) hl9 (by simp [ByteArray.size]) w)
                  obtain ⟨sb, hsb⟩ : ∃ sb, sb = starB qq.data.toList := ⟨_, rfl⟩
                  rw [← hsb] at HSC
                  obtain ⟨T9, K9, hv9⟩ : ∃ (T9 : ByteArray) (K9 : Bool), MkV (mcB c8.data.toList (⟨#[]⟩ : ByteArray).data.toList) = .tuple #[.string T9, .bool K9, .nilIface] := mkV_form _
                  unfold MkP at HMC
                  rw [hv9] at HMC
                  clear hc8 hq8 hsb hv9 HC8
                  go_wp2_with (first
                    | (go_at_call 118; refine (HSC _).out.mono ?_; rintro e w1 ⟨rfl, hb⟩; have HB4 := Lib.hid (HB3.out.trans (hb.mono HB3.out.size)); clear hb HSC)
                    | (go_at_call 120; refine (HMC _).out.mono ?_; rintro e w1 ⟨rfl, hb⟩; have HB5 := Lib.hid (HB4.out.trans (hb.mono HB4.out.size)); clear hb))
                  go_roundg g3
                  case measure => omega
                  case rel => exact ⟨q8, _, rfl, rfl, by omega, by omega, HQ8, HB5⟩
              · have i03 : ¬ (0 : Int) < (qq.size : Int) := by omega
                go_wp2_with (fail)
                try rw [Exit.noGoto_ret]
                refine bodyPost_ret (v := .tuple #[.bool false, .nilIface]) (by simp [results, Tryz.results92, go_sem]) rfl ⟨by rw [← HF.out], HB3.out⟩
          | some t =>
            obtain ⟨T, hT⟩ : ∃ T, T = bs t := ⟨_, rfl⟩
            have HTT := Lib.hid hT
            have hTl : t.length = T.size := by rw [hT, bs_size]
            have hTn : T.size ≤ nn.size := by
              have := mc_len hm
              rw [bs_size_eq, bs_size_eq] at this
              omega
            rw [hm, MkV] at HMC
            rw [← hT] at HMC
            by_cases hcd : t = [] ∨ restB pp.data.toList ≠ []
            · have HNEXT : Hid (MaA p.data.toList s.data.toList rr T) := by
                refine Lib.hid ⟨?_, HRQ.out, ?_⟩
                · rw [← HA.out.eq, mat_go HNE.out HNC.out (by rw [← HCD.out]; exact hm) hcd, HRR.out, hT, bs_data, bs_data]
                · rw [hT, bs_data]; exact mc_part hm HPN.out
              rcases (show (((T.size : Int) == 0) = true) ∨ (((T.size : Int) == 0) = false ∧ (0 : Int) < (rr.size : Int)) by
                by_cases hz : T.size = 0
                · left; rw [beq_iff_eq]; omega
                · right
                  refine ⟨by rw [beq_eq_false_iff_ne]; omega, ?_⟩
                  rcases hcd with h | h
                  · rw [h] at hTl; simp at hTl; omega
                  · have := List.length_pos_iff.2 h
                    rw [HRR.out, bs_size]; omega) with t1 | ⟨t1, t2⟩
              all_goals
                clear hm hT hTl hcd
                go_wp2_with (first
                  | (go_at_call 118; refine (HSC _).out.mono ?_; rintro e w1 ⟨rfl, hb⟩; have HB1 := Lib.hid (HB.out.trans (hb.mono HB.out.size)); clear hb)
                  | (go_at_call 120; refine (HMC _).out.mono ?_; rintro e w2 ⟨rfl, hb⟩; have HB2 := Lib.hid (HB1.out.trans (hb.mono HB1.out.size)); clear hb))
                go_roundg g
                case measure => omega
                case rel => exact ⟨rr, T, rfl, rfl, by omega, by omega, by omega, HNEXT, HB2⟩
            · have HTRY : Hid (TryB pp.data.toList nn.data.toList = matB p.data.toList s.data.toList) := Lib.hid (by rw [← HA.out.eq, mat_try HNE.out HNC.out (fun t ht => by rw [← HCD.out, hm] at ht; cases ht; exact hcd)])
              have t1 : ((T.size : Int) == 0) = false := by
                rw [beq_eq_false_iff_ne]
                intro h
                exact hcd (.inl (List.length_eq_zero_iff.1 (by omega)))
              have hre : rr = ⟨#[]⟩ := by
                have h2 : restB pp.data.toList = [] := Classical.byContradiction fun h2 => hcd (.inr h2)
                rw [HRR.out, h2]; rfl
              subst hre
              clear hm hT hTl hcd
              have HF : Hid (false = matB p.data.toList s.data.toList) := Lib.hid (by rw [← HTRY.out, TryB, if_neg HST.out])
              go_wp2_with (first
                | (go_at_call 118; refine (HSC _).out.mono ?_; rintro e w1 ⟨rfl, hb⟩; have HB1 := Lib.hid (HB.out.trans (hb.mono HB.out.size)); clear hb)
                | (go_at_call 120; refine (HMC _).out.mono ?_; rintro e w2 ⟨rfl, hb⟩; have HB2 := Lib.hid (HB1.out.trans (hb.mono HB1.out.size)); clear hb))
              refine wp_loop_rounds 2 ?_
              rw [rounds_succ]
              go_wp2_with (fail)
              try rw [Exit.noGoto_ret]
              refine bodyPost_ret (v := .tuple #[.bool false, .nilIface]) (by simp [results, Tryz.results92, go_sem]) rfl ⟨by rw [← HF.out], HB2.out⟩
    · have i0 : ¬ (0 : Int) < (pp.size : Int) := by omega
      by_cases hn : 0 < nn.size
      · have n1 : ((nn.size : Int) == 0) = false := by rw [beq_eq_false_iff_ne]; omega
        have HE : Hid (false = matB p.data.toList s.data.toList) := Lib.hid (by rw [← HA.out.eq, bs_nil h0, matB, bs_cons nn hn]; rfl)
        go_wp2_with (fail)
        try rw [Exit.noGoto_ret]
        refine bodyPost_ret (v := .tuple #[.bool false, .nilIface]) (by simp [results, Tryz.results92, go_sem]) rfl ⟨by rw [← HE.out], HB.out⟩
      · have n1 : ((nn.size : Int) == 0) = true := by rw [beq_iff_eq]; omega
        have HE : Hid (true = matB p.data.toList s.data.toList) := Lib.hid (by rw [← HA.out.eq, bs_nil h0, matB, bs_nil hn]; rfl)
        go_wp2_with (fail)
        try rw [Exit.noGoto_ret]
        refine bodyPost_ret (v := .tuple #[.bool true, .nilIface]) (by simp [results, Tryz.results92, go_sem]) rfl ⟨by rw [← HE.out], HB.out⟩
end Go.Proofs.YtpanemfpipcggaaGreatDoor
