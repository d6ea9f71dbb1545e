/- Proved: laws.FnExpired answers true at every kind, end and time, and leaves its arguments as they read; under the row's cell 'laid' (package-level variables of Go's library start as its text lays them; the card ties them). -/
import Derived.Test.YtlliohgbbboleaaGreatDoorE3
import Derived.Test.YtlliohgbbboleaaGreatDoorG3
open Go Go.RowKit
namespace Go.Proofs.YtlliohgbbboleaaGreatDoor
open Go.ChangeShapes Go.WideShapes Go.ChangeAt Go.ChangeMaps
set_option maxRecDepth 100000 in
theorem lifted_FnExpired (os : Os) (started : os.Started) (H : Type) (enc : TypeId × Value → H) :
    ReturnsInHanded {} Tryz.checked os 6 .any (fun w args => (Rows.fnExpiredSpec.pre enc Tryz.prog Tryz.f6 [] false w args ∧ laidMetH Tryz.prog Rows.fnExpiredRow.laid w) ∧ sizedMet enc Tryz.prog Tryz.f6 (OpenSpec.ofChange Rows.fnExpiredSpec) false w args)
      (Rows.fnExpiredSpec.post enc Tryz.prog Tryz.f6 false true false false) := by
  refine returnsInHanded_of_change_and (C := Tryz.checked) (X := fun w _ => laidMetH Tryz.prog Rows.fnExpiredRow.laid w) (fun _ _ _ hh h => h.of_heap hh) own3 started (by kernel_rfl) Tryz.func6
    (ChangeSpec.witness_shaped (enc := enc) (C := Tryz.checked) (os := os) (X := fun w _ => laidMetH Tryz.prog Rows.fnExpiredRow.laid w) false (World.laidAll Tryz.prog os Rows.fnExpiredRow.laid) #[.int .u8 0, .int .i64 0, .int .i64 0] 8 (World.laidAll_os _ _ _)
      (World.shaped_of_ZipB (by kernel_rfl) (by kernel_rfl)) (by kernel_rfl) (by kernel_rfl) (by kernel_rfl)
      (by rw [MakeChecks.laidMetH_plain _ _ _ (by kernel_rfl)]; exact laidMet_laidAll _ (by kernel_rfl) (by kernel_rfl))) ?_
  intro W base args ds gs before hval0 hW _ _ hL _
  have hval : ∀ (j : Nat) t v, Tryz.f6.params[j]? = some t → args[j]? = some v → Value.okWide Tryz.prog W .any base t v := hval0
  have hW' := hW
  obtain ⟨p, q, hA0, hV, rfl, _, _⟩ := hW
  have hA : DataW.TrodAll enc Tryz.prog W 0 (fun _ => true) true Tryz.f6.params.toList args.toList ds p := hA0
  rw [Tryz.params6] at hA hval
  obtain ⟨v0, v1, v2, d0, d1, d2, p0, p1, p2, rfl, rfl, rfl, h0, h1, h2⟩ := trodAll_three hA
  obtain ⟨rfl, rfl⟩ := trodVars_none hV
  obtain ⟨x0, rfl, rfl, rfl, hx0⟩ := open_int Tryz.underlying5 (hval 0 5 v0 rfl rfl) h0
  obtain ⟨x1, rfl, rfl, rfl, hx1⟩ := open_int Tryz.underlying2 (hval 1 2 v1 rfl rfl) h1
  obtain ⟨x2, rfl, rfl, rfl, hx2⟩ := open_int Tryz.underlying2 (hval 2 2 v2 rfl rfl) h2
  rw [MakeChecks.laidMetH_plain _ _ _ (by kernel_rfl)] at hL
  have hT : TL W.heap.size W := tl_of (tl0_of hL (by simp [Rows.fnExpiredRow]) (by simp [Rows.fnExpiredRow]) (by simp [Rows.fnExpiredRow]) (by simp [Rows.fnExpiredRow]) (by simp [Rows.fnExpiredRow]) (by simp [Rows.fnExpiredRow]) (by simp [Rows.fnExpiredRow]) (by simp [Rows.fnExpiredRow]) (by simp [Rows.fnExpiredRow])) rfl
  refine (fnExpired_all x0 x1 x2 hx0 hT).mono fun e W' ⟨he, hbl⟩ => ?_
  subst he
  exact ⟨_, rfl, _, _, _, [], _, [], hW', trodAll_mk1 (shut_bool Tryz.underlying4 _), trodAll_mk3 (shut_int Tryz.underlying5 hx0) (shut_int Tryz.underlying2 hx1) (shut_int Tryz.underlying2 hx2), rfl, hbl.frame _, fun h => by cases h⟩
set_option maxRecDepth 100000 in
set_option maxHeartbeats 8000000 in
theorem closed_FnExpired : joinedFacts Tryz.pinned.checked.prog 6 Tryz.f6 Rows.fnExpiredSpec Rows.fnExpiredRow = true := by
  unfold joinedFacts
  repeat' (with_reducible apply andB3)
  all_goals (as_aux_lemma => kernel_rfl)
theorem holds_FnExpired : Rows.FnExpiredSaid :=
  OpenClaim.holds_of_wide 6 Tryz.f6 rfl rfl rfl rfl rfl rfl rfl ⟨rfl, rfl, rfl, rfl, rfl⟩ rfl rfl rfl rfl rfl (by kernel_rfl) Tryz.func6 closed_FnExpired
    (by as_aux_lemma => exact of_decide_eq_true (by kernel_rfl)) (by unfold Func.isWrapper; first | (rw [if_pos (by decide +kernel)]; kernel_rfl) | (rw [if_neg (by decide +kernel)]; exact ⟨rfl, rfl⟩))
    (fun os started H enc _ => lifted_FnExpired os started H enc)
theorem fnExpired_card : Rows.FnExpiredCardSaid :=
  Claim7.holds_tied_plain_at .later [] [.data, .data, .widerDeep, .widerDeep, .data, .data, .data, .data, .data, .data, .sentinel, .sentinel, .sentinel, .pinned, .pinned, .pinned] true (true, "8f67354c5ad8db9a90add8fed2cec1a5f18d5cffd925b5937217a0c5b032fb5b") true holds_FnExpired (fun _ h => by cases h) (by kernel_rfl) (fun _ h => by cases h) fnExpired_row_tie rfl ⟨rfl, rfl⟩ (by kernel_rfl) rfl
    (fun f fn hf hfn => by
      obtain rfl : f = 6 := Option.some.inj ((show Tryz.prog.funcNamed "pub-typarium/laws.FnExpired" = some 6 by kernel_rfl).symm.trans hf) |>.symm
      obtain rfl : fn = Tryz.f6 := (Option.some.inj (Tryz.func6.symm.trans hfn)).symm
      exact ⟨by kernel_rfl, fun j t ht => by
        rw [Tryz.params6] at ht
        have hm : t ∈ [5, 2, 2] := by simpa using Array.mem_of_getElem? ht
        have hall : ([5, 2, 2].all fun u => !Tryz.prog.wantsStandIn u) = true := by kernel_rfl
        exact (show Tryz.prog.wantsStandIn t = false by simpa using List.all_eq_true.1 hall t hm)⟩)
    (by kernel_rfl)
#print axioms fnExpired_card
end Go.Proofs.YtlliohgbbboleaaGreatDoor
