/- Proved: laws.FnPAEApart answers true at every two pairs of a type and a body, and leaves its arguments as they read; under the row's cell 'laid' (package-level variables of Go's library start as its text lays them; the card ties them). -/
import Derived.Test.YtlliohgbbboleaaGreatDoorA6
import Derived.Test.YtlliohgbbboleaaGreatDoorG3
open Go Go.RowKit
namespace Go.Proofs.YtlliohgbbboleaaGreatDoor
open Go.ChangeShapes Go.WideShapes Go.ChangeAt Go.ChangeMaps
set_option maxRecDepth 100000 in
theorem lifted_FnPAEApart (os : Os) (started : os.Started) (H : Type) (enc : TypeId × Value → H) :
    ReturnsInHanded {} Tryz.checked os 4 .any (fun w args => (Rows.fnPAEApartSpec.pre enc Tryz.prog Tryz.f4 [] false w args ∧ laidMetH Tryz.prog Rows.fnPAEApartRow.laid w) ∧ sizedMet enc Tryz.prog Tryz.f4 (OpenSpec.ofChange Rows.fnPAEApartSpec) false w args)
      (Rows.fnPAEApartSpec.post enc Tryz.prog Tryz.f4 false true false false) := by
  refine returnsInHanded_of_change_and (C := Tryz.checked) (X := fun w _ => laidMetH Tryz.prog Rows.fnPAEApartRow.laid w) (fun _ _ _ hh h => h.of_heap hh) own3 started (by kernel_rfl) Tryz.func4
    (ChangeSpec.witness_shaped (enc := enc) (C := Tryz.checked) (os := os) (X := fun w _ => laidMetH Tryz.prog Rows.fnPAEApartRow.laid w) false (World.laidAll Tryz.prog os Rows.fnPAEApartRow.laid) #[.string ⟨#[]⟩, .slice none 0 0, .string ⟨#[]⟩, .slice none 0 0] 8 (World.laidAll_os _ _ _)
      (World.shaped_of_ZipB (by kernel_rfl) (by kernel_rfl)) (by kernel_rfl) (by kernel_rfl) (by kernel_rfl)
      (by rw [MakeChecks.laidMetH_plain _ _ _ (by kernel_rfl)]; exact laidMet_laidAll _ (by kernel_rfl) (by kernel_rfl))) ?_
  intro W base args ds gs before hval0 hW _ _ hL _
  have hval : ∀ (j : Nat) t v, Tryz.f4.params[j]? = some t → args[j]? = some v → Value.okWide Tryz.prog W .any base t v := hval0
  have hW' := hW
  obtain ⟨p, q, hA0, hV, rfl, _, _⟩ := hW
  have hA : DataW.TrodAll enc Tryz.prog W 0 (fun _ => true) true Tryz.f4.params.toList args.toList ds p := hA0
  rw [Tryz.params4] at hA hval
  obtain ⟨v0, v1, v2, v3, d0, d1, d2, d3, p0, p1, p2, p3, rfl, rfl, rfl, h0, h1, h2, h3⟩ := trodAll_four hA
  obtain ⟨rfl, rfl⟩ := trodVars_none hV
  obtain ⟨s0, rfl, rfl, rfl, hs0⟩ := open_string Tryz.underlying9 (hval 0 9 v0 rfl rfl) h0
  obtain ⟨b1, hb1⟩ := bsrc_of (hval 1 22 v1 rfl rfl) h1
  have hlt1 : ∀ x ∈ p1, x.block < W.heap.size := fun x hx => by simpa using hW'.lt x (by simp [hx])
  obtain ⟨s2, rfl, rfl, rfl, hs2⟩ := open_string Tryz.underlying9 (hval 2 9 v2 rfl rfl) h2
  obtain ⟨b3, hb3⟩ := bsrc_of (hval 3 22 v3 rfl rfl) h3
  have hlt3 : ∀ x ∈ p3, x.block < W.heap.size := fun x hx => by simpa using hW'.lt x (by simp [hx])
  rw [MakeChecks.laidMetH_plain _ _ _ (by kernel_rfl)] at hL
  have hT : TL W.heap.size W := tl_of (tl0_of hL (by simp [Rows.fnPAEApartRow]) (by simp [Rows.fnPAEApartRow]) (by simp [Rows.fnPAEApartRow]) (by simp [Rows.fnPAEApartRow]) (by simp [Rows.fnPAEApartRow]) (by simp [Rows.fnPAEApartRow]) (by simp [Rows.fnPAEApartRow]) (by simp [Rows.fnPAEApartRow]) (by simp [Rows.fnPAEApartRow])) rfl
  refine (fnPAEApart_all s0 s2 hb1 hb3 hs0 hs2 hT).mono fun e W' ⟨he, hbl⟩ => ?_
  subst he
  exact ⟨_, rfl, _, _, _, [], _, [], hW', trodAll_mk1 (shut_bool Tryz.underlying4 _), trodAll_mk4 (shut_string Tryz.underlying9 hs0) (Below.trod laidOut3 (by kernel_rfl) (of_decide_eq_true (by kernel_rfl)) h1 hbl hlt1) (shut_string Tryz.underlying9 hs2) (Below.trod laidOut3 (by kernel_rfl) (of_decide_eq_true (by kernel_rfl)) h3 hbl hlt3), rfl, hbl.frame _, fun h => by cases h⟩
set_option maxRecDepth 100000 in
set_option maxHeartbeats 8000000 in
theorem closed_FnPAEApart : joinedFacts Tryz.pinned.checked.prog 4 Tryz.f4 Rows.fnPAEApartSpec Rows.fnPAEApartRow = true := by
  unfold joinedFacts
  repeat' (with_reducible apply andB3)
  all_goals (as_aux_lemma => kernel_rfl)
theorem holds_FnPAEApart : Rows.FnPAEApartSaid :=
  OpenClaim.holds_of_wide 4 Tryz.f4 rfl rfl rfl rfl rfl rfl rfl ⟨rfl, rfl, rfl, rfl, rfl⟩ rfl rfl rfl rfl rfl (by kernel_rfl) Tryz.func4 closed_FnPAEApart
    (by as_aux_lemma => exact of_decide_eq_true (by kernel_rfl)) (by unfold Func.isWrapper; first | (rw [if_pos (by decide +kernel)]; kernel_rfl) | (rw [if_neg (by decide +kernel)]; exact ⟨rfl, rfl⟩))
    (fun os started H enc _ => lifted_FnPAEApart os started H enc)
theorem fnPAEApart_card : Rows.FnPAEApartCardSaid :=
  Claim7.holds_tied_plain_at .later [] [.data, .data, .widerDeep, .widerDeep, .data, .data, .data, .data, .data, .data, .sentinel, .sentinel, .sentinel, .pinned, .pinned, .pinned] true (true, "8f67354c5ad8db9a90add8fed2cec1a5f18d5cffd925b5937217a0c5b032fb5b") true holds_FnPAEApart (fun _ h => by cases h) (by kernel_rfl) (fun _ h => by cases h) fnPAEApart_row_tie rfl ⟨rfl, rfl⟩ (by kernel_rfl) rfl
    (fun f fn hf hfn => by
      obtain rfl : f = 4 := Option.some.inj ((show Tryz.prog.funcNamed "pub-typarium/laws.FnPAEApart" = some 4 by kernel_rfl).symm.trans hf) |>.symm
      obtain rfl : fn = Tryz.f4 := (Option.some.inj (Tryz.func4.symm.trans hfn)).symm
      exact ⟨by kernel_rfl, fun j t ht => by
        rw [Tryz.params4] at ht
        have hm : t ∈ [9, 22, 9, 22] := by simpa using Array.mem_of_getElem? ht
        have hall : ([9, 22, 9, 22].all fun u => !Tryz.prog.wantsStandIn u) = true := by kernel_rfl
        exact (show Tryz.prog.wantsStandIn t = false by simpa using List.all_eq_true.1 hall t hm)⟩)
    (by kernel_rfl)
#print axioms fnPAEApart_card
end Go.Proofs.YtlliohgbbboleaaGreatDoor
