import Derived.Test.YbulkswmDoorLaid
import Derived.Test.YbulkswmDoorCards
import Derived.SevenTiedAt
namespace Go.Proofs.YbulkswmDoor
open Go.ChangeShapes Go.WideShapes Go.ChangeAt Go.RowKit

set_option maxRecDepth 100000 in
theorem each_lifted (os : Os) (started : os.Started) (H : Type) (enc : TypeId × Value → H) :
    ReturnsInHanded {} Ybad.checked os 4 .any (fun w args => (Rows.lawS0961BEachLetterSpec.pre enc Ybad.prog Ybad.f4 [] false w args ∧ laidMetH Ybad.prog laidList w) ∧ sizedMet enc Ybad.prog Ybad.f4 (OpenSpec.ofChange Rows.lawS0961BEachLetterSpec) false w args)
      (Rows.lawS0961BEachLetterSpec.post enc Ybad.prog Ybad.f4 false true false false) := by
  refine returnsInHanded_of_change_and (C := Ybad.checked) (X := fun w _ => laidMetH Ybad.prog laidList w) (fun _ _ _ hh h => h.of_heap hh) own started (by kernel_rfl) Ybad.func4
    (ChangeSpec.witness_shaped (enc := enc) (C := Ybad.checked) (os := os) (X := fun w _ => laidMetH Ybad.prog laidList w) false (World.doorLaid Ybad.prog 37 os) #[.int .u8 0] 8 rfl (World.shaped_of_RefB (by kernel_rfl) (by kernel_rfl)) (by kernel_rfl) (by kernel_rfl) (by kernel_rfl) (door_met os _)) ?_
  intro W base args ds gs before hval0 hW _ _ hL _
  have hval : ∀ (j : Nat) t v, Ybad.f4.params[j]? = some t → args[j]? = some v → Value.okWide Ybad.prog W .any base t v := hval0
  have hW' := hW
  obtain ⟨p, q, hA0, hV, rfl, hfz, hnd⟩ := hW
  have hA : DataW.TrodAll enc Ybad.prog W 0 (fun _ => true) true Ybad.f4.params.toList args.toList ds p := hA0
  rw [Ybad.params4] at hA hval
  obtain ⟨v0, d0, rfl, rfl, h0⟩ := trodAll_one hA
  obtain ⟨c, rfl, rfl, rfl, wc⟩ := open_int Ybad.underlying5 (hval 0 5 v0 rfl rfl) h0
  have hc := of_laid hL
  have bd : 0 ≤ c ∧ c ≤ 255 := bounds_u8 wc
  obtain ⟨g1, rfl⟩ : ∃ g1, gs = [g1] := by
    obtain ⟨_, _, _, _, d, _, rfl, _⟩ := trodVars_one hV
    exact ⟨d, rfl⟩
  have hVs := Below.trodVars laidOut (Below.refl _ W) (by kernel_rfl) hV
  refine (each_any c W bd.1 bd.2 hc).mono fun e W' ⟨he, hw⟩ => ?_
  subst he; subst hw
  exact ⟨_, rfl, _, _, _, [], [], q, hW', trodAll_mk1 (shut_bool Ybad.underlying4 true), trodAll_mk1 (shut_int Ybad.underlying5 wc), hVs, World.keptBut_refl _ _, fun h => by cases h⟩

theorem each_holds : Rows.LawS0961BEachLetterSaid :=
  OpenClaim.holds_of_wide 4 Ybad.f4 rfl rfl rfl rfl rfl rfl rfl ⟨rfl, rfl, rfl, rfl, rfl⟩ rfl rfl rfl rfl rfl (by kernel_rfl) Ybad.func4 (by kernel_rfl)
    (of_decide_eq_true (by kernel_rfl)) (by unfold Func.isWrapper; first | (rw [if_pos (by decide +kernel)]; kernel_rfl) | (rw [if_neg (by decide +kernel)]; exact ⟨rfl, rfl⟩))
    (fun os started H enc _ => each_lifted os started H enc)


/-- THE TIED CARD. -/
theorem each_card : Rows.LawS0961BEachLetterCardSaid :=
  Claim7.holds_tied_plain_at .later [] [.widerDeep] true (true, "66424da4ef48e46a46214090e988095f2c6ed08251a13f319f0f8f0407163782") false
    each_holds (fun _ h => by cases h) (by kernel_rfl) (fun _ h => by cases h) lawS0961BEachLetter_row_tie rfl ⟨rfl, rfl⟩ (by kernel_rfl) rfl
    (fun f fn hf hfn => by
      obtain rfl : f = 4 := Option.some.inj ((show Ybad.prog.funcNamed Rows.lawS0961BEachLetterRow.func = some 4 by kernel_rfl).symm.trans hf) |>.symm
      obtain rfl : fn = Ybad.f4 := (Option.some.inj (Ybad.func4.symm.trans hfn)).symm
      exact ⟨by kernel_rfl, fun j t ht => by
        rw [Ybad.params4] at ht
        have hm : t ∈ [5] := by simpa using Array.mem_of_getElem? ht
        have hall : ([5].all fun u => !Ybad.prog.wantsStandIn u) = true := by kernel_rfl
        exact (show Ybad.prog.wantsStandIn t = false by simpa using List.all_eq_true.1 hall t hm)⟩)
    (by kernel_rfl)
#print axioms each_card
end Go.Proofs.YbulkswmDoor
