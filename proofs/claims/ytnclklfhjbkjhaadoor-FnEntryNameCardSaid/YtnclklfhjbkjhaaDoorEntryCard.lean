/-
  FnEntryName: for every text the law returns true and the argument reads as before; the three listed variables tied to the program's text. No condition beyond the row's own list.
-/
import Derived.Test.YtnclklfhjbkjhaaDoorCards
import Derived.Test.YtnclklfhjbkjhaaDoorTie
import Derived.Test.YtnclklfhjbkjhaaDoorEntryLaw
import Derived.ProofKit
import Derived.OpenShut
import Derived.LaidMore
import Derived.Lay
import Derived.SevenTiedAt
import Derived.Stop.Joined
namespace Go.Proofs.YtnclklfhjbkjhaaDoor
open Go.ChangeShapes Go.WideShapes Go.ChangeAt Go.RowKit
open Go.ChangeMaps (open_string shut_string)

theorem own4 : ownKnob Tryd.prog.godebug = none := by kernel_rfl
theorem laidOut4 : laidOutB Tryd.prog = true := by kernel_rfl

set_option maxRecDepth 100000 in
theorem entry_lifted (os : Os) (started : os.Started) (H : Type) (enc : TypeId × Value → H) :
    ReturnsInHanded {} Tryd.checked os 4 .any (fun w args => (Rows.fnEntryNameSpec.pre enc Tryd.prog Tryd.f4 Rows.fnEntryNameRow.domain false w args ∧ laidMetH Tryd.prog Rows.fnEntryNameRow.laid w) ∧ sizedMet enc Tryd.prog Tryd.f4 (OpenSpec.ofChange Rows.fnEntryNameSpec) false w args)
      (Rows.fnEntryNameSpec.post enc Tryd.prog Tryd.f4 false true false false) := by
  refine returnsInHanded_of_change_and (C := Tryd.checked) (X := fun w _ => laidMetH Tryd.prog Rows.fnEntryNameRow.laid w) (fun _ _ _ hh h => h.of_heap hh) own4 started (by kernel_rfl) Tryd.func4
    (ChangeSpec.witness_shaped (enc := enc) (C := Tryd.checked) (os := os) (X := fun w _ => laidMetH Tryd.prog Rows.fnEntryNameRow.laid w) false (World.laidAll Tryd.prog os Rows.fnEntryNameRow.laid) #[.string ⟨#[]⟩] 8 (World.laidAll_os _ _ _)
      (World.shaped_of_ZipB (by kernel_rfl) (by kernel_rfl)) (by kernel_rfl) (by kernel_rfl) (by kernel_rfl)
      (by rw [MakeChecks.laidMetH_plain _ _ _ (by kernel_rfl)]; exact laidMet_laidAll _ (by kernel_rfl) (by kernel_rfl))) ?_
  intro W base args ds gs before hval0 hW hc _ hL _
  have hval : ∀ (j : Nat) t v, Tryd.f4.params[j]? = some t → args[j]? = some v → Value.okWide Tryd.prog W .any base t v := hval0
  have hW' := hW
  obtain ⟨p, q, hA0, hV, rfl, _, _⟩ := hW
  have hA : DataW.TrodAll enc Tryd.prog W 0 (fun _ => true) true Tryd.f4.params.toList args.toList ds p := hA0
  rw [Tryd.params4] at hA hval
  obtain ⟨v0, d0, rfl, rfl, h0⟩ := trodAll_one hA
  obtain ⟨rfl, rfl⟩ := trodVars_none hV
  have h0k := h0
  obtain ⟨s, rfl, rfl, rfl, hs⟩ := open_string Tryd.underlying9 (hval 0 9 v0 rfl rfl) h0
  clear hA0 hval0
  simp only [List.append_nil] at hW'
  refine (Plain.entryLaw_any s W).mono fun e W' ⟨he, hb⟩ => ?_
  subst he
  exact ⟨_, rfl, _, _, _, [], [], [], hW', trodAll_mk1 (shut_bool Tryd.underlying4 true), trodAll_mk1 (Below.trod laidOut4 (by kernel_rfl) (of_decide_eq_true (by kernel_rfl)) h0k hb (fun x hx => by cases hx)), rfl, hb.frame _, fun h => by cases h⟩

theorem entry_holds : Rows.FnEntryNameSaid :=
  OpenClaim.holds_of_wide 4 Tryd.f4 rfl rfl rfl rfl rfl rfl rfl ⟨rfl, rfl, rfl, rfl, rfl⟩ rfl rfl rfl rfl rfl (by kernel_rfl) Tryd.func4 (by kernel_rfl)
    (of_decide_eq_true (by kernel_rfl)) (by unfold Func.isWrapper; rw [if_neg (of_decide_eq_false (by kernel_rfl))]; exact ⟨rfl, rfl⟩)
    (fun os started H enc _ => entry_lifted os started H enc)
theorem entry_card : Rows.FnEntryNameCardSaid :=
  Claim7.holds_tied_plain_at .later [] _ _ _ _ entry_holds (fun _ h => by cases h) (by kernel_rfl) (fun _ h => by cases h) fnEntryName_row_tie rfl ⟨rfl, rfl⟩ (by kernel_rfl) rfl
    (fun f fn hf hfn => by
      obtain rfl : f = 4 := Option.some.inj ((show Tryd.prog.funcNamed "pub-schemata/laws.FnEntryName" = some 4 by kernel_rfl).symm.trans hf) |>.symm
      obtain rfl : fn = Tryd.f4 := (Option.some.inj (Tryd.func4.symm.trans hfn)).symm
      exact ⟨by kernel_rfl, fun j t ht => by
        rw [Tryd.params4] at ht
        obtain rfl : t = 9 := by simpa using Array.mem_of_getElem? ht
        exact (show Tryd.prog.wantsStandIn 9 = false by kernel_rfl)⟩)
    (by kernel_rfl)
#print axioms entry_card
end Go.Proofs.YtnclklfhjbkjhaaDoor
