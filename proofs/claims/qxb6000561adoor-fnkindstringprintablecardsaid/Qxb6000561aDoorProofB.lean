/-
  FnKindStringPrintable: the row, and its tied card.
-/
import Derived.Test.Qxb6000561aDoorLaid
import Derived.Test.Qxb6000561aDoorReadB
import Derived.Test.Qxb6000561aDoorTie
import Derived.Test.Qxb6000561aDoorCards
import Derived.SevenTiedAt
namespace Go.Proofs.Qxb6000561aDoor
open Go.ChangeShapes Go.WideShapes Go.ChangeAt Go.RowKit

set_option maxRecDepth 100000 in
theorem liftedB (os : Os) (started : os.Started) (H : Type) (enc : TypeId × Value → H) :
    ReturnsInHanded {} Tryd.checked os 5 .any (fun w args => (Rows.fnKindStringPrintableSpec.pre enc Tryd.prog Tryd.f5 [] false w args ∧ laidMetH Tryd.prog laid3 w) ∧ sizedMet enc Tryd.prog Tryd.f5 (OpenSpec.ofChange Rows.fnKindStringPrintableSpec) false w args)
      (Rows.fnKindStringPrintableSpec.post enc Tryd.prog Tryd.f5 false true false false) := by
  refine returnsInHanded_of_change_and (C := Tryd.checked) (X := fun w _ => laidMetH Tryd.prog laid3 w) (fun _ _ _ hh h => h.of_heap hh) own started (by kernel_rfl) Tryd.func5
    (ChangeSpec.witness_shaped (enc := enc) (C := Tryd.checked) (os := os) (X := fun w _ => laidMetH Tryd.prog laid3 w) false (World.doorLaid Tryd.prog 400 os) #[.int .u8 0] 8 rfl (World.shaped_of_RefB (by kernel_rfl) (by kernel_rfl)) (by kernel_rfl) (by kernel_rfl) (by kernel_rfl) (door_met os _)) ?_
  intro W base args ds gs before hval0 hW _ _ hL _
  have hval : ∀ (j : Nat) t v, Tryd.f5.params[j]? = some t → args[j]? = some v → Value.okWide Tryd.prog W .any base t v := hval0
  have hW' := hW
  obtain ⟨p, q, hA0, hV, rfl, hfz, hnd⟩ := hW
  have hA : DataW.TrodAll enc Tryd.prog W 0 (fun _ => true) true Tryd.f5.params.toList args.toList ds p := hA0
  rw [Tryd.params5] at hA hval
  obtain ⟨v0, d0, rfl, rfl, h0⟩ := trodAll_one hA
  obtain ⟨rfl, rfl⟩ := trodVars_none hV
  obtain ⟨a, rfl, rfl, rfl, wa⟩ := open_int Tryd.underlying5 (hval 0 5 v0 rfl rfl) h0
  obtain ⟨a0, a1⟩ := bounds_u8 wa
  obtain ⟨x, rfl⟩ := Int.eq_ofNat_of_zero_le a0
  clear hA0 hval0
  refine (printable_any x (by omega) W (of_laid hL)).mono fun e W' ⟨he, bel⟩ => ?_
  subst he
  exact ⟨_, rfl, _, _, _, [], _, [], hW', trodAll_mk1 (shut_bool Tryd.underlying4 _), (trodAll_mk1 (shut_int Tryd.underlying5 wa)), rfl, bel.frame _, fun h => by cases h⟩

/-- the row -/
theorem rowB : Rows.FnKindStringPrintableSaid :=
  OpenClaim.holds_of_wide 5 Tryd.f5 rfl rfl rfl rfl rfl rfl rfl ⟨rfl, rfl, rfl, rfl, rfl⟩ rfl rfl rfl rfl rfl (by kernel_rfl) Tryd.func5 (by kernel_rfl)
    (of_decide_eq_true (by kernel_rfl)) (by unfold Func.isWrapper; first | (rw [if_pos (by decide +kernel)]; kernel_rfl) | (rw [if_neg (by decide +kernel)]; exact ⟨rfl, rfl⟩))
    (fun os started H enc _ => liftedB os started H enc)

/-- THE STATEMENT: the tied card -/
theorem provedB : Rows.FnKindStringPrintableCardSaid :=
  Claim7.holds_tied_plain_at .later [] [.data, .data, .data] true (true, "cf0746c13308ec2738fc11202f1e7a35df802dbab2005faf8e6ba88d2edd2b78") false
    rowB (fun _ h => by cases h) (by kernel_rfl) (fun _ h => by cases h) fnKindStringPrintable_row_tie rfl ⟨rfl, rfl⟩ (by kernel_rfl) rfl
    (fun f fn hf hfn => by
      obtain rfl : f = 5 := Option.some.inj ((show Tryd.prog.funcNamed "example.com/watchline/watchline/zzlaws_internal_store_b1.FnKindStringPrintable" = some 5 by kernel_rfl).symm.trans hf) |>.symm
      obtain rfl : fn = Tryd.f5 := (Option.some.inj (Tryd.func5.symm.trans hfn)).symm
      exact ⟨by kernel_rfl, fun j t ht => by
        rw [Tryd.params5] at ht
        have h5 : t = 5 := by
          rcases j with _ | j
          · simpa using ht.symm
          · simp at ht
        subst h5
        exact (show Tryd.prog.wantsStandIn 5 = false by kernel_rfl)⟩)
    (by kernel_rfl)

end Go.Proofs.Qxb6000561aDoor
