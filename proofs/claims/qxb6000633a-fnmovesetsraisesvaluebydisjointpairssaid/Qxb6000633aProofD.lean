/-
  FnMoveSetsRaisesValueByDisjointPairs: the row.
-/
import Derived.Test.Qxb6000633aFrameC
import Derived.Test.Qxb6000633aWalkD
namespace Go.Proofs.Qxb6000633a
open Go.ChangeShapes Go.WideShapes Go.ChangeAt Go.RowKit

set_option maxRecDepth 100000 in
theorem liftedD (os : Os) (started : os.Started) (H : Type) (enc : TypeId × Value → H) :
    ReturnsInHanded {} Try.checked os 7 .any (Rows.fnMoveSetsRaisesValueByDisjointPairsSpec.pre6 enc Try.prog Try.f7 Rows.fnMoveSetsRaisesValueByDisjointPairsRow.domain false) (Rows.fnMoveSetsRaisesValueByDisjointPairsSpec.post enc Try.prog Try.f7 false true false false) := by
  refine returnsInHanded_of_change (C := Try.checked) Try.own started (by as_aux_lemma => kernel_rfl) Try.func7
    (ChangeSpec.witness6 (enc := enc) (C := Try.checked) false ⟨#[], #[.slice none 0 0, .slice none 0 0, .slice none 0 0, .slice none 0 0, .int .i16 0, .slice none 0 0, .slice none 0 0, .slice none 0 0, .slice none 0 0], []⟩ 8 (by as_aux_lemma => kernel_rfl) (by as_aux_lemma => kernel_rfl) (by as_aux_lemma => kernel_rfl) (by as_aux_lemma => kernel_rfl)) ?_
  intro W base args ds gs before hval0 hW hcnd _
  have hval : ∀ (j : Nat) t v, Try.f7.params[j]? = some t → args[j]? = some v → Value.okWide Try.prog W .any base t v := hval0
  have hW' := hW
  obtain ⟨p, q, hA0, hV, rfl, hfz, hnd⟩ := hW
  have hA : DataW.TrodAll enc Try.prog W 0 (fun _ => true) true Try.f7.params.toList args.toList ds p := hA0
  rw [Try.params7] at hA hval
  obtain ⟨v0, vs0, d0, ds0, p0, q0, hargs, rfl, rfl, h0, r0⟩ := trodAll_cons hA
  obtain ⟨v1, vs1, d1, ds1, p1, q1, rfl, rfl, rfl, h1, r1⟩ := trodAll_cons r0
  obtain ⟨v2, vs2, d2, ds2, p2, q2, rfl, rfl, rfl, h2, r2⟩ := trodAll_cons r1
  obtain ⟨v3, vs3, d3, ds3, p3, q3, rfl, rfl, rfl, h3, r3⟩ := trodAll_cons r2
  obtain ⟨v4, vs4, d4, ds4, p4, q4, rfl, rfl, rfl, h4, r4⟩ := trodAll_cons r3
  obtain ⟨v5, vs5, d5, ds5, p5, q5, rfl, rfl, rfl, h5, r5⟩ := trodAll_cons r4
  obtain ⟨v6, vs6, d6, ds6, p6, q6, rfl, rfl, rfl, h6, r6⟩ := trodAll_cons r5
  obtain ⟨v7, vs7, d7, ds7, p7, q7, rfl, rfl, rfl, h7, r7⟩ := trodAll_cons r6
  obtain ⟨v8, vs8, d8, ds8, p8, q8, rfl, rfl, rfl, h8, r8⟩ := trodAll_cons r7
  obtain ⟨rfl, rfl, rfl⟩ := trodAll_nil r8
  obtain rfl : args = #[v0, v1, v2, v3, v4, v5, v6, v7, v8] := by cases args; simp_all
  obtain ⟨rfl, rfl⟩ := trodVars_none hV
  obtain ⟨a0, len0, cap0, rfl⟩ := okWide_slice Try.underlying41 (hval 0 41 v0 rfl rfl)
  obtain ⟨a1, len1, cap1, rfl⟩ := okWide_slice Try.underlying22 (hval 1 22 v1 rfl rfl)
  obtain ⟨a2, len2, cap2, rfl⟩ := okWide_slice Try.underlying22 (hval 2 22 v2 rfl rfl)
  obtain ⟨a3, len3, cap3, rfl⟩ := okWide_slice Try.underlying22 (hval 3 22 v3 rfl rfl)
  obtain ⟨a5, len5, cap5, rfl⟩ := okWide_slice Try.underlying36 (hval 5 36 v5 rfl rfl)
  obtain ⟨a6, len6, cap6, rfl⟩ := okWide_slice Try.underlying30 (hval 6 30 v6 rfl rfl)
  obtain ⟨a7, len7, cap7, rfl⟩ := okWide_slice Try.underlying36 (hval 7 36 v7 rfl rfl)
  obtain ⟨a8, len8, cap8, rfl⟩ := okWide_slice Try.underlying30 (hval 8 30 v8 rfl rfl)
  obtain ⟨d, rfl, rfl, rfl, w4⟩ := open_int Try.underlying42 (hval 4 42 v4 rfl rfl) h4
  have k0 := h0
  have lt0 : ∀ x ∈ p0, x.block < W.heap.size := by obtain ⟨m, hm⟩ := k0; exact DataW.trod_lt m _ _ _ hm
  have k1 := h1
  have lt1 : ∀ x ∈ p1, x.block < W.heap.size := by obtain ⟨m, hm⟩ := k1; exact DataW.trod_lt m _ _ _ hm
  have k2 := h2
  have lt2 : ∀ x ∈ p2, x.block < W.heap.size := by obtain ⟨m, hm⟩ := k2; exact DataW.trod_lt m _ _ _ hm
  have k3 := h3
  have lt3 : ∀ x ∈ p3, x.block < W.heap.size := by obtain ⟨m, hm⟩ := k3; exact DataW.trod_lt m _ _ _ hm
  have k5 := h5
  have lt5 : ∀ x ∈ p5, x.block < W.heap.size := by obtain ⟨m, hm⟩ := k5; exact DataW.trod_lt m _ _ _ hm
  have k6 := h6
  have lt6 : ∀ x ∈ p6, x.block < W.heap.size := by obtain ⟨m, hm⟩ := k6; exact DataW.trod_lt m _ _ _ hm
  have k7 := h7
  have lt7 : ∀ x ∈ p7, x.block < W.heap.size := by obtain ⟨m, hm⟩ := k7; exact DataW.trod_lt m _ _ _ hm
  have k8 := h8
  have lt8 : ∀ x ∈ p8, x.block < W.heap.size := by obtain ⟨m, hm⟩ := k8; exact DataW.trod_lt m _ _ _ hm
  obtain ⟨az, ha, hna, haw⟩ := ints_of Try.underlying41 Try.underlying42 Try.cells42 h0
  obtain ⟨A1, L1, C1, M, c1⟩ := codes_of h1
  obtain ⟨A2, L2, C2, U, c2⟩ := codes_of h2
  obtain ⟨A3, L3, C3, D, c3⟩ := codes_of h3
  obtain ⟨f5, hf5, n5, _⟩ := ints_of Try.underlying36 Try.underlying3 Try.cells3 h5
  obtain ⟨f6, hf6, n6⟩ := floats_of h6
  obtain ⟨f7, hf7, n7, _⟩ := ints_of Try.underlying36 Try.underlying3 Try.cells3 h7
  obtain ⟨f8, hf8, n8⟩ := floats_of h8
  have hab : ∀ j, j < len0 → (az j).natAbs ≤ 32768 := fun j hj => by have := bounds_i16 (haw j hj); omega
  have hdb : d.natAbs ≤ 32768 := by have := bounds_i16 w4; omega
  clear hA0 hval0
  refine (walkD W a0 a1 a2 a3 a5 a6 a7 a8 len0 len1 len2 len3 len5 len6 len7 len8 cap0 cap1 cap2 cap3 cap5 cap6 cap7 cap8 A1 A2 A3 L1 L2 L3 C1 C2 C3 M U D az d f5 f7 f6 f8 c1 c2 c3 ha hf5 hf6 hf7 hf8 hna n5 n6 n7 n8 hab hdb).mono fun e W' ⟨he, bel⟩ => ?_
  subst he
  exact ⟨_, rfl, _, _, _, [], _, [], hW', trodAll_mk1 (shut_bool Try.underlying4 _), (trodAll_cons_mk (Below.trod Try.laidOut Try.read41 Try.rowt41 k0 bel lt0) (trodAll_cons_mk (Below.trod Try.laidOut Try.read22 Try.rowt22 k1 bel lt1) (trodAll_cons_mk (Below.trod Try.laidOut Try.read22 Try.rowt22 k2 bel lt2) (trodAll_cons_mk (Below.trod Try.laidOut Try.read22 Try.rowt22 k3 bel lt3) (trodAll_cons_mk (shut_int Try.underlying42 w4) (trodAll_cons_mk (Below.trod Try.laidOut Try.read36 Try.rowt36 k5 bel lt5) (trodAll_cons_mk (Below.trod Try.laidOut Try.read30 Try.rowt30 k6 bel lt6) (trodAll_cons_mk (Below.trod Try.laidOut Try.read36 Try.rowt36 k7 bel lt7) (trodAll_cons_mk (Below.trod Try.laidOut Try.read30 Try.rowt30 k8 bel lt8) trodAll_mk0))))))))), rfl, bel.frame _, fun h => by cases h⟩

set_option maxHeartbeats 2000000 in
/-- THE STATEMENT -/
theorem provedD : Rows.FnMoveSetsRaisesValueByDisjointPairsSaid :=
  OpenClaim.holds_of_wide 7 Try.f7 rfl rfl rfl rfl rfl rfl rfl ⟨rfl, rfl, rfl, rfl, rfl⟩ rfl rfl rfl rfl rfl (by kernel_rfl) Try.func7 (by kernel_rfl)
    (of_decide_eq_true (by kernel_rfl)) (by unfold Func.isWrapper; first | (rw [if_pos (by decide +kernel)]; kernel_rfl) | (rw [if_neg (by decide +kernel)]; exact ⟨rfl, rfl⟩))
    (fun os started H enc _ => liftedD os started H enc)

end Go.Proofs.Qxb6000633a
