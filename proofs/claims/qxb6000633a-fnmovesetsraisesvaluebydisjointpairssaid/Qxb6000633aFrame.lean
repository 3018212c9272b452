/-
  From the reading of an argument to what the walks are told.
-/
import Derived.Test.Qxb6000633aBase
import Derived.ProofKit
import Derived.OpenShut
import Derived.ChangeOld
import Derived.Deep.Matrix
namespace Go.Proofs.Qxb6000633a
open Go.ChangeShapes Go.WideShapes Go.ChangeAt Go.RowKit Go.Deep

theorem Try.own : ownKnob Try.prog.godebug = none := by kernel_rfl
theorem Try.laidOut : laidOutB Try.prog = true := by kernel_rfl
theorem Try.cells51 : Try.prog.cellsOf 51 = 1 := by kernel_rfl
theorem Try.cells5 : Try.prog.cellsOf 5 = 1 := by kernel_rfl
theorem Try.cells3 : Try.prog.cellsOf 3 = 1 := by kernel_rfl

theorem add_at (b off i : Nat) : (⟨b, off, none⟩ : Addr).add i = ⟨b, off + i, none⟩ := by
  unfold Addr.add
  split
  · rename_i h; rw [h]; rfl
  · rfl

/-- cells told behind an address whose mark is not known -/
theorem rd_of_add {w : World} {a : Addr} {n : Nat} {g : Nat → Value} (h : ∀ i, i < n → w.cell? (a.add i) = some (g i)) : Rd w (some a) n g := by
  intro i hi
  obtain ⟨b, off, spot⟩ := a
  have h0 := h 0 (by omega)
  have hs : spot = none := by simpa [Addr.add] using World.cell?_spot h0
  subst hs
  exact ⟨b, off, rfl, by rw [← add_at]; exact h i hi⟩

theorem wf_u8 {n : Int} (h : (Lit.int .u8 n).wf = true) : 0 ≤ n ∧ n < 256 := by
  have := bounds_u8 h
  omega

theorem codes_of {H : Type} {enc : TypeId × Value → H} {W : World} {base : Nat} {held : Bool} {ao : Option Addr} {n cap : Nat} {d : DataW H} {ps : List MemPlace}
    (h : DataW.Trod enc Try.prog W base (fun _ => true) held 22 (.slice ao n cap) d ps) : ∃ A L C M, Codes W ao n A L C M := by
  obtain ⟨fuel, hf⟩ := h
  rcases open_int_rows Try.underlying22 Try.underlying51 Try.underlying5 Try.cells51 Try.cells5 hf with ⟨hcs, _⟩ | ⟨a, len, cap', A, L, C, Z, hcs, _, hl, hm, _, hr⟩
  · simp [Value.cells] at hcs
    obtain ⟨rfl, rfl, rfl⟩ := hcs
    exact ⟨fun _ => none, fun _ => 0, fun _ => 0, fun _ _ => 0, fun i hi => by omega, fun j hj => by omega, fun j k hj => by omega, by omega, fun j hj => by omega⟩
  · simp [Value.cells] at hcs
    obtain ⟨rfl, rfl, rfl⟩ := hcs
    unfold maxLen at hm
    refine ⟨A, L, C, fun j k => (Z j).getD k 0, rd_of_add fun i hi => (hr i (by omega)).1, fun j hj => ?_, fun j k hj hk => ?_, by omega, fun j hj => ?_⟩
    · obtain ⟨_, h2, _, _, _, h6, h7⟩ := hr j (by omega)
      cases hA : A j with
      | none =>
        have := h6 hA
        intro i hi
        omega
      | some a' =>
        obtain ⟨_, h8⟩ := h7 a' hA
        exact rd_of_add fun i hi => h8 i (by omega)
    · obtain ⟨_, h2, _, h4, h5, _, _⟩ := hr j (by omega)
      refine wf_u8 (h5 _ ?_)
      rw [List.getD_eq_getElem?_getD, List.getElem?_eq_getElem (by omega)]
      exact List.getElem_mem _
    · obtain ⟨_, h2, h3, _⟩ := hr j (by omega)
      unfold maxLen at h3
      omega

/-- a slice of integers of one cell that came in -/
theorem ints_of {H : Type} {enc : TypeId × Value → H} {W : World} {base : Nat} {held : Bool} {ao : Option Addr} {n cap : Nat} {d : DataW H} {ps : List MemPlace} {t e : TypeId} {k : IntKind}
    (ht : Try.prog.underlying t = some (.slice e)) (he : Try.prog.underlying e = some (.int k)) (ce : Try.prog.cellsOf e = 1)
    (h : DataW.Trod enc Try.prog W base (fun _ => true) held t (.slice ao n cap) d ps) : ∃ z : Nat → Int, Rd W ao n (fun i => .int k (z i)) ∧ n ≤ 9223372036854775807 ∧ ∀ i, i < n → (Lit.int k (z i)).wf = true := by
  obtain ⟨fuel, hf⟩ := h
  rcases open_ints ht he ce hf with ⟨hcs, _⟩ | ⟨x, l, c, zs, hcs, _, hl, hm, hz, _, hcell, hwz⟩
  · simp [Value.cells] at hcs
    obtain ⟨rfl, rfl, rfl⟩ := hcs
    exact ⟨fun _ => 0, fun i hi => by omega, by omega, fun i hi => by omega⟩
  · simp [Value.cells] at hcs
    obtain ⟨rfl, rfl, rfl⟩ := hcs
    simp only [if_true] at hz
    unfold maxLen at hm
    refine ⟨fun i => zs.getD i 0, rd_of_add fun i hi => hcell i (by omega), by omega, fun i hi => hwz _ ?_⟩
    show zs.getD i 0 ∈ zs
    rw [List.getD_eq_getElem?_getD, List.getElem?_eq_getElem (by omega)]
    exact List.getElem_mem _

end Go.Proofs.Qxb6000633a
