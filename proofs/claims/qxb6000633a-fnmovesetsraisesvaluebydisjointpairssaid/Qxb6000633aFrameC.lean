/-
  A slice of floats that came in.
-/
import Derived.Test.Qxb6000633aFrame
import Derived.Test.Qxb6000633aClone
import Derived.Deep.Slices
namespace Go.Proofs.Qxb6000633a
open Go.ChangeShapes Go.WideShapes Go.ChangeAt Go.RowKit Go.Deep

theorem Try.cells32 : Try.prog.cellsOf 32 = 1 := by kernel_rfl
theorem Try.cells42 : Try.prog.cellsOf 42 = 1 := by kernel_rfl
theorem Try.underlying32 : Try.prog.underlying 32 = some (.float .f64) := by kernel_rfl

theorem Try.read22 : Try.prog.readableRec 22 = true := by kernel_rfl
theorem Try.rowt22 : 22 < Try.prog.types.size := of_decide_eq_true (by kernel_rfl)
theorem Try.read30 : Try.prog.readableRec 30 = true := by kernel_rfl
theorem Try.rowt30 : 30 < Try.prog.types.size := of_decide_eq_true (by kernel_rfl)
theorem Try.read36 : Try.prog.readableRec 36 = true := by kernel_rfl
theorem Try.rowt36 : 36 < Try.prog.types.size := of_decide_eq_true (by kernel_rfl)
theorem Try.read41 : Try.prog.readableRec 41 = true := by kernel_rfl
theorem Try.rowt41 : 41 < Try.prog.types.size := of_decide_eq_true (by kernel_rfl)

theorem flt_of_trod {H : Type} {enc : TypeId × Value → H} {P : Program} {w : World} {base : Nat} {spare : Nat → Bool} {held : Bool} {fuel : Nat} {t : TypeId} {k : FloatKind} {v : Value} {x : DataW H × List MemPlace} (ht : P.underlying t = some (.float k))
    (h : DataW.trod enc P w base spare held fuel t [v] = some x) : ∃ b, v = .float k b := by
  cases fuel with
  | zero => simp [DataW.trod] at h
  | succ n =>
    simp only [DataW.trod, ht] at h
    cases v <;> simp at h
    rename_i k' b
    by_cases e : k' = k
    · exact ⟨b, by rw [e]⟩
    · simp [e] at h

theorem floats_of {H : Type} {enc : TypeId × Value → H} {W : World} {base : Nat} {held : Bool} {ao : Option Addr} {n cap : Nat} {d : DataW H} {ps : List MemPlace}
    (h : DataW.Trod enc Try.prog W base (fun _ => true) held 30 (.slice ao n cap) d ps) : ∃ z : Nat → Nat, Rd W ao n (fun i => .float .f64 (z i)) ∧ n ≤ 9223372036854775807 := by
  obtain ⟨fuel, hf⟩ := h
  rcases open_slice1 Try.underlying30 Try.cells32 hf with ⟨hcs, _⟩ | ⟨x, l, c, m, q, V, D, Pl, hcs, _, hl, hm, hmm, _, hcell⟩
  · simp [Value.cells] at hcs
    obtain ⟨rfl, rfl, rfl⟩ := hcs
    exact ⟨fun _ => 0, fun i hi => by omega, by omega⟩
  · simp [Value.cells] at hcs
    obtain ⟨rfl, rfl, rfl⟩ := hcs
    simp only [if_true] at hmm
    unfold maxLen at hm
    refine ⟨fun i => match V i with | .float _ b => b | _ => 0, rd_of_add fun i hi => ?_, by omega⟩
    obtain ⟨h1, h2⟩ := hcell i (by omega)
    obtain ⟨b, hb⟩ := flt_of_trod Try.underlying32 h2
    rw [h1, hb]
    simp only [hb]

end Go.Proofs.Qxb6000633a
