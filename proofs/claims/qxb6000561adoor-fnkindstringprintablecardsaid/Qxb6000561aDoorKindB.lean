/-
  ZZKindString; two different kinds never print alike.
-/
import Derived.Test.Qxb6000561aDoorKind
namespace Go.Proofs.Qxb6000561aDoor
open Go.Shelf Go.RowKit

theorem pow_global : Tryd.prog.globalNamed "internal/strconv.uint64pow10" = some (Tryd.prog.globalNamed "internal/strconv.uint64pow10" |>.getD 0) := by kernel_rfl

set_option maxRecDepth 100000 in
theorem kindString_any (k : Nat) (hk : k < 256) (w : World) (htab : Lib.TabIs Tryd.prog w "internal/strconv.uint64pow10" .u64 Lib.pow10Tab) :
    Calls Tryd.prog 7 #[.int .u8 k] w fun e w' => e = .returned (.string ⟨(kb k).toArray⟩) ∧ Below w.heap.size w w' := by
  go_enter Tryd.func7, Tryd.ntmps7
  go_wp2_with fail
  refine (string_any k hk w htab).mono ?_
  rintro e w' ⟨rfl, hb⟩
  go_wp2
  go_ret
  exact ⟨rfl, hb⟩

set_option maxRecDepth 100000 in
theorem injective_any (a b : Nat) (ha : a < 256) (hb : b < 256) (w : World) (htab : Lib.TabIs Tryd.prog w "internal/strconv.uint64pow10" .u64 Lib.pow10Tab) :
    Calls Tryd.prog 4 #[.int .u8 a, .int .u8 b] w fun e w' => e = .returned (.bool true) ∧ Below w.heap.size w w' := by
  by_cases h : a = b
  · subst h
    go_enter Tryd.func4, Tryd.ntmps4
    go_wp2
    go_ret
    exact ⟨rfl, Below.refl _ _⟩
  · have hq : ((a : Int) == (b : Int)) = false := by simp; omega
    have hne := kb_ne ha hb h
    go_enter Tryd.func4, Tryd.ntmps4
    go_wp2_with fail
    refine (kindString_any a ha w htab).mono ?_
    rintro e w1 ⟨rfl, hb1⟩
    go_wp2_with fail
    refine (kindString_any b hb w1 (tab_below pow_global htab hb1)).mono ?_
    rintro e w2 ⟨rfl, hb2⟩
    have hs : (kb a == kb b) = false := beq_eq_false_iff_ne.2 hne
    go_wp2
    go_ret
    exact ⟨rfl, hb1.trans (hb2.mono hb1.size)⟩

end Go.Proofs.Qxb6000561aDoor
