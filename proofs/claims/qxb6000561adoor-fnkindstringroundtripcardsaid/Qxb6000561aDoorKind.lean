/-
  recordKind.String at every byte.
-/
import Derived.Test.Qxb6000561aDoorRows
import Derived.Test.Qxb6000561aDoorPlain
import Derived.Test.Qxb6000561aDoorShelf
import Derived.WalkKit
import Derived.BigCall
import Derived.Below
namespace Go.Proofs.Qxb6000561aDoor
open Go.Shelf Go.RowKit

theorem itoa_laid (n : Int) (h0 : -9223372036854775808 ≤ n) (h1 : n ≤ 9223372036854775807) (w : World) (htab : Lib.TabIs Tryd.prog w "internal/strconv.uint64pow10" .u64 Lib.pow10Tab) :
    Calls Tryd.prog 11 #[.int .i64 n] w fun e w' => e = .returned (.string ⟨(Lib.itoa n).toArray⟩) ∧ ∃ k os, w' = Sort.grow (w.drewN k) os := Tryd.strconv_Itoa n h0 h1 w htab

/-- what lay below stays -/
theorem below_grow (w : World) (q : Nat) (os : Array Obj) : Below w.heap.size w (Sort.grow (w.drewN q) os) :=
  ⟨rfl, rfl, rfl, by simp [Sort.grow], fun i hi => by
    show ((w.drewN q).heap ++ os)[i]? = _
    rw [Array.getElem?_append_left (by show i < w.heap.size; omega)]
    rfl⟩

theorem tab_below {n : String} {g : Nat} {k : IntKind} {zs : List Int} {w w' : World} (hg : Tryd.prog.globalNamed n = some g) (h : Lib.TabIs Tryd.prog w n k zs) (hb : Below w.heap.size w w') : Lib.TabIs Tryd.prog w' n k zs := by
  unfold Lib.TabIs World.var? at h ⊢
  rw [hg] at h ⊢
  simp only [Option.bind_some] at h ⊢
  have hlt : g < w.heap.size := by
    rcases Nat.lt_or_ge g w.heap.size with h' | h'
    · exact h'
    · rw [Array.getElem?_eq_none h'] at h; cases h
  rw [hb.block g hlt]
  exact h

/-! ### the plain text of a kind -/

theorem dec3_eq {k : Nat} (h : k < 1000) : Lib.decDigits k = dec3 k := by
  unfold dec3
  by_cases h1 : k < 10
  · rw [if_pos h1, Lib.decDigits, dif_pos h1]
  · rw [if_neg h1, Lib.decDigits, dif_neg h1]
    by_cases h2 : k < 100
    · rw [if_pos h2, Lib.decDigits, dif_pos (by omega)]; rfl
    · rw [if_neg h2, Lib.decDigits, dif_neg (by omega), Lib.decDigits, dif_pos (by omega), Nat.div_div_eq_div_mul]; rfl

theorem itoa_dec3 {k : Nat} (h : k < 1000) : Lib.itoa (k : Int) = dec3 k := by
  unfold Lib.itoa
  rw [if_neg (by omega), ← dec3_eq h]
  simp

set_option maxRecDepth 100000 in
set_option maxHeartbeats 1000000 in
theorem string_any (k : Nat) (hk : k < 256) (w : World) (htab : Lib.TabIs Tryd.prog w "internal/strconv.uint64pow10" .u64 Lib.pow10Tab) :
    Calls Tryd.prog 10 #[.int .u8 k] w fun e w' => e = .returned (.string ⟨(kb k).toArray⟩) ∧ Below w.heap.size w w' := by
  by_cases h1 : k = 1
  · subst h1
    go_enter Tryd.func10, Tryd.ntmps10
    go_wp2
    go_ret
    exact ⟨rfl, Below.refl _ _⟩
  by_cases h2 : k = 2
  · subst h2
    go_enter Tryd.func10, Tryd.ntmps10
    go_wp2
    go_ret
    exact ⟨rfl, Below.refl _ _⟩
  by_cases h3 : k = 3
  · subst h3
    go_enter Tryd.func10, Tryd.ntmps10
    go_wp2
    go_ret
    exact ⟨rfl, Below.refl _ _⟩
  by_cases h4 : k = 4
  · subst h4
    go_enter Tryd.func10, Tryd.ntmps10
    go_wp2
    go_ret
    exact ⟨rfl, Below.refl _ _⟩
  by_cases h5 : k = 5
  · subst h5
    go_enter Tryd.func10, Tryd.ntmps10
    go_wp2
    go_ret
    exact ⟨rfl, Below.refl _ _⟩
  by_cases h6 : k = 6
  · subst h6
    go_enter Tryd.func10, Tryd.ntmps10
    go_wp2
    go_ret
    exact ⟨rfl, Below.refl _ _⟩
  by_cases h7 : k = 7
  · subst h7
    go_enter Tryd.func10, Tryd.ntmps10
    go_wp2
    go_ret
    exact ⟨rfl, Below.refl _ _⟩
  have b1 : ((k : Int) == 1) = false := by simp; omega
  have b2 : ((k : Int) == 2) = false := by simp; omega
  have b3 : ((k : Int) == 3) = false := by simp; omega
  have b4 : ((k : Int) == 4) = false := by simp; omega
  have b5 : ((k : Int) == 5) = false := by simp; omega
  have b6 : ((k : Int) == 6) = false := by simp; omega
  have b7 : ((k : Int) == 7) = false := by simp; omega
  rw [kb_other (by omega)]
  have hl := (dec3_length k).2
  go_enter Tryd.func10, Tryd.ntmps10
  go_wp2_with fail
  refine (itoa_laid k (by omega) (by omega) w htab).mono ?_
  rintro e w' ⟨rfl, q, os, rfl⟩
  rw [itoa_dec3 (by omega)]
  have hs : (⟨(dec3 k).toArray⟩ : ByteArray).size ≤ 3 := by
    show (dec3 k).toArray.size ≤ 3
    simpa using hl
  go_wp2
  go_ret
  refine ⟨?_, below_grow _ _ _⟩
  rfl

end Go.Proofs.Qxb6000561aDoor
