/-
  The premise on a script of pairs.
-/
import Derived.Test.Qxb6000633aBase
import Derived.Test.Qxb6000633aClone
import Derived.Test.Qxb6000633aClimb
namespace Go.Proofs.Qxb6000633a
open Go.RowKit

theorem Try.info4' : (Try.prog.info? 4).map (fun i => (i.zero, i.size, i.bytes)) = some (some (.bool false), 1, 1) := by kernel_rfl

/-- the jobs that the first i pairs name -/
def seenF (F T : Nat → Nat) : Nat → Nat → Bool
  | 0 => fun _ => false
  | i + 1 => upd (upd (seenF F T i) (F i) true) (T i) true

/-- a script of m pairs of jobs, no job named twice -/
structure Script (n m : Nat) (F T : Nat → Nat) : Prop where
  f : ∀ i, i < m → F i < n
  t : ∀ i, i < m → T i < n
  ne : ∀ i, i < m → F i ≠ T i
  sf : ∀ i, i < m → seenF F T i (F i) = false
  st : ∀ i, i < m → seenF F T i (T i) = false

/-- the walk of the premise: the first i pairs have been looked at -/
structure SMid (w0 w : World) (B n m i : Nat) (f t : Nat → Int) : Prop where
  below : Below B w0 w
  size : w.heap.size = B + 1
  row : w.rowIs B 4 n (fun j => .bool (seenF (fun i => (f i).toNat) (fun i => (t i).toNat) i j))
  rg : ∀ q, q < i → 0 ≤ f q ∧ f q < n ∧ 0 ≤ t q ∧ t q < n
  ok : Script n i (fun i => (f i).toNat) (fun i => (t i).toNat)

theorem SMid.start (w : World) (n m : Nat) (f t : Nat → Int) : SMid w (w.alloc (.cells (madeCells #[.bool false] n) 4)) w.heap.size n m 0 f t :=
  ⟨(Below.refl _ _).alloc (Nat.le_refl _) _, by simp, World.rowIs_made w _ n 4, fun q hq => by omega, ⟨fun i hi => by omega, fun i hi => by omega, fun i hi => by omega, fun i hi => by omega, fun i hi => by omega⟩⟩

theorem SMid.step {w0 w : World} {B n m i : Nat} {f t : Nat → Int} (h : SMid w0 w B n m i f t) (h1 : 0 ≤ f i) (h2 : f i < n) (h3 : 0 ≤ t i) (h4 : t i < n) (h5 : f i ≠ t i)
    (s1 : seenF (fun i => (f i).toNat) (fun i => (t i).toNat) i (f i).toNat = false) (s2 : seenF (fun i => (f i).toNat) (fun i => (t i).toNat) i (t i).toNat = false) :
    SMid w0 ((w.setCell ⟨B, (f i).toNat, none⟩ (.bool true)).setCell ⟨B, (t i).toNat, none⟩ (.bool true)) B n m (i + 1) f t := by
  have ext : ∀ (A : Nat → Prop), (∀ q, q < i → A q) → A i → ∀ q, q < i + 1 → A q := fun A ha hi q hq => by
    by_cases e : q = i
    · subst e; exact hi
    · exact ha q (by omega)
  refine ⟨(h.below.setCell (Nat.le_refl _) _).setCell (Nat.le_refl _) _, by simpa using h.size, ?_, ext _ h.rg ⟨h1, h2, h3, h4⟩, ⟨ext _ h.ok.f (by show (f i).toNat < n; omega), ext _ h.ok.t (by show (t i).toNat < n; omega), ext _ h.ok.ne (by show (f i).toNat ≠ (t i).toNat; omega), ext _ h.ok.sf s1, ext _ h.ok.st s2⟩⟩
  refine ((h.row.set _ _).set _ _).congr fun j hj => ?_
  show (if j = (t i).toNat then Value.bool true else if j = (f i).toNat then Value.bool true else .bool _) = Value.bool (upd (upd (seenF _ _ i) (f i).toNat true) (t i).toNat true j)
  unfold upd
  by_cases e1 : j = (t i).toNat
  · simp only [if_pos e1]
  · by_cases e2 : j = (f i).toNat
    · simp only [if_neg e1, if_pos e2]
    · simp only [if_neg e1, if_neg e2]

set_option maxHeartbeats 1000000 in
theorem scriptPremise_any (w : World) (ao bo co : Option Addr) (n n2 n3 cap1 cap2 cap3 : Nat) (A1 A2 A3 : Nat → Option Addr) (L1 L2 L3 C1 C2 C3 : Nat → Nat) (M U D : Nat → Nat → Int)
    (hM : Codes w ao n A1 L1 C1 M) (hU : Codes w bo n2 A2 L2 C2 U) (hD : Codes w co n3 A3 L3 C3 D)
    (hn : n ≤ 1048576) (hl : ∀ j, j < n → L1 j ≤ 1048576) (fo to : Option Addr) (nf nt fc tc : Nat) (f t : Nat → Int) (hf : Rd w fo nf (fun i => .int .i64 (f i))) (ht : Rd w to nt (fun i => .int .i64 (t i))) (hnf : nf ≤ 1048576) (hnt : nt ≤ 1048576) :
    Calls Try.prog 24 #[.slice ao n cap1, .slice bo n2 cap2, .slice co n3 cap3, .slice fo nf fc, .slice to nt tc] w fun e w' =>
      ∃ b : Bool, e = .returned (.bool b) ∧ (b = true → n2 = n ∧ n3 = n ∧ nt = nf ∧ nf ≤ 256 ∧ (∀ q, q < nf → 0 ≤ f q ∧ f q < n ∧ 0 ≤ t q ∧ t q < n) ∧ Script n nf (fun i => (f i).toNat) (fun i => (t i).toNat) ∧ Shaped n (if n = 0 then 0 else L1 0) L1 L2 L3 M U D) ∧ Below w.heap.size w w' := by
  refine calls_of_k fun R hR => ?_
  obtain ⟨lv, hlv⟩ : ∃ lv, lv = (if n = 0 then 0 else L1 0) := ⟨_, rfl⟩
  have hlvb : lv ≤ 1048576 := by
    rw [hlv]; split
    · omega
    · exact hl 0 (by omega)
  have hl13 := levels_any w ao n cap1 A1 L1 C1 M hM
  have hs1 := shape_any w ao n cap1 A1 L1 C1 M hM n lv (by omega)
  have hs2 := shape_any w bo n2 cap2 A2 L2 C2 U hU n lv (by omega)
  have hs3 := shape_any w co n3 cap3 A3 L3 C3 D hD n lv (by omega)
  rw [← hlv] at hl13 hR
  have G13 := hide hl13
  have S1 := hide hs1
  have S2 := hide hs2
  have S3 := hide hs3
  clear hl13 hs1 hs2 hs3 hl hlv
  go_enter Try.func24, Try.ntmps24
  go_wp2_with fail
  refine G13.out.mono ?_
  rintro e w' ⟨rfl, rfl⟩
  go_wp2_with fail
  refine S1.out.mono ?_
  rintro e w' ⟨b1, rfl, h1, rfl⟩
  cases b1
  · go_wp2_with fail
    exact hR.out _ _ ⟨false, rfl, fun h => (by cases h), Below.refl _ _⟩
  go_wp2_with fail
  refine S2.out.mono ?_
  rintro e w' ⟨b2, rfl, h2, rfl⟩
  cases b2
  · go_wp2_with fail
    exact hR.out _ _ ⟨false, rfl, fun h => (by cases h), Below.refl _ _⟩
  go_wp2_with fail
  refine S3.out.mono ?_
  rintro e w' ⟨b3, rfl, h3, rfl⟩
  cases b3
  · go_wp2_with fail
    exact hR.out _ _ ⟨false, rfl, fun h => (by cases h), Below.refl _ _⟩
  obtain ⟨_, q1⟩ := h1 (by first | rfl | trivial)
  obtain ⟨e2, q2⟩ := h2 (by first | rfl | trivial)
  obtain ⟨e3, q3⟩ := h3 (by first | rfl | trivial)
  have e2' := e2.symm
  have e3' := e3.symm
  subst e2' e3'
  have Q1 := hide q1
  have Q2 := hide q2
  have Q3 := hide q3
  clear h1 h2 h3 q1 q2 q3 S1 S2 S3 G13 e2 e3
  by_cases hlen : nf = nt
  · have HT := hide ht
    have HFo := hide hf
    have hb1 : (((nf : Nat) : Int) != (nt : Int)) = false := by simp; omega
    by_cases hm : 256 < (nf : Int)
    · clear hlen
      go_wp2_with fail
      exact hR.out _ _ ⟨false, rfl, fun h => (by cases h), Below.refl _ _⟩
    have hmk := run_make_row' (P := Try.prog) 57 4 (.bool false) 1 Try.underlying57 Try.info4' rfl .i64 .i64 n (by omega) (by omega)
    have HLen := hide hlen
    clear hlen hf ht
    have hm' : decide (256 < (nf : Int)) = false := by simpa using hm
    go_wp2_with fail
    clear hmk
    go_loopg [14] nf (fun g i wr => ∃ q : Nat, q + g = nf ∧ i = .int .i64 q ∧ SMid w' wr w'.heap.size n nf q f t)
    case atStart => exact ⟨0, by omega, rfl, SMid.start _ _ _ _ _⟩
    case round =>
      obtain ⟨q, hq, rfl, hmid⟩ := hrel
      by_cases hlt : q < nf
      · obtain ⟨b1, o1, rfl, c1⟩ := HFo.out q hlt
        obtain ⟨b2, o2, rfl, c2⟩ := HT.out q (by have := HLen.out; omega)
        have c1' : wr.cell? ⟨b1, o1 + q, none⟩ = some (.int .i64 (f q)) := (hmid.below.cell (cell_lt c1)).trans c1
        have c2' : wr.cell? ⟨b2, o2 + q, none⟩ = some (.int .i64 (t q)) := (hmid.below.cell (cell_lt c2)).trans c2
        have HM := hide hmid
        have hqq : (q : Int) < (nt : Int) := by have := HLen.out; omega
        clear c1 c2 hmid
        by_cases x0 : f q < 0
        · go_wp2_with fail
          exact hR.out _ _ ⟨false, rfl, fun h => (by cases h), HM.out.below⟩
        by_cases x1 : (n : Int) ≤ f q
        · go_wp2_with fail
          exact hR.out _ _ ⟨false, rfl, fun h => (by cases h), HM.out.below⟩
        by_cases y0 : t q < 0
        · go_wp2_with fail
          exact hR.out _ _ ⟨false, rfl, fun h => (by cases h), HM.out.below⟩
        by_cases y1 : (n : Int) ≤ t q
        · go_wp2_with fail
          exact hR.out _ _ ⟨false, rfl, fun h => (by cases h), HM.out.below⟩
        by_cases hxy : f q = t q
        · have hb : (f q == t q) = true := by simp [hxy]
          clear hxy
          go_wp2_with fail
          exact hR.out _ _ ⟨false, rfl, fun h => (by cases h), HM.out.below⟩
        have hb : (f q == t q) = false := by simp [hxy]
        have s1 : wr.cell? ⟨w'.heap.size, (f q).toNat, none⟩ = some (.bool (seenF (fun i => (f i).toNat) (fun i => (t i).toNat) q (f q).toNat)) := HM.out.row.cell (by omega)
        have s2 : wr.cell? ⟨w'.heap.size, (t q).toNat, none⟩ = some (.bool (seenF (fun i => (f i).toNat) (fun i => (t i).toNat) q (t q).toNat)) := HM.out.row.cell (by omega)
        have z1 := HM.out.row.frozen (f q).toNat
        have z2 := HM.out.row.frozen (t q).toNat
        cases e1 : seenF (fun i => (f i).toNat) (fun i => (t i).toNat) q (f q).toNat with
        | true =>
          rw [e1] at s1
          clear e1
          go_wp2_with fail
          exact hR.out _ _ ⟨false, rfl, fun h => (by cases h), HM.out.below⟩
        | false =>
          rw [e1] at s1
          cases e2 : seenF (fun i => (f i).toNat) (fun i => (t i).toNat) q (t q).toNat with
          | true =>
            rw [e2] at s2
            clear e1 e2
            go_wp2_with fail
            exact hR.out _ _ ⟨false, rfl, fun h => (by cases h), HM.out.below⟩
          | false =>
            rw [e2] at s2
            have HS := hide (HM.out.step (by omega) (by omega) (by omega) (by omega) hxy e1 e2)
            have hne : (f q).toNat ≠ (t q).toNat := by omega
            clear e1 e2 HM
            go_wp2_with fail
            go_roundg (nf - (q + 1))
            case measure => omega
            case rel => exact ⟨q + 1, by omega, by go_num, HS.out⟩
      · have e : q = nf := by omega
        subst e
        have hM' := hM.stays hmid.below
        have hU' := hU.stays hmid.below
        have hD' := hD.stays hmid.below
        have HM := hide hmid
        clear hmid hM hU hD
        go_wp2_with fail
        refine (halves_any _ ao bo co n cap1 cap2 cap3 lv A1 A2 A3 L1 L2 L3 C1 C2 C3 M U D hM' hU' hD' Q1.out Q2.out Q3.out hn hlvb).mono ?_
        rintro e w2 ⟨b4, rfl, h4, rfl⟩
        go_wp2_with fail
        exact hR.out _ _ ⟨b4, rfl, fun h => ⟨by first | rfl | trivial, by first | rfl | trivial, HLen.out.symm, by omega, HM.out.rg, HM.out.ok, Q1.out, Q2.out, Q3.out, h4 h⟩, HM.out.below⟩
  · have hb1 : (((nf : Nat) : Int) != (nt : Int)) = true := by simp; omega
    go_wp2_with fail
    exact hR.out _ _ ⟨false, rfl, fun h => (by cases h), Below.refl _ _⟩

end Go.Proofs.Qxb6000633a
