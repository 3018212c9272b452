/-
  A region that draws its order, by an invariant over what has been done; and ZZNewClimb's last region by it.
-/
import Derived.Test.Qxb6000633aCopy
import Derived.Test.Qxb6000633aClone
import Derived.Orders
namespace Go.Proofs.Qxb6000633a
open Go.RowKit
attribute [local go_sem] run_store_float

theorem getD_set (L : Array Bool) (i j : Nat) (d : Bool) (hi : i < L.size) : (L.setIfInBounds i true).getD j d = if j = i then true else L.getD j d := by
  rw [Array.getD_eq_getD_getElem?, Array.getElem?_setIfInBounds, Array.getD_eq_getD_getElem?]
  by_cases e : j = i
  · subst e; simp [hi]
  · rw [if_neg (fun h => e h.symm), if_neg e]

theorem size_of_getD {L : Array Bool} {i : Nat} (h : L.getD i true = false) : i < L.size := by
  rcases Nat.lt_or_ge i L.size with h' | h'
  · exact h'
  · rw [Array.getD_eq_getD_getElem?, Array.getElem?_eq_none h'] at h
    cases h

theorem ready_mem {md : Region.Mode} {ops : Array Oper} {L : Array Bool} {i : Nat} (h : i ∈ Region.ready md ops L) :
    i < ops.size ∧ L.getD i true = false ∧ ∃ o, ops[i]? = some o ∧ (o.after.all fun e => !Region.binds md e || L.getD e.on false) = true := by
  unfold Region.ready at h
  rw [List.mem_filter, List.mem_range] at h
  obtain ⟨h1, h2⟩ := h
  rw [Bool.and_eq_true] at h2
  obtain ⟨h3, h4⟩ := h2
  refine ⟨h1, by simpa using h3, ?_⟩
  cases ho : ops[i]? with
  | none => rw [ho] at h4; cases h4
  | some o => rw [ho] at h4; exact ⟨o, rfl, h4⟩

theorem ready_nil {md : Region.Mode} {ops : Array Oper} {L : Array Bool} (h : cnt (fun i => !(L.getD i true)) ops.size = 0) : Region.ready md ops L = [] := by
  cases hr : Region.ready md ops L with
  | nil => rfl
  | cons i rest =>
    have hi : i ∈ Region.ready md ops L := by rw [hr]; exact List.mem_cons_self
    obtain ⟨h1, h2, _⟩ := ready_mem hi
    have := cnt_pos (p := fun i => !(L.getD i true)) h1 (by rw [h2]; rfl)
    omega

theorem wpAny_inv {P : Program} {md : Region.Mode} {ops : Array Oper} {Q : Exit → Act → World → Prop} (I : Array Bool → Act → World → Prop)
    (step : ∀ L a w, I L a w → ∀ i, i ∈ Region.ready md ops L → wpOp P ops Q i (I (L.setIfInBounds i true)) a w)
    (fin : ∀ L a w, I L a w → Region.ready md ops L = [] → Q .normal a w) :
    ∀ (fuel : Nat) L a w, I L a w → cnt (fun i => !(L.getD i true)) ops.size ≤ fuel → wpAny P md ops Q fuel L a w := by
  intro fuel
  induction fuel with
  | zero =>
    intro L a w hI hc
    have hr := ready_nil (md := md) (ops := ops) (L := L) (by omega)
    exact ⟨hr, fin L a w hI hr⟩
  | succ fuel ih =>
    intro L a w hI hc
    refine ⟨fin L a w hI, fun i hi => ?_⟩
    obtain ⟨h1, h2, _⟩ := ready_mem hi
    refine wpOp_mono (fun a w hI' => ih _ a w hI' ?_) (step L a w hI i hi)
    have hs := size_of_getD h2
    have e := cnt_upd (fun i => !(L.getD i true)) ops.size i false h1
    have e2 : cnt (fun j => !((L.setIfInBounds i true).getD j true)) ops.size = cnt (fun j => if j = i then false else !(L.getD j true)) ops.size := by
      refine cnt_congr fun j _ => ?_
      rw [getD_set L i j true hs]
      split <;> rfl
    rw [e2]
    simp only [h2, Bool.not_false, if_true, Bool.false_eq_true, if_false] at e
    omega

theorem wp_region_inv {P : Program} {id : Nat} {ops : Array Oper} {Q : Exit → Act → World → Prop} {a : Act} {w : World} (hm : P.follows .mixedOrders = true) (I : Array Bool → Act → World → Prop)
    (h0 : I (Array.replicate ops.size false) a w.drew)
    (step : ∀ L a w, I L a w → ∀ i, i ∈ Region.ready .any ops L → wpOp P ops Q i (I (L.setIfInBounds i true)) a w)
    (fin : ∀ L a w, I L a w → Region.ready .any ops L = [] → Q .normal a w) : (Code.region id ops true).wp P Q a w :=
  wp_region_any hm (wpAny_inv I step fin ops.size _ a _ h0 (cnt_le _ _))

theorem Try.mixed : Try.prog.follows .mixedOrders = true := by kernel_rfl

/-- every edge leads back -/
def backB (md : Region.Mode) (ops : Array Oper) : Bool :=
  (List.range ops.size).all fun i => match ops[i]? with | some o => o.after.all fun e => !Region.binds md e || decide (e.on < i) | none => true

/-- where nothing is ready, all is done -/
theorem ready_all {md : Region.Mode} {ops : Array Oper} {L : Array Bool} (hb : backB md ops = true) (hs : L.size = ops.size) (hr : Region.ready md ops L = []) : ∀ i, i < ops.size → L.getD i false = true := by
  intro i
  induction i using Nat.strongRecOn with
  | _ i ih =>
    intro hi
    cases hL : L.getD i false with
    | true => rfl
    | false =>
      exfalso
      have hL' : L.getD i true = false := by
        rw [Array.getD_eq_getD_getElem?] at hL ⊢
        rw [Array.getElem?_eq_getElem (by omega)] at hL ⊢
        exact hL
      have ho : ops[i]? = some ops[i] := Array.getElem?_eq_getElem hi
      have : i ∈ Region.ready md ops L := by
        unfold Region.ready
        rw [List.mem_filter, List.mem_range]
        refine ⟨hi, ?_⟩
        rw [hL', ho]
        show (ops[i].after.all fun e => !Region.binds md e || L.getD e.on false) = true
        rw [Array.all_eq_true]
        intro j hj
        unfold backB at hb
        rw [List.all_eq_true] at hb
        have h1 := hb i (List.mem_range.2 hi)
        rw [ho] at h1
        have h2 := Array.all_eq_true.1 h1 j hj
        rw [Bool.or_eq_true] at h2 ⊢
        rcases h2 with h2 | h2
        · exact .inl h2
        · refine .inr (ih _ (of_decide_eq_true h2) ?_)
          have := of_decide_eq_true h2
          omega
      rw [hr] at this
      cases this

/-! ### ZZNewClimb's last region -/

/-- the slot that operation i writes -/
def dstN (i : Nat) : Nat := if i = 19 then 18 else 65 + i

/-- a row that has been made -/
def Made (w0 w : World) (t n : Nat) (z v : Value) : Prop := ∃ b, v = sl b n ∧ w0.heap.size ≤ b ∧ w.rowIs b t n (fun _ => z)

/-- what the call hands back -/
structure Five (w0 w : World) (n lv Z R U MZ MR : Nat) : Prop where
  z : w.rowIs Z 3 lv (fun _ => .int .i64 0)
  r : w.rowIs R 32 lv (fun _ => .float .f64 0)
  u : w.rowIs U 4 n (fun _ => .bool false)
  mz : w.rowIs MZ 3 lv (fun _ => .int .i64 0)
  mr : w.rowIs MR 32 lv (fun _ => .float .f64 0)
  bz : w0.heap.size ≤ Z
  br : w0.heap.size ≤ R
  bu : w0.heap.size ≤ U
  bmz : w0.heap.size ≤ MZ
  bmr : w0.heap.size ≤ MR
  zz : Z ≠ MZ
  rr : R ≠ MR

/-- the struct as it is put together -/
def newAgg (n lv ng nl AL CH UP DN G LO Z R U MZ MR : Nat) : Array Value :=
  #[.pointer none, sl AL n, sl CH n, sl UP n, sl DN n, sl Z lv, sl R lv, .float .f64 0, sl G ng, sl LO nl, sl U n, .slice none 0 0, sl MZ lv, sl MR lv]

structure NewP where
  n : Nat
  lv : Nat
  ng : Nat
  nl : Nat
  AL : Nat
  CH : Nat
  UP : Nat
  DN : Nat
  G : Nat
  LO : Nat

/-- what operation i has laid into its slot -/
def Vl (p : NewP) (w0 w : World) (i : Nat) (x : Value) : Prop :=
  match i with
  | 0 => x = sl p.AL p.n
  | 1 => x = sl p.CH p.n
  | 2 => x = sl p.UP p.n
  | 3 => x = sl p.DN p.n
  | 4 => x = .int .i64 p.lv
  | 5 => Made w0 w 3 p.lv (.int .i64 0) x
  | 6 => x = .int .i64 p.lv
  | 7 => Made w0 w 32 p.lv (.float .f64 0) x
  | 8 => x = sl p.G p.ng
  | 9 => x = sl p.LO p.nl
  | 10 => x = sl p.AL p.n
  | 11 => x = .int .i64 p.n
  | 12 => Made w0 w 4 p.n (.bool false) x
  | 13 => x = .int .i64 p.lv
  | 14 => Made w0 w 3 p.lv (.int .i64 0) x
  | 15 => x = .int .i64 p.lv
  | 16 => Made w0 w 32 p.lv (.float .f64 0) x
  | 17 => ∃ Z R U MZ MR, Five w0 w p.n p.lv Z R U MZ MR ∧ x = .agg (newAgg p.n p.lv p.ng p.nl p.AL p.CH p.UP p.DN p.G p.LO Z R U MZ MR)
  | _ => ∃ S Z R U MZ MR, Five w0 w p.n p.lv Z R U MZ MR ∧ x = .pointer (some ⟨S, 0, none⟩) ∧ w0.heap.size ≤ S ∧ w.rowIs S 61 14 (fun q => (newAgg p.n p.lv p.ng p.nl p.AL p.CH p.UP p.DN p.G p.LO Z R U MZ MR).getD q undef)

theorem Made.alloc {w0 w : World} {t n : Nat} {z v : Value} (h : Made w0 w t n z v) (o : Obj) : Made w0 (w.alloc o) t n z v := by
  obtain ⟨b, h1, h2, h3⟩ := h
  exact ⟨b, h1, h2, h3.alloc o⟩
theorem Five.alloc {w0 w : World} {n lv Z R U MZ MR : Nat} (h : Five w0 w n lv Z R U MZ MR) (o : Obj) : Five w0 (w.alloc o) n lv Z R U MZ MR :=
  ⟨h.z.alloc o, h.r.alloc o, h.u.alloc o, h.mz.alloc o, h.mr.alloc o, h.bz, h.br, h.bu, h.bmz, h.bmr, h.zz, h.rr⟩
theorem Vl.alloc {p : NewP} {w0 w : World} {i : Nat} {x : Value} (h : Vl p w0 w i x) (o : Obj) : Vl p w0 (w.alloc o) i x := by
  unfold Vl at h ⊢
  split at h <;> first
    | exact h
    | exact Made.alloc h o
    | (obtain ⟨Z, R, U, MZ, MR, h1, h2⟩ := h; exact ⟨Z, R, U, MZ, MR, h1.alloc o, h2⟩)
    | (obtain ⟨S, Z, R, U, MZ, MR, h1, h2, h3, h4⟩ := h; exact ⟨S, Z, R, U, MZ, MR, h1.alloc o, h2, h3, h4.alloc o⟩)

structure NI (p : NewP) (w0 : World) (L : Array Bool) (a : Act) (w : World) : Prop where
  df : a.defers = []
  sz : a.tmps.size = 84
  ls : L.size = 20
  bel : Below w0.heap.size w0 w
  p0 : a.tmps.getD 0 undef = sl p.AL p.n
  p1 : a.tmps.getD 1 undef = sl p.CH p.n
  p2 : a.tmps.getD 2 undef = sl p.UP p.n
  p3 : a.tmps.getD 3 undef = sl p.DN p.n
  p4 : a.tmps.getD 4 undef = .int .i64 p.lv
  p19 : a.tmps.getD 19 undef = sl p.G p.ng
  p21 : a.tmps.getD 21 undef = sl p.LO p.nl
  v : ∀ i, i < 20 → L.getD i false = true → Vl p w0 w i (a.tmps.getD (dstN i) undef)
  d1 : L.getD 5 false = true → L.getD 14 false = true → a.tmps.getD 70 undef ≠ a.tmps.getD 79 undef
  d2 : L.getD 7 false = true → L.getD 16 false = true → a.tmps.getD 72 undef ≠ a.tmps.getD 81 undef

theorem NI.got {p : NewP} {w0 w : World} {L : Array Bool} {a : Act} (h : NI p w0 L a w) {i : Nat} (hi : i < 20) (hL : L[i]?.getD false = true) : Vl p w0 w i (a.tmps.getD (dstN i) undef) :=
  h.v i hi (by rw [Array.getD_eq_getD_getElem?]; exact hL)

theorem tmps_put (a : Act) (d e : Nat) (x : Value) (hd : d < a.tmps.size) : (a.put (some d) x).tmps.getD e undef = if e = d then x else a.tmps.getD e undef := by
  show (a.tmps.setIfInBounds d x).getD e undef = _
  rw [Array.getD_eq_getD_getElem?, Array.getElem?_setIfInBounds, Array.getD_eq_getD_getElem?]
  by_cases h : e = d
  · subst h; simp [hd]
  · rw [if_neg (fun h' => h h'.symm), if_neg h]

theorem NI.put {p : NewP} {w0 w w' : World} {L : Array Bool} {a : Act} (h : NI p w0 L a w) {i : Nat} (hi : i < 20) (x : Value) (hx : Vl p w0 w' i x)
    (hm : ∀ j y, Vl p w0 w j y → Vl p w0 w' j y) (hb : Below w0.heap.size w0 w')
    (h5 : i = 5 → L.getD 14 false = true → x ≠ a.tmps.getD 79 undef) (h14 : i = 14 → L.getD 5 false = true → x ≠ a.tmps.getD 70 undef)
    (h7 : i = 7 → L.getD 16 false = true → x ≠ a.tmps.getD 81 undef) (h16 : i = 16 → L.getD 7 false = true → x ≠ a.tmps.getD 72 undef) :
    NI p w0 (L.setIfInBounds i true) (a.put (some (dstN i)) x) w' := by
  have hsz := h.sz
  have hls := h.ls
  have hd : dstN i < a.tmps.size := by unfold dstN; split <;> omega
  have T : ∀ e, (a.put (some (dstN i)) x).tmps.getD e undef = if e = dstN i then x else a.tmps.getD e undef := fun e => tmps_put a _ e x hd
  have G : ∀ j, (L.setIfInBounds i true).getD j false = if j = i then true else L.getD j false := fun j => getD_set L i j false (by omega)
  have P : ∀ e, e < 65 → e ≠ 18 → (a.put (some (dstN i)) x).tmps.getD e undef = a.tmps.getD e undef := fun e he he' => by
    rw [T e, if_neg]
    unfold dstN
    split <;> omega
  refine ⟨h.df, by show (a.tmps.setIfInBounds _ _).size = 84; rw [Array.size_setIfInBounds]; exact hsz, by rw [Array.size_setIfInBounds]; exact hls, hb, ?_, ?_, ?_, ?_, ?_, ?_, ?_, ?_, ?_, ?_⟩
  · rw [P 0 (by omega) (by omega)]; exact h.p0
  · rw [P 1 (by omega) (by omega)]; exact h.p1
  · rw [P 2 (by omega) (by omega)]; exact h.p2
  · rw [P 3 (by omega) (by omega)]; exact h.p3
  · rw [P 4 (by omega) (by omega)]; exact h.p4
  · rw [P 19 (by omega) (by omega)]; exact h.p19
  · rw [P 21 (by omega) (by omega)]; exact h.p21
  · intro j hj hL
    rw [G j] at hL
    rw [T]
    by_cases e : j = i
    · subst e; rw [if_pos rfl]; exact hx
    · rw [if_neg e] at hL
      have : dstN j ≠ dstN i := by unfold dstN; split <;> split <;> omega
      rw [if_neg this]
      exact hm _ _ (h.v j hj hL)
  · intro ha hb'
    rw [G 5] at ha
    rw [G 14] at hb'
    rw [T, T]
    by_cases e5 : i = 5
    · subst e5
      rw [if_pos (by decide), if_neg (by decide)]
      rw [if_neg (by decide)] at hb'
      exact h5 rfl hb'
    · by_cases e14 : i = 14
      · subst e14
        rw [if_neg (by decide), if_pos (by decide)]
        rw [if_neg (by decide)] at ha
        exact fun e => h14 rfl ha e.symm
      · rw [if_neg (fun e => e5 e.symm)] at ha
        rw [if_neg (fun e => e14 e.symm)] at hb'
        rw [if_neg (by unfold dstN; split <;> omega), if_neg (by unfold dstN; split <;> omega)]
        exact h.d1 ha hb'
  · intro ha hb'
    rw [G 7] at ha
    rw [G 16] at hb'
    rw [T, T]
    by_cases e5 : i = 7
    · subst e5
      rw [if_pos (by decide), if_neg (by decide)]
      rw [if_neg (by decide)] at hb'
      exact h7 rfl hb'
    · by_cases e14 : i = 16
      · subst e14
        rw [if_neg (by decide), if_pos (by decide)]
        rw [if_neg (by decide)] at ha
        exact fun e => h16 rfl ha e.symm
      · rw [if_neg (fun e => e5 e.symm)] at ha
        rw [if_neg (fun e => e14 e.symm)] at hb'
        rw [if_neg (by unfold dstN; split <;> omega), if_neg (by unfold dstN; split <;> omega)]
        exact h.d2 ha hb'

theorem sl_inj {b b' n n' : Nat} (h : sl b n = sl b' n') : b = b' := by
  unfold sl at h
  simp only [Value.slice.injEq, Option.some.injEq, Addr.mk.injEq] at h
  exact h.1.1

/-- a new row's value is none that was made before -/
theorem Made.ne_new {w0 w : World} {t n : Nat} {z v : Value} (h : Made w0 w t n z v) (m : Nat) : sl w.heap.size m ≠ v := by
  obtain ⟨b, rfl, _, h3⟩ := h
  intro e
  have := sl_inj e
  have := h3.lt
  omega

theorem made_new {w0 w : World} (h : Below w0.heap.size w0 w) (t n : Nat) (z : Value) : Made w0 (w.alloc (.cells (madeCells #[z] n) t)) t n z (sl w.heap.size n) :=
  ⟨_, rfl, h.size, World.rowIs_made w z n t⟩

end Go.Proofs.Qxb6000633a
