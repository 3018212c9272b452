/-
  The climb in memory: its blocks, what they hold, and what a store does to that.
-/
import Derived.Test.Qxb6000633aModel
namespace Go.Proofs.Qxb6000633a
open Go.RowKit

/-- what does not turn: the blocks, the sizes, the gains and losses; all blocks lie from B on -/
structure Cfg where
  B : Nat
  S : Nat
  AL : Nat
  CH : Nat
  UP : Nat
  DN : Nat
  Z : Nat
  R : Nat
  G : Nat
  LO : Nat
  U : Nat
  MZ : Nat
  MR : Nat
  n : Nat
  lv : Nat
  ng : Nat
  nl : Nat
  GJ : Nat → Int
  GV : Nat → Nat
  LJ : Nat → Int
  LV : Nat → Nat

/-- what turns -/
structure St where
  al : Nat → Nat
  ch : Nat → Nat → Nat
  up : Nat → Nat → Nat
  dn : Nat → Nat → Nat
  zs : Nat → Int
  rs : Nat → Nat
  val : Nat
  us : Nat → Bool
  pa : Option Addr
  pl : Nat
  pc : Nat
  mz : Nat → Int
  mr : Nat → Nat

def sl (b n : Nat) : Value := .slice (some ⟨b, 0, none⟩) n n

/-- the struct's cells -/
def fld (c : Cfg) (s : St) (i : Nat) : Value :=
  if i = 0 then .pointer none else if i = 1 then sl c.AL c.n else if i = 2 then sl c.CH c.n else if i = 3 then sl c.UP c.n else if i = 4 then sl c.DN c.n
  else if i = 5 then sl c.Z c.lv else if i = 6 then sl c.R c.lv else if i = 7 then .float .f64 s.val else if i = 8 then sl c.G c.ng else if i = 9 then sl c.LO c.nl
  else if i = 10 then sl c.U c.n else if i = 11 then .slice s.pa s.pl s.pc else if i = 12 then sl c.MZ c.lv else sl c.MR c.lv

/-- the cells of a list of gains -/
def gcell (J : Nat → Int) (V : Nat → Nat) (q : Nat) : Value := if q % 2 = 0 then .int .i64 (J (q / 2)) else .float .f64 (V (q / 2))

/-- what lies apart -/
structure Sep (c : Cfg) : Prop where
  zz : c.Z ≠ c.MZ
  rr : c.R ≠ c.MR
  ar : c.AL ≠ c.R
  am : c.AL ≠ c.MR
  alo : ∀ j, j < c.n → c.AL ≠ c.CH + 1 + j ∧ c.AL ≠ c.UP + 1 + j ∧ c.AL ≠ c.DN + 1 + j
  rlo : ∀ j, j < c.n → c.R ≠ c.CH + 1 + j ∧ c.R ≠ c.UP + 1 + j ∧ c.R ≠ c.DN + 1 + j
  mlo : ∀ j, j < c.n → c.MR ≠ c.CH + 1 + j ∧ c.MR ≠ c.UP + 1 + j ∧ c.MR ≠ c.DN + 1 + j
  cu : c.CH + c.n < c.UP
  cd : c.CH + c.n < c.DN
  bS : c.B ≤ c.S
  bAL : c.B ≤ c.AL
  bCH : c.B ≤ c.CH
  bZ : c.B ≤ c.Z
  bR : c.B ≤ c.R
  bU : c.B ≤ c.U
  bMZ : c.B ≤ c.MZ
  bMR : c.B ≤ c.MR

structure Climb (c : Cfg) (w : World) (s : St) : Prop where
  sep : Sep c
  S : w.rowIs c.S 61 14 (fld c s)
  AL : w.rowIs c.AL 32 c.n (fun i => .float .f64 (s.al i))
  CH : FTab w c.CH c.n c.lv s.ch
  UP : FTab w c.UP c.n c.lv s.up
  DN : FTab w c.DN c.n c.lv s.dn
  Z : w.rowIs c.Z 3 c.lv (fun k => .int .i64 (s.zs k))
  R : w.rowIs c.R 32 c.lv (fun k => .float .f64 (s.rs k))
  G : w.rowIs c.G 56 (2 * c.ng) (gcell c.GJ c.GV)
  LO : w.rowIs c.LO 56 (2 * c.nl) (gcell c.LJ c.LV)
  U : w.rowIs c.U 4 c.n (fun i => .bool (s.us i))
  MZ : w.rowIs c.MZ 3 c.lv (fun k => .int .i64 (s.mz k))
  MR : w.rowIs c.MR 32 c.lv (fun k => .float .f64 (s.mr k))

/-- a function turned at one place -/
def upd {α : Type} (f : Nat → α) (k : Nat) (x : α) : Nat → α := fun i => if i = k then x else f i
theorem upd_same {α : Type} (f : Nat → α) (k : Nat) (x : α) : upd f k x k = x := by simp [upd]
theorem upd_other {α : Type} (f : Nat → α) {k i : Nat} (x : α) (h : i ≠ k) : upd f k x i = f i := by simp [upd, h]
theorem upd_id {α : Type} (f : Nat → α) (k : Nat) : upd f k (f k) = f := by
  funext i; unfold upd; split
  · rename_i h; rw [h]
  · rfl
theorem upd_upd {α : Type} (f : Nat → α) (k : Nat) (x y : α) : upd (upd f k x) k y = upd f k y := by
  funext i; unfold upd; split <;> rfl

/-- rows of two types lie in two blocks -/
theorem row_ne {w : World} {b b' t t' n n' : Nat} {f f' : Nat → Value} (h : w.rowIs b t n f) (h' : w.rowIs b' t' n' f') (e : t ≠ t') : b ≠ b' := by
  rintro rfl
  obtain ⟨c, h1, _⟩ := h
  obtain ⟨c', h2, _⟩ := h'
  rw [h1] at h2
  simp only [Option.some.injEq, Obj.cells.injEq] at h2
  exact e h2.2.1

theorem FTab.setOther {w : World} {B n lv : Nat} {F : Nat → Nat → Nat} (h : FTab w B n lv F) {a : Addr} (v : Value) (h0 : B ≠ a.block) (h1 : ∀ j, j < n → B + 1 + j ≠ a.block) : FTab (w.setCell a v) B n lv F :=
  ⟨h.out.setOther h0 v, fun j hj => (h.row j hj).setOther (h1 j hj) v⟩
theorem FTab.drew {w : World} {B n lv : Nat} {F : Nat → Nat → Nat} (h : FTab w B n lv F) : FTab w.drew B n lv F := ⟨h.out, h.row⟩
theorem FTab.of_block {w w' : World} {B n lv : Nat} {F : Nat → Nat → Nat} (h : FTab w B n lv F) (e : ∀ b, b < w.heap.size → w'.heap[b]? = w.heap[b]?) : FTab w' B n lv F :=
  ⟨h.out.of_block (e _ h.out.lt), fun j hj => (h.row j hj).of_block (e _ (h.row j hj).lt)⟩

section
variable {c : Cfg} {w : World} {s : St}

theorem Climb.drew (h : Climb c w s) : Climb c w.drew s := ⟨h.sep, h.S, h.AL, h.CH.drew, h.UP.drew, h.DN.drew, h.Z, h.R, h.G, h.LO, h.U, h.MZ, h.MR⟩

/-- whatever new blocks are laid -/
theorem Climb.of_block {w' : World} (h : Climb c w s) (e : ∀ b, b < w.heap.size → w'.heap[b]? = w.heap[b]?) : Climb c w' s :=
  ⟨h.sep, h.S.of_block (e _ h.S.lt), h.AL.of_block (e _ h.AL.lt), h.CH.of_block e, h.UP.of_block e, h.DN.of_block e, h.Z.of_block (e _ h.Z.lt), h.R.of_block (e _ h.R.lt), h.G.of_block (e _ h.G.lt), h.LO.of_block (e _ h.LO.lt), h.U.of_block (e _ h.U.lt), h.MZ.of_block (e _ h.MZ.lt), h.MR.of_block (e _ h.MR.lt)⟩

theorem Climb.grown {w' : World} (h : Climb c w s) (e : Below w.heap.size w w') : Climb c w' s := h.of_block e.block

theorem Climb.setZ (h : Climb c w s) (k : Nat) (x : Int) : Climb c (w.setCell ⟨c.Z, k, none⟩ (.int .i64 x)) { s with zs := upd s.zs k x } := by
  have p := h.sep
  refine ⟨p, h.S.setOther (row_ne h.S h.Z (by decide)) _, h.AL.setOther (row_ne h.AL h.Z (by decide)) _, h.CH.setOther _ (row_ne h.CH.out h.Z (by decide)) (fun j hj => row_ne (h.CH.row j hj) h.Z (by decide)), h.UP.setOther _ (row_ne h.UP.out h.Z (by decide)) (fun j hj => row_ne (h.UP.row j hj) h.Z (by decide)), h.DN.setOther _ (row_ne h.DN.out h.Z (by decide)) (fun j hj => row_ne (h.DN.row j hj) h.Z (by decide)), ?_, h.R.setOther (row_ne h.R h.Z (by decide)) _, h.G.setOther (row_ne h.G h.Z (by decide)) _, h.LO.setOther (row_ne h.LO h.Z (by decide)) _, h.U.setOther (row_ne h.U h.Z (by decide)) _, h.MZ.setOther (fun e => p.zz e.symm) _, h.MR.setOther (row_ne h.MR h.Z (by decide)) _⟩
  refine (h.Z.set k _).congr fun i _ => ?_
  show _ = Value.int .i64 (upd s.zs k x i)
  unfold upd; split <;> rfl

theorem Climb.setMZ (h : Climb c w s) (k : Nat) (x : Int) : Climb c (w.setCell ⟨c.MZ, k, none⟩ (.int .i64 x)) { s with mz := upd s.mz k x } := by
  have p := h.sep
  refine ⟨p, h.S.setOther (row_ne h.S h.MZ (by decide)) _, h.AL.setOther (row_ne h.AL h.MZ (by decide)) _, h.CH.setOther _ (row_ne h.CH.out h.MZ (by decide)) (fun j hj => row_ne (h.CH.row j hj) h.MZ (by decide)), h.UP.setOther _ (row_ne h.UP.out h.MZ (by decide)) (fun j hj => row_ne (h.UP.row j hj) h.MZ (by decide)), h.DN.setOther _ (row_ne h.DN.out h.MZ (by decide)) (fun j hj => row_ne (h.DN.row j hj) h.MZ (by decide)), h.Z.setOther p.zz _, h.R.setOther (row_ne h.R h.MZ (by decide)) _, h.G.setOther (row_ne h.G h.MZ (by decide)) _, h.LO.setOther (row_ne h.LO h.MZ (by decide)) _, h.U.setOther (row_ne h.U h.MZ (by decide)) _, ?_, h.MR.setOther (row_ne h.MR h.MZ (by decide)) _⟩
  refine (h.MZ.set k _).congr fun i _ => ?_
  show _ = Value.int .i64 (upd s.mz k x i)
  unfold upd; split <;> rfl

theorem Climb.setR (h : Climb c w s) (k : Nat) (x : Nat) : Climb c (w.setCell ⟨c.R, k, none⟩ (.float .f64 x)) { s with rs := upd s.rs k x } := by
  have p := h.sep
  refine ⟨p, h.S.setOther (row_ne h.S h.R (by decide)) _, h.AL.setOther p.ar _, h.CH.setOther _ (row_ne h.CH.out h.R (by decide)) (fun j hj e => (p.rlo j hj).1 e.symm), h.UP.setOther _ (row_ne h.UP.out h.R (by decide)) (fun j hj e => (p.rlo j hj).2.1 e.symm), h.DN.setOther _ (row_ne h.DN.out h.R (by decide)) (fun j hj e => (p.rlo j hj).2.2 e.symm), h.Z.setOther (row_ne h.Z h.R (by decide)) _, ?_, h.G.setOther (row_ne h.G h.R (by decide)) _, h.LO.setOther (row_ne h.LO h.R (by decide)) _, h.U.setOther (row_ne h.U h.R (by decide)) _, h.MZ.setOther (row_ne h.MZ h.R (by decide)) _, h.MR.setOther (fun e => p.rr e.symm) _⟩
  refine (h.R.set k _).congr fun i _ => ?_
  show _ = Value.float .f64 (upd s.rs k x i)
  unfold upd; split <;> rfl

theorem Climb.setMR (h : Climb c w s) (k : Nat) (x : Nat) : Climb c (w.setCell ⟨c.MR, k, none⟩ (.float .f64 x)) { s with mr := upd s.mr k x } := by
  have p := h.sep
  refine ⟨p, h.S.setOther (row_ne h.S h.MR (by decide)) _, h.AL.setOther p.am _, h.CH.setOther _ (row_ne h.CH.out h.MR (by decide)) (fun j hj e => (p.mlo j hj).1 e.symm), h.UP.setOther _ (row_ne h.UP.out h.MR (by decide)) (fun j hj e => (p.mlo j hj).2.1 e.symm), h.DN.setOther _ (row_ne h.DN.out h.MR (by decide)) (fun j hj e => (p.mlo j hj).2.2 e.symm), h.Z.setOther (row_ne h.Z h.MR (by decide)) _, h.R.setOther p.rr _, h.G.setOther (row_ne h.G h.MR (by decide)) _, h.LO.setOther (row_ne h.LO h.MR (by decide)) _, h.U.setOther (row_ne h.U h.MR (by decide)) _, h.MZ.setOther (row_ne h.MZ h.MR (by decide)) _, ?_⟩
  refine (h.MR.set k _).congr fun i _ => ?_
  show _ = Value.float .f64 (upd s.mr k x i)
  unfold upd; split <;> rfl

theorem Climb.setAL (h : Climb c w s) (k : Nat) (x : Nat) : Climb c (w.setCell ⟨c.AL, k, none⟩ (.float .f64 x)) { s with al := upd s.al k x } := by
  have p := h.sep
  refine ⟨p, h.S.setOther (row_ne h.S h.AL (by decide)) _, ?_, h.CH.setOther _ (row_ne h.CH.out h.AL (by decide)) (fun j hj e => (p.alo j hj).1 e.symm), h.UP.setOther _ (row_ne h.UP.out h.AL (by decide)) (fun j hj e => (p.alo j hj).2.1 e.symm), h.DN.setOther _ (row_ne h.DN.out h.AL (by decide)) (fun j hj e => (p.alo j hj).2.2 e.symm), h.Z.setOther (row_ne h.Z h.AL (by decide)) _, h.R.setOther (fun e => p.ar e.symm) _, h.G.setOther (row_ne h.G h.AL (by decide)) _, h.LO.setOther (row_ne h.LO h.AL (by decide)) _, h.U.setOther (row_ne h.U h.AL (by decide)) _, h.MZ.setOther (row_ne h.MZ h.AL (by decide)) _, h.MR.setOther (fun e => p.am e.symm) _⟩
  refine (h.AL.set k _).congr fun i _ => ?_
  show _ = Value.float .f64 (upd s.al k x i)
  unfold upd; split <;> rfl

theorem Climb.setU (h : Climb c w s) (k : Nat) (x : Bool) : Climb c (w.setCell ⟨c.U, k, none⟩ (.bool x)) { s with us := upd s.us k x } := by
  have p := h.sep
  refine ⟨p, h.S.setOther (row_ne h.S h.U (by decide)) _, h.AL.setOther (row_ne h.AL h.U (by decide)) _, h.CH.setOther _ (row_ne h.CH.out h.U (by decide)) (fun j hj => row_ne (h.CH.row j hj) h.U (by decide)), h.UP.setOther _ (row_ne h.UP.out h.U (by decide)) (fun j hj => row_ne (h.UP.row j hj) h.U (by decide)), h.DN.setOther _ (row_ne h.DN.out h.U (by decide)) (fun j hj => row_ne (h.DN.row j hj) h.U (by decide)), h.Z.setOther (row_ne h.Z h.U (by decide)) _, h.R.setOther (row_ne h.R h.U (by decide)) _, h.G.setOther (row_ne h.G h.U (by decide)) _, h.LO.setOther (row_ne h.LO h.U (by decide)) _, ?_, h.MZ.setOther (row_ne h.MZ h.U (by decide)) _, h.MR.setOther (row_ne h.MR h.U (by decide)) _⟩
  refine (h.U.set k _).congr fun i _ => ?_
  show _ = Value.bool (upd s.us k x i)
  unfold upd; split <;> rfl

/-- a store into the struct's own block -/
theorem Climb.setS (h : Climb c w s) (i : Nat) (v : Value) (s' : St) (hal : s'.al = s.al) (hch : s'.ch = s.ch) (hup : s'.up = s.up) (hdn : s'.dn = s.dn) (hzs : s'.zs = s.zs) (hrs : s'.rs = s.rs) (hus : s'.us = s.us) (hmz : s'.mz = s.mz) (hmr : s'.mr = s.mr)
    (hf : ∀ q, q < 14 → (if q = i then v else fld c s q) = fld c s' q) : Climb c (w.setCell ⟨c.S, i, none⟩ v) s' := by
  have p := h.sep
  refine ⟨p, (h.S.set i _).congr hf, ?_, ?_, ?_, ?_, ?_, ?_, h.G.setOther (row_ne h.G h.S (by decide)) _, h.LO.setOther (row_ne h.LO h.S (by decide)) _, ?_, ?_, ?_⟩
  · rw [hal]; exact h.AL.setOther (row_ne h.AL h.S (by decide)) _
  · rw [hch]; exact h.CH.setOther _ (row_ne h.CH.out h.S (by decide)) (fun j hj => row_ne (h.CH.row j hj) h.S (by decide))
  · rw [hup]; exact h.UP.setOther _ (row_ne h.UP.out h.S (by decide)) (fun j hj => row_ne (h.UP.row j hj) h.S (by decide))
  · rw [hdn]; exact h.DN.setOther _ (row_ne h.DN.out h.S (by decide)) (fun j hj => row_ne (h.DN.row j hj) h.S (by decide))
  · rw [hzs]; exact h.Z.setOther (row_ne h.Z h.S (by decide)) _
  · rw [hrs]; exact h.R.setOther (row_ne h.R h.S (by decide)) _
  · rw [hus]; exact h.U.setOther (row_ne h.U h.S (by decide)) _
  · rw [hmz]; exact h.MZ.setOther (row_ne h.MZ h.S (by decide)) _
  · rw [hmr]; exact h.MR.setOther (row_ne h.MR h.S (by decide)) _

theorem Climb.setVal (h : Climb c w s) (x : Nat) : Climb c (w.setCell ⟨c.S, 7, none⟩ (.float .f64 x)) { s with val := x } := by
  refine h.setS 7 _ _ rfl rfl rfl rfl rfl rfl rfl rfl rfl fun q hq => ?_
  by_cases e : q = 7
  · subst e; simp [fld]
  · rw [if_neg e]; simp [fld, e]

theorem Climb.setPairs (h : Climb c w s) (a : Option Addr) (l cp : Nat) : Climb c (w.setCell ⟨c.S, 11, none⟩ (.slice a l cp)) { s with pa := a, pl := l, pc := cp } := by
  refine h.setS 11 _ _ rfl rfl rfl rfl rfl rfl rfl rfl rfl fun q hq => ?_
  by_cases e : q = 11
  · subst e; simp [fld]
  · rw [if_neg e]; simp [fld, e]

/-- the same memory, its content said otherwise -/
theorem Climb.congr {s' : St} (h : Climb c w s) (hal : ∀ i, i < c.n → s.al i = s'.al i) (hch : ∀ j k, j < c.n → k < c.lv → s.ch j k = s'.ch j k) (hup : s.up = s'.up) (hdn : s.dn = s'.dn) (hzs : ∀ k, k < c.lv → s.zs k = s'.zs k) (hrs : ∀ k, k < c.lv → s.rs k = s'.rs k)
    (hv : s.val = s'.val) (hus : ∀ i, i < c.n → s.us i = s'.us i) (hpa : s.pa = s'.pa) (hpl : s.pl = s'.pl) (hpc : s.pc = s'.pc) (hmz : ∀ k, k < c.lv → s.mz k = s'.mz k) (hmr : ∀ k, k < c.lv → s.mr k = s'.mr k) : Climb c w s' :=
  ⟨h.sep, h.S.congr fun i _ => by simp only [fld, hv, hpa, hpl, hpc], h.AL.congr fun i hi => by rw [hal i hi], ⟨h.CH.out, fun j hj => (h.CH.row j hj).congr fun k hk => by rw [hch j k hj hk]⟩, hup ▸ h.UP, hdn ▸ h.DN, h.Z.congr fun i hi => by rw [hzs i hi], h.R.congr fun i hi => by rw [hrs i hi], h.G, h.LO, h.U.congr fun i hi => by rw [hus i hi], h.MZ.congr fun i hi => by rw [hmz i hi], h.MR.congr fun i hi => by rw [hmr i hi]⟩

/-! ### the struct's cells -/
theorem Climb.f1 (h : Climb c w s) : w.cell? ⟨c.S, 1, none⟩ = some (.slice (some ⟨c.AL, 0, none⟩) c.n c.n) := h.S.cell (by omega)
theorem Climb.f2 (h : Climb c w s) : w.cell? ⟨c.S, 2, none⟩ = some (.slice (some ⟨c.CH, 0, none⟩) c.n c.n) := h.S.cell (by omega)
theorem Climb.f3 (h : Climb c w s) : w.cell? ⟨c.S, 3, none⟩ = some (.slice (some ⟨c.UP, 0, none⟩) c.n c.n) := h.S.cell (by omega)
theorem Climb.f4 (h : Climb c w s) : w.cell? ⟨c.S, 4, none⟩ = some (.slice (some ⟨c.DN, 0, none⟩) c.n c.n) := h.S.cell (by omega)
theorem Climb.f5 (h : Climb c w s) : w.cell? ⟨c.S, 5, none⟩ = some (.slice (some ⟨c.Z, 0, none⟩) c.lv c.lv) := h.S.cell (by omega)
theorem Climb.f6 (h : Climb c w s) : w.cell? ⟨c.S, 6, none⟩ = some (.slice (some ⟨c.R, 0, none⟩) c.lv c.lv) := h.S.cell (by omega)
theorem Climb.f7 (h : Climb c w s) : w.cell? ⟨c.S, 7, none⟩ = some (.float .f64 s.val) := h.S.cell (by omega)
theorem Climb.f8 (h : Climb c w s) : w.cell? ⟨c.S, 8, none⟩ = some (.slice (some ⟨c.G, 0, none⟩) c.ng c.ng) := h.S.cell (by omega)
theorem Climb.f9 (h : Climb c w s) : w.cell? ⟨c.S, 9, none⟩ = some (.slice (some ⟨c.LO, 0, none⟩) c.nl c.nl) := h.S.cell (by omega)
theorem Climb.f10 (h : Climb c w s) : w.cell? ⟨c.S, 10, none⟩ = some (.slice (some ⟨c.U, 0, none⟩) c.n c.n) := h.S.cell (by omega)
theorem Climb.f11 (h : Climb c w s) : w.cell? ⟨c.S, 11, none⟩ = some (.slice s.pa s.pl s.pc) := h.S.cell (by omega)
theorem Climb.f12 (h : Climb c w s) : w.cell? ⟨c.S, 12, none⟩ = some (.slice (some ⟨c.MZ, 0, none⟩) c.lv c.lv) := h.S.cell (by omega)
theorem Climb.f13 (h : Climb c w s) : w.cell? ⟨c.S, 13, none⟩ = some (.slice (some ⟨c.MR, 0, none⟩) c.lv c.lv) := h.S.cell (by omega)
theorem Climb.fz (h : Climb c w s) (i : Nat) : w.frozen? ⟨c.S, i, none⟩ = false := h.S.frozen i
end

/-- the blocks that a round may write -/
def own (c : Cfg) (k : Nat) : Prop := k = c.S ∨ k = c.AL ∨ (c.CH < k ∧ k ≤ c.CH + c.n) ∨ k = c.Z ∨ k = c.R ∨ k = c.U ∨ k = c.MZ ∨ k = c.MR
theorem own_S (c : Cfg) : own c c.S := .inl rfl
theorem own_AL (c : Cfg) : own c c.AL := .inr (.inl rfl)
theorem own_CH (c : Cfg) {j : Nat} (h : j < c.n) : own c (c.CH + 1 + j) := .inr (.inr (.inl ⟨by omega, by omega⟩))
theorem own_Z (c : Cfg) : own c c.Z := .inr (.inr (.inr (.inl rfl)))
theorem own_R (c : Cfg) : own c c.R := .inr (.inr (.inr (.inr (.inl rfl))))
theorem own_U (c : Cfg) : own c c.U := .inr (.inr (.inr (.inr (.inr (.inl rfl)))))
theorem own_MZ (c : Cfg) : own c c.MZ := .inr (.inr (.inr (.inr (.inr (.inr (.inl rfl))))))
theorem own_MR (c : Cfg) : own c c.MR := .inr (.inr (.inr (.inr (.inr (.inr (.inr rfl))))))

/-- of the blocks that were there only those of P may have turned -/
structure Touch (P : Nat → Prop) (w w' : World) : Prop where
  os : w'.os = w.os
  tape : w'.tape = w.tape
  output : w'.output = w.output
  size : w.heap.size ≤ w'.heap.size
  block : ∀ k, k < w.heap.size → ¬ P k → w'.heap[k]? = w.heap[k]?

namespace Touch
variable {P : Nat → Prop} {w w' w'' : World}
theorem refl (P : Nat → Prop) (w : World) : Touch P w w := ⟨rfl, rfl, rfl, Nat.le_refl _, fun _ _ _ => rfl⟩
theorem trans (h : Touch P w w') (k : Touch P w' w'') : Touch P w w'' :=
  ⟨k.os.trans h.os, k.tape.trans h.tape, k.output.trans h.output, Nat.le_trans h.size k.size, fun i hi hp => (k.block i (Nat.lt_of_lt_of_le hi h.size) hp).trans (h.block i hi hp)⟩
theorem drew (h : Touch P w w') : Touch P w w'.drew := ⟨h.os, h.tape, h.output, h.size, h.block⟩
theorem setCell (h : Touch P w w') {p : Addr} (hp : P p.block) (u : Value) : Touch P w (w'.setCell p u) :=
  h.trans ⟨rfl, rfl, rfl, by simp [World.setCell], fun k _ hk => Below.heap_setCell _ _ _ _ (fun e => hk (e ▸ hp))⟩
theorem grown (h : Touch P w w') (k : Below w'.heap.size w' w'') : Touch P w w'' :=
  h.trans ⟨k.os, k.tape, k.output, k.size, fun i hi _ => k.block i hi⟩
theorem below (h : Touch P w w') {B : Nat} (hP : ∀ k, P k → B ≤ k) (hB : B ≤ w.heap.size) : Below B w w' :=
  ⟨h.os, h.tape, h.output, h.size, fun k hk => h.block k (by omega) (fun hp => by have := hP k hp; omega)⟩
end Touch

theorem Climb.own_lo {c : Cfg} {w : World} {s : St} (h : Climb c w s) : ∀ k, own c k → c.B ≤ k := by
  intro k hk
  have p := h.sep
  have := p.bS; have := p.bAL; have := p.bCH; have := p.bZ; have := p.bR; have := p.bU; have := p.bMZ; have := p.bMR
  unfold own at hk
  omega

end Go.Proofs.Qxb6000633a
