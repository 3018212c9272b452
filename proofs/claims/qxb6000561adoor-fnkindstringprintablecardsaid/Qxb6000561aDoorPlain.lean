/-
  The text of a kind, and what reads it back: plain facts at each of the 256 bytes. No Go in sight.
-/
namespace Go.Proofs.Qxb6000561aDoor

/-- the digits of a number of at most three -/
def dec3 (k : Nat) : List UInt8 :=
  if k < 10 then [UInt8.ofNat (48 + k)] else if k < 100 then [UInt8.ofNat (48 + k / 10), UInt8.ofNat (48 + k % 10)] else [UInt8.ofNat (48 + k / 100), UInt8.ofNat (48 + k / 10 % 10), UInt8.ofNat (48 + k % 10)]

/-- the names of the known kinds -/
def nameB (k : Nat) : List UInt8 :=
  if k = 1 then [99, 111, 109, 109, 105, 116] else if k = 2 then [99, 104, 101, 99, 107, 112, 111, 105, 110, 116] else if k = 3 then [107, 101, 121] else if k = 4 then [115, 101, 115, 115, 105, 111, 110]
  else if k = 5 then [115, 101, 115, 115, 105, 111, 110, 32, 101, 110, 100] else if k = 6 then [99, 111, 117, 110, 116, 101, 114] else if k = 7 then [104, 105, 115, 116, 111, 114, 121] else []

/-- the text of a kind -/
def kb (k : Nat) : List UInt8 := if 1 ≤ k ∧ k ≤ 7 then nameB k else [107, 105, 110, 100, 32] ++ dec3 k

theorem kb_other {k : Nat} (h : ¬ (1 ≤ k ∧ k ≤ 7)) : kb k = [107, 105, 110, 100, 32] ++ dec3 k := if_neg h
theorem kb_known {k : Nat} (h : 1 ≤ k ∧ k ≤ 7) : kb k = nameB k := if_pos h

theorem dec3_length (k : Nat) : 1 ≤ (dec3 k).length ∧ (dec3 k).length ≤ 3 := by
  unfold dec3
  split
  · simp
  · split <;> simp

/-- what is read of the first i digits -/
def acc (k i : Nat) : Nat := ((dec3 k).take i).foldl (fun v c => v * 10 + (c.toNat - 48)) 0

theorem digits_fin : ∀ k : Fin 256, ∀ i : Fin 3, i.val < (dec3 k.val).length → 48 ≤ ((dec3 k.val).getD i.val 0).toNat ∧ ((dec3 k.val).getD i.val 0).toNat ≤ 57 ∧ acc k.val (i.val + 1) = acc k.val i.val * 10 + (((dec3 k.val).getD i.val 0).toNat - 48) ∧ acc k.val i.val ≤ 255 := by decide +kernel
theorem acc_fin : ∀ k : Fin 256, acc k.val (dec3 k.val).length = k.val := by decide +kernel
theorem lead_fin : ∀ k : Fin 256, 1 < (dec3 k.val).length → (dec3 k.val).getD 0 0 ≠ 48 := by decide +kernel
theorem names_fin : ∀ i j : Fin 8, 1 ≤ i.val → 1 ≤ j.val → (nameB i.val = nameB j.val ↔ i.val = j.val) := by decide +kernel
theorem other_fin : ∀ k : Fin 256, ∀ i : Fin 8, [107, 105, 110, 100, 32] ++ dec3 k.val ≠ nameB i.val := by decide +kernel
theorem size_fin : ∀ k : Fin 256, 1 ≤ (kb k.val).length ∧ (kb k.val).length ≤ 11 := by decide +kernel
theorem ends_fin : ∀ k : Fin 256, (kb k.val).getD 0 0 ≠ 32 ∧ (kb k.val).getD ((kb k.val).length - 1) 0 ≠ 32 := by decide +kernel
theorem print_fin : ∀ k : Fin 256, ∀ i : Fin 11, i.val < (kb k.val).length → (97 ≤ ((kb k.val).getD i.val 0).toNat ∧ ((kb k.val).getD i.val 0).toNat ≤ 122) ∨ (48 ≤ ((kb k.val).getD i.val 0).toNat ∧ ((kb k.val).getD i.val 0).toNat ≤ 57) ∨ ((kb k.val).getD i.val 0).toNat = 32 := by decide +kernel

/-- the reader of a text -/
def unkb (l : List UInt8) : Nat :=
  if l = nameB 1 then 1 else if l = nameB 2 then 2 else if l = nameB 3 then 3 else if l = nameB 4 then 4 else if l = nameB 5 then 5 else if l = nameB 6 then 6 else if l = nameB 7 then 7
  else (l.drop 5).foldl (fun v c => v * 10 + (c.toNat - 48)) 0
theorem unkb_fin : ∀ k : Fin 256, unkb (kb k.val) = k.val := by decide +kernel

theorem kb_ne {a b : Nat} (ha : a < 256) (hb : b < 256) (h : a ≠ b) : kb a ≠ kb b := fun e => h (by
  have h1 := unkb_fin ⟨a, ha⟩
  have h2 := unkb_fin ⟨b, hb⟩
  simp only at h1 h2
  rw [← h1, e, h2])

end Go.Proofs.Qxb6000561aDoor
