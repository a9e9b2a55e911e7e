/- THE PLAIN SIDE of readsAlike. -/
import Derived.Test.Qxb6602935aModsPlain
namespace Go.Proofs.Qxb6602935aMods

def hexv (c : Int) : Int := if 48 ≤ c ∧ c ≤ 57 then c - 48 else if 97 ≤ c ∧ c ≤ 102 then c - 87 else if 65 ≤ c ∧ c ≤ 70 then c - 55 else -1

def refu (r : Int) : Bool := decide (r = 127 ∨ (128 ≤ r ∧ r ≤ 159) ∨ r = 8232 ∨ r = 8233 ∨ r = 65534 ∨ r = 65535)

def contR (zs : List Int) (i : Nat) (r0 : Int) : Nat → Option Int
  | 0 => some r0
  | m + 1 => match contR zs i r0 m with
    | none => none
    | some r => if 128 ≤ gat zs (i + (m + 1)) ∧ gat zs (i + (m + 1)) ≤ 191 then some (r * 64 + (gat zs (i + (m + 1)) - 128)) else none


def decN (zs : List Int) (i nn : Nat) (r0 low : Int) : Option (Int × Nat) :=
  if zs.length < i + nn then none else match contR zs i r0 (nn - 1) with
    | none => none
    | some r => if r < low ∨ 1114111 < r ∨ (55296 ≤ r ∧ r ≤ 57343) then none else some (r, nn)

def decR (zs : List Int) (i : Nat) : Option (Int × Nat) :=
  if gat zs i < 128 then some (gat zs i, 1)
  else if 194 ≤ gat zs i ∧ gat zs i ≤ 223 then decN zs i 2 (gat zs i % 32) 128
  else if 224 ≤ gat zs i ∧ gat zs i ≤ 239 then decN zs i 3 (gat zs i % 16) 2048
  else if 240 ≤ gat zs i ∧ gat zs i ≤ 244 then decN zs i 4 (gat zs i % 8) 65536
  else none

theorem contR_bound (zs : List Int) (i : Nat) (r0 : Int) (h0 : 0 ≤ r0) (h1 : r0 ≤ 31) : ∀ m r, contR zs i r0 m = some r → 0 ≤ r ∧ r < 32 * 64 ^ m := by
  intro m
  induction m with
  | zero => intro r h; simp [contR] at h; omega
  | succ m ih =>
    intro r h
    unfold contR at h
    cases hm : contR zs i r0 m with
    | none => rw [hm] at h; simp at h
    | some r' =>
      have := ih r' hm
      rw [hm] at h
      simp only at h
      split at h
      · simp at h
        have e : (32 : Int) * 64 ^ (m + 1) = 64 * (32 * 64 ^ m) := by rw [Int.pow_succ]; omega
        omega
      · simp at h

theorem contR_small {zs : List Int} {i : Nat} {r0 : Int} (h0 : 0 ≤ r0) (h1 : r0 ≤ 31) {m : Nat} {r : Int} (hm : m ≤ 3) (h : contR zs i r0 m = some r) : 0 ≤ r ∧ r ≤ 8388607 := by
  have hb := contR_bound zs i r0 h0 h1 m r h
  have hm' : m = 0 ∨ m = 1 ∨ m = 2 ∨ m = 3 := by omega
  rcases hm' with rfl | rfl | rfl | rfl <;> omega

theorem contR_yes {zs : List Int} {i : Nat} {r0 : Int} {m : Nat} {r : Int} (h : contR zs i r0 m = some r) (h1 : 128 ≤ gat zs (i + (m + 1))) (h2 : gat zs (i + (m + 1)) ≤ 191) :
    contR zs i r0 (m + 1) = some (r * 64 + (gat zs (i + (m + 1)) - 128)) := by
  simp [contR, h, h1, h2]

theorem contR_no {zs : List Int} {i : Nat} {r0 : Int} {m : Nat} (h1 : ¬ (128 ≤ gat zs (i + (m + 1)) ∧ gat zs (i + (m + 1)) ≤ 191)) : ∀ d, contR zs i r0 (m + 1 + d) = none := by
  intro d
  induction d with
  | zero =>
    show contR zs i r0 (m + 1) = none
    unfold contR
    cases contR zs i r0 m with
    | none => rfl
    | some r => simp only; rw [if_neg h1]
  | succ d ih =>
    show contR zs i r0 ((m + 1 + d) + 1) = none
    unfold contR
    rw [ih]

theorem decN_cut {zs : List Int} {i nn : Nat} {r0 low : Int} (h : zs.length < i + nn) : decN zs i nn r0 low = none := by unfold decN; rw [if_pos h]
theorem decN_no {zs : List Int} {i nn : Nat} {r0 low : Int} (hf : i + nn ≤ zs.length) {m : Nat} (hm : m + 1 < nn) (h1 : ¬ (128 ≤ gat zs (i + (m + 1)) ∧ gat zs (i + (m + 1)) ≤ 191)) : decN zs i nn r0 low = none := by
  unfold decN
  have h := contR_no (r0 := r0) h1 (nn - 1 - (m + 1))
  rw [show m + 1 + (nn - 1 - (m + 1)) = nn - 1 by omega] at h
  rw [if_neg (by omega), h]
theorem decN_bad {zs : List Int} {i nn : Nat} {r0 low r : Int} (hf : i + nn ≤ zs.length) (h : contR zs i r0 (nn - 1) = some r) (hb : r < low ∨ 1114111 < r ∨ (55296 ≤ r ∧ r ≤ 57343)) : decN zs i nn r0 low = none := by
  unfold decN; rw [if_neg (by omega), h]; simp only; rw [if_pos hb]
theorem decN_good {zs : List Int} {i nn : Nat} {r0 low r : Int} (hf : i + nn ≤ zs.length) (h : contR zs i r0 (nn - 1) = some r) (hb : ¬ (r < low ∨ 1114111 < r ∨ (55296 ≤ r ∧ r ≤ 57343))) : decN zs i nn r0 low = some (r, nn) := by
  unfold decN; rw [if_neg (by omega), h]; simp only; rw [if_neg hb]

end Go.Proofs.Qxb6602935aMods
