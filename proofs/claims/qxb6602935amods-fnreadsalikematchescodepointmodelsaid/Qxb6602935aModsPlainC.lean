/- THE PLAIN SIDE of readsAlike: the domain and the model, by places, with fuel. -/
import Derived.Test.Qxb6602935aModsPlainB
namespace Go.Proofs.Qxb6602935aMods

def escD (e : Int) : Bool := decide (e = 34 ∨ e = 92 ∨ e = 47 ∨ e = 98 ∨ e = 102 ∨ e = 110 ∨ e = 114 ∨ e = 116)
def hex4 (zs : List Int) (i : Nat) : Bool := decide (0 ≤ hexv (gat zs (i + 2)) ∧ 0 ≤ hexv (gat zs (i + 3)) ∧ 0 ≤ hexv (gat zs (i + 4)) ∧ 0 ≤ hexv (gat zs (i + 5)))
def stepD (zs : List Int) (i : Nat) : Option Nat :=
  if gat zs i = 92 then
    (if zs.length ≤ i + 1 then none
     else if escD (gat zs (i + 1)) = true then some (i + 2)
     else if gat zs (i + 1) = 117 then (if zs.length < i + 6 then none else if hex4 zs i = true then some (i + 6) else none)
     else none)
  else match decR zs i with
    | none => none
    | some x => some (i + x.2)
def domF (zs : List Int) : Nat → Nat → Bool
  | 0, _ => true
  | f + 1, i => if i < zs.length then (match stepD zs i with | none => false | some j => domF zs f j) else true
def uval (zs : List Int) (i : Nat) : Int := hexv (gat zs (i + 2)) * 4096 + hexv (gat zs (i + 3)) * 256 + hexv (gat zs (i + 4)) * 16 + hexv (gat zs (i + 5))
def modF (zs : List Int) : Nat → Nat → Bool
  | 0, _ => true
  | f + 1, i =>
    if i < zs.length then
      (if gat zs i = 92 then
        (if gat zs (i + 1) = 47 then false
         else if gat zs (i + 1) = 117 then (if 55296 ≤ uval zs i ∧ uval zs i ≤ 57343 then false else modF zs f (i + 6))
         else modF zs f (i + 2))
       else match decR zs i with
        | none => false
        | some x => if refu x.1 = true then false else modF zs f (i + x.2))
    else true

theorem hexv_bounds (c : Int) : -1 ≤ hexv c ∧ hexv c ≤ 15 := by unfold hexv; repeat' split
                                                                all_goals omega

theorem decN_some {zs : List Int} {i nn : Nat} {r0 low r : Int} {s : Nat} (h : decN zs i nn r0 low = some (r, s)) :
    s = nn ∧ i + nn ≤ zs.length ∧ contR zs i r0 (nn - 1) = some r ∧ low ≤ r ∧ r ≤ 1114111 := by
  unfold decN at h
  split at h
  · simp at h
  · cases hc : contR zs i r0 (nn - 1) with
    | none => rw [hc] at h; simp at h
    | some r' =>
      rw [hc] at h
      simp only at h
      split at h
      · simp at h
      · simp at h
        obtain ⟨rfl, rfl⟩ := h
        exact ⟨rfl, by omega, rfl, by omega, by omega⟩

theorem contR_inv {zs : List Int} {i : Nat} {r0 : Int} {m : Nat} {r : Int} (h : contR zs i r0 (m + 1) = some r) :
    ∃ r', contR zs i r0 m = some r' ∧ 128 ≤ gat zs (i + (m + 1)) ∧ gat zs (i + (m + 1)) ≤ 191 ∧ r = r' * 64 + (gat zs (i + (m + 1)) - 128) := by
  unfold contR at h
  cases hm : contR zs i r0 m with
  | none => rw [hm] at h; simp at h
  | some r' =>
    rw [hm] at h
    simp only at h
    split at h
    · rename_i hh
      simp at h
      exact ⟨r', rfl, hh.1, hh.2, h.symm⟩
    · simp at h

/-- What a decoded code point looks like. -/
theorem decR_cases {zs : List Int} {i : Nat} {r : Int} {s : Nat} (_hi : i < zs.length) (h0 : 0 ≤ gat zs i) (h : decR zs i = some (r, s)) :
    (gat zs i < 128 ∧ r = gat zs i ∧ s = 1) ∨
    (194 ≤ gat zs i ∧ gat zs i ≤ 223 ∧ s = 2 ∧ i + 2 ≤ zs.length ∧ 128 ≤ gat zs (i + 1) ∧ gat zs (i + 1) ≤ 191 ∧ r = (gat zs i - 192) * 64 + (gat zs (i + 1) - 128)) ∨
    (224 ≤ gat zs i ∧ gat zs i ≤ 239 ∧ s = 3 ∧ i + 3 ≤ zs.length ∧ 128 ≤ gat zs (i + 1) ∧ gat zs (i + 1) ≤ 191 ∧ 128 ≤ gat zs (i + 2) ∧ gat zs (i + 2) ≤ 191 ∧
      r = ((gat zs i - 224) * 64 + (gat zs (i + 1) - 128)) * 64 + (gat zs (i + 2) - 128) ∧ 2048 ≤ r) ∨
    (240 ≤ gat zs i ∧ gat zs i ≤ 244 ∧ s = 4 ∧ i + 4 ≤ zs.length ∧ 128 ≤ gat zs (i + 1) ∧ gat zs (i + 1) ≤ 191 ∧ 128 ≤ gat zs (i + 2) ∧ gat zs (i + 2) ≤ 191 ∧ 128 ≤ gat zs (i + 3) ∧ gat zs (i + 3) ≤ 191 ∧ 65536 ≤ r) := by
  unfold decR at h
  split at h
  · simp at h; left; omega
  · split at h
    · obtain ⟨hs, hl, hc, hlo, hhi⟩ := decN_some h
      obtain ⟨r1, e1, b1, c1, hr⟩ := contR_inv hc
      simp [contR] at e1
      right; left
      exact ⟨by omega, by omega, hs, hl, b1, c1, by rw [hr, ← e1]; simp only [Nat.zero_add]; omega⟩
    · split at h
      · obtain ⟨hs, hl, hc, hlo, hhi⟩ := decN_some h
        obtain ⟨r1, e1, b1, c1, hr⟩ := contR_inv hc
        obtain ⟨r2, e2, b2, c2, hr2⟩ := contR_inv e1
        simp [contR] at e2
        right; right; left
        change r = r1 * 64 + (gat zs (i + 2) - 128) at hr
        change r1 = r2 * 64 + (gat zs (i + 1) - 128) at hr2
        exact ⟨by omega, by omega, hs, hl, b2, c2, b1, c1, by rw [hr, hr2, ← e2]; omega, hlo⟩
      · split at h
        · obtain ⟨hs, hl, hc, hlo, hhi⟩ := decN_some h
          obtain ⟨r1, e1, b1, c1, hr⟩ := contR_inv hc
          obtain ⟨r2, e2, b2, c2, hr2⟩ := contR_inv e1
          obtain ⟨r3, e3, b3, c3, hr3⟩ := contR_inv e2
          right; right; right
          exact ⟨by omega, by omega, hs, hl, b3, c3, b2, c2, b1, c1, hlo⟩
        · simp at h

theorem decR_size {zs : List Int} {i : Nat} {r : Int} {s : Nat} (hi : i < zs.length) (h0 : 0 ≤ gat zs i) (h : decR zs i = some (r, s)) : 1 ≤ s ∧ s ≤ 4 ∧ i + s ≤ zs.length ∧ 0 ≤ r ∧ r ≤ 1114111 := by
  have hb : r ≤ 1114111 := by
    unfold decR at h
    split at h
    · simp at h; omega
    · split at h
      · exact (decN_some h).2.2.2.2
      · split at h
        · exact (decN_some h).2.2.2.2
        · split at h
          · exact (decN_some h).2.2.2.2
          · simp at h
  rcases decR_cases hi h0 h with h | h | h | h <;> omega

/-! ### one step of the domain -/
theorem dom_no {zs : List Int} {f i : Nat} (hi : i < zs.length) (hf : zs.length - i ≤ f) (h : stepD zs i = none) : domF zs f i = false := by
  obtain ⟨f', rfl⟩ : ∃ f', f = f' + 1 := ⟨f - 1, by omega⟩
  simp [domF, hi, h]
theorem dom_go {zs : List Int} {f i j : Nat} (hi : i < zs.length) (hf : zs.length - i ≤ f) (h : stepD zs i = some j) : domF zs f i = domF zs (f - 1) j := by
  obtain ⟨f', rfl⟩ : ∃ f', f = f' + 1 := ⟨f - 1, by omega⟩
  simp [domF, hi, h]
theorem dom_end {zs : List Int} {f i : Nat} (hi : ¬ i < zs.length) : domF zs f i = true := by
  cases f with
  | zero => rfl
  | succ f => simp [domF, hi]

theorem stepD_cut {zs : List Int} {i : Nat} (h : gat zs i = 92) (h1 : zs.length ≤ i + 1) : stepD zs i = none := by simp [stepD, h, h1]
theorem stepD_esc {zs : List Int} {i : Nat} (h : gat zs i = 92) (h1 : ¬ zs.length ≤ i + 1) (h2 : escD (gat zs (i + 1)) = true) : stepD zs i = some (i + 2) := by
  unfold stepD; rw [if_pos h, if_neg h1, if_pos h2]
theorem stepD_ucut {zs : List Int} {i : Nat} (h : gat zs i = 92) (h2 : gat zs (i + 1) = 117) (h3 : zs.length < i + 6) : stepD zs i = none := by
  have he : ¬ escD (gat zs (i + 1)) = true := by rw [h2]; decide
  by_cases hl : zs.length ≤ i + 1
  · exact stepD_cut h hl
  · unfold stepD; rw [if_pos h, if_neg hl, if_neg he, if_pos h2, if_pos h3]
theorem stepD_uyes {zs : List Int} {i : Nat} (h : gat zs i = 92) (h2 : gat zs (i + 1) = 117) (h3 : ¬ zs.length < i + 6) (h4 : hex4 zs i = true) : stepD zs i = some (i + 6) := by
  have he : ¬ escD (gat zs (i + 1)) = true := by rw [h2]; decide
  have hl : ¬ zs.length ≤ i + 1 := by omega
  unfold stepD; rw [if_pos h, if_neg hl, if_neg he, if_pos h2, if_neg h3, if_pos h4]
theorem stepD_uno {zs : List Int} {i : Nat} (h : gat zs i = 92) (h2 : gat zs (i + 1) = 117) (h3 : ¬ zs.length < i + 6) (h4 : hex4 zs i = false) : stepD zs i = none := by
  have he : ¬ escD (gat zs (i + 1)) = true := by rw [h2]; decide
  have hl : ¬ zs.length ≤ i + 1 := by omega
  unfold stepD; rw [if_pos h, if_neg hl, if_neg he, if_pos h2, if_neg h3, if_neg (by simp [h4])]
theorem stepD_other {zs : List Int} {i : Nat} (h : gat zs i = 92) (h1 : ¬ zs.length ≤ i + 1) (h2 : escD (gat zs (i + 1)) = false) (h3 : ¬ gat zs (i + 1) = 117) : stepD zs i = none := by
  unfold stepD; rw [if_pos h, if_neg h1, if_neg (by simp [h2]), if_neg h3]
theorem stepD_none {zs : List Int} {i : Nat} (h : ¬ gat zs i = 92) (h1 : decR zs i = none) : stepD zs i = none := by
  unfold stepD; rw [if_neg h, h1]
theorem stepD_some {zs : List Int} {i : Nat} {r : Int} {s : Nat} (h : ¬ gat zs i = 92) (h1 : decR zs i = some (r, s)) : stepD zs i = some (i + s) := by
  unfold stepD; rw [if_neg h, h1]

theorem hex4_no {zs : List Int} {i m : Nat} (hm : m < 4) (h : hexv (gat zs (i + 2 + m)) < 0) : hex4 zs i = false := by
  unfold hex4
  rw [decide_eq_false_iff_not]
  intro hh
  have hm' : m = 0 ∨ m = 1 ∨ m = 2 ∨ m = 3 := by omega
  rcases hm' with rfl | rfl | rfl | rfl
  · have := hh.1; exact absurd h (by show ¬ hexv (gat zs (i + 2)) < 0; omega)
  · have := hh.2.1; exact absurd h (by show ¬ hexv (gat zs (i + 3)) < 0; omega)
  · have := hh.2.2.1; exact absurd h (by show ¬ hexv (gat zs (i + 4)) < 0; omega)
  · have := hh.2.2.2; exact absurd h (by show ¬ hexv (gat zs (i + 5)) < 0; omega)
theorem hex4_yes {zs : List Int} {i : Nat} (h : ∀ j, j < 4 → 0 ≤ hexv (gat zs (i + 2 + j))) : hex4 zs i = true := by
  unfold hex4; rw [decide_eq_true_iff]; exact ⟨h 0 (by omega), h 1 (by omega), h 2 (by omega), h 3 (by omega)⟩
theorem hex4_out {zs : List Int} {i : Nat} (h : hex4 zs i = true) : 0 ≤ hexv (gat zs (i + 2)) ∧ 0 ≤ hexv (gat zs (i + 3)) ∧ 0 ≤ hexv (gat zs (i + 4)) ∧ 0 ≤ hexv (gat zs (i + 5)) := by
  unfold hex4 at h
  rw [decide_eq_true_iff] at h
  exact h

/-! ### what the domain says at a place, and one step of the model -/
theorem dom_inv {zs : List Int} {f i : Nat} (hi : i < zs.length) (hf : zs.length - i ≤ f) (h : domF zs f i = true) : ∃ j, stepD zs i = some j ∧ domF zs (f - 1) j = true := by
  cases hs : stepD zs i with
  | none => rw [dom_no hi hf hs] at h; cases h
  | some j => rw [dom_go hi hf hs] at h; exact ⟨j, rfl, h⟩

/-- The step is an escape of two, an escape of six, or a code point. -/
theorem stepD_inv {zs : List Int} {i j : Nat} (h : stepD zs i = some j) :
    (gat zs i = 92 ∧ i + 2 ≤ zs.length ∧ escD (gat zs (i + 1)) = true ∧ j = i + 2) ∨
    (gat zs i = 92 ∧ gat zs (i + 1) = 117 ∧ i + 6 ≤ zs.length ∧ hex4 zs i = true ∧ j = i + 6) ∨
    (¬ gat zs i = 92 ∧ ∃ r s, decR zs i = some (r, s) ∧ j = i + s) := by
  unfold stepD at h
  split at h
  · rename_i h92
    split at h
    · simp at h
    · split at h
      · simp at h; left; exact ⟨h92, by omega, by assumption, h.symm⟩
      · split at h
        · split at h
          · simp at h
          · split at h
            · simp at h; right; left; exact ⟨h92, by assumption, by omega, by assumption, h.symm⟩
            · simp at h
        · simp at h
  · cases hd : decR zs i with
    | none => rw [hd] at h; simp at h
    | some x =>
      rw [hd] at h
      simp at h
      right; right
      exact ⟨by assumption, x.1, x.2, rfl, h.symm⟩

theorem mod_end {zs : List Int} {f i : Nat} (hi : ¬ i < zs.length) : modF zs f i = true := by
  cases f with
  | zero => rfl
  | succ f => simp [modF, hi]
theorem mod_slash {zs : List Int} {f i : Nat} (hi : i < zs.length) (hf : zs.length - i ≤ f) (h : gat zs i = 92) (h1 : gat zs (i + 1) = 47) : modF zs f i = false := by
  obtain ⟨f', rfl⟩ : ∃ f', f = f' + 1 := ⟨f - 1, by omega⟩
  simp [modF, hi, h, h1]
theorem mod_sur {zs : List Int} {f i : Nat} (hi : i < zs.length) (hf : zs.length - i ≤ f) (h : gat zs i = 92) (h1 : gat zs (i + 1) = 117) (h2 : 55296 ≤ uval zs i ∧ uval zs i ≤ 57343) : modF zs f i = false := by
  obtain ⟨f', rfl⟩ : ∃ f', f = f' + 1 := ⟨f - 1, by omega⟩
  simp [modF, hi, h, h1, h2]
theorem mod_u {zs : List Int} {f i : Nat} (hi : i < zs.length) (hf : zs.length - i ≤ f) (h : gat zs i = 92) (h1 : gat zs (i + 1) = 117) (h2 : ¬ (55296 ≤ uval zs i ∧ uval zs i ≤ 57343)) : modF zs f i = modF zs (f - 1) (i + 6) := by
  obtain ⟨f', rfl⟩ : ∃ f', f = f' + 1 := ⟨f - 1, by omega⟩
  rw [modF, if_pos hi, if_pos h, if_neg (by rw [h1]; decide), if_pos h1, if_neg h2]; rfl
theorem mod_e {zs : List Int} {f i : Nat} (hi : i < zs.length) (hf : zs.length - i ≤ f) (h : gat zs i = 92) (h1 : ¬ gat zs (i + 1) = 47) (h2 : ¬ gat zs (i + 1) = 117) : modF zs f i = modF zs (f - 1) (i + 2) := by
  obtain ⟨f', rfl⟩ : ∃ f', f = f' + 1 := ⟨f - 1, by omega⟩
  rw [modF, if_pos hi, if_pos h, if_neg h1, if_neg h2]; rfl
theorem mod_refu {zs : List Int} {f i : Nat} {r : Int} {s : Nat} (hi : i < zs.length) (hf : zs.length - i ≤ f) (h : ¬ gat zs i = 92) (hd : decR zs i = some (r, s)) (hr : refu r = true) : modF zs f i = false := by
  obtain ⟨f', rfl⟩ : ∃ f', f = f' + 1 := ⟨f - 1, by omega⟩
  rw [modF, if_pos hi, if_neg h, hd]; simp [hr]
theorem mod_c {zs : List Int} {f i : Nat} {r : Int} {s : Nat} (hi : i < zs.length) (hf : zs.length - i ≤ f) (h : ¬ gat zs i = 92) (hd : decR zs i = some (r, s)) (hr : refu r = false) : modF zs f i = modF zs (f - 1) (i + s) := by
  obtain ⟨f', rfl⟩ : ∃ f', f = f' + 1 := ⟨f - 1, by omega⟩
  rw [modF, if_pos hi, if_neg h, hd]; simp [hr]

end Go.Proofs.Qxb6602935aMods
