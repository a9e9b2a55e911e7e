/- THE PLAIN LAW: the automaton and the reader by places accept the same texts. -/
import Derived.Test.Qxb6602935aModsPlain
namespace Go.Proofs.Qxb6602935aMods

theorem au_end (st : Int) (zs : List Int) (i : Nat) (h : i = zs.length) : auto st (zs.drop i) = accst st := by
  rw [h, List.drop_length]; rfl
theorem au_go (st : Int) (zs : List Int) (i : Nat) (h : i < zs.length) : auto st (zs.drop i) = if nstep st (gat zs i) < 0 then false else auto (nstep st (gat zs i)) (zs.drop (i + 1)) := by
  rw [drop_gat zs i h]; rfl
theorem dig_iff (c : Int) : dig c = true ↔ 48 ≤ c ∧ c ≤ 57 := by simp [dig]

theorem A8 (zs : List Int) : ∀ m i, zs.length - i = m → i ≤ zs.length → auto 8 (zs.drop i) = decide (pd zs i = zs.length) := by
  intro m
  induction m with
  | zero =>
    intro i hm hi
    have he : i = zs.length := by omega
    rw [au_end 8 zs i he, pd_end zs i he]; simp [accst, he]
  | succ m ih =>
    intro i hm hi
    have hlt : i < zs.length := by omega
    rw [au_go 8 zs i hlt]
    cases hd : dig (gat zs i)
    · rw [pd_stop zs i hlt hd]; simp [nstep, hd]; omega
    · rw [pd_step zs i hlt hd, ← ih (i + 1) (by omega) (by omega)]; simp [nstep, hd]

theorem pd_gt {zs : List Int} {i : Nat} (hlt : i < zs.length) (hd : dig (gat zs i) = true) : ¬ pd zs i = i := by
  rw [pd_step zs i hlt hd]
  have := pd_bounds zs (i + 1) (by omega)
  omega

theorem A7 (zs : List Int) (i : Nat) (hi : i ≤ zs.length) : auto 7 (zs.drop i) = if pd zs i = i then false else decide (pd zs i = zs.length) := by
  by_cases hlt : i < zs.length
  · rw [au_go 7 zs i hlt]
    cases hd : dig (gat zs i)
    · rw [pd_stop zs i hlt hd]; simp [nstep, hd]
    · rw [if_neg (pd_gt hlt hd), pd_step zs i hlt hd, ← A8 zs _ (i + 1) rfl (by omega)]; simp [nstep, hd]
  · have he : i = zs.length := by omega
    rw [au_end 7 zs i he, pd_end zs i he]; simp [accst]

theorem A6 (zs : List Int) (i : Nat) (hi : i ≤ zs.length) : auto 6 (zs.drop i) = if pd zs (signP zs i) = signP zs i then false else decide (pd zs (signP zs i) = zs.length) := by
  by_cases hlt : i < zs.length
  · rw [au_go 6 zs i hlt]
    by_cases hs : gat zs i = 43 ∨ gat zs i = 45
    · have : signP zs i = i + 1 := by unfold signP; rw [if_pos ⟨hlt, hs⟩]
      rw [this, ← A7 zs (i + 1) (by omega)]; simp [nstep, hs]
    · have : signP zs i = i := by unfold signP; rw [if_neg (fun h => hs h.2)]
      rw [this, ← A7 zs i hi, au_go 7 zs i hlt]
      simp [nstep, hs]
  · have he : i = zs.length := by omega
    have : signP zs i = i := by unfold signP; rw [if_neg (by omega)]
    rw [this, au_end 6 zs i he, pd_end zs i he]; simp [accst]

/-- What may follow the digits of a fraction. -/
theorem exp_at (zs : List Int) (i : Nat) (hlt : i < zs.length) : expP zs i = if gat zs i = 101 ∨ gat zs i = 69 then auto 6 (zs.drop (i + 1)) else false := by
  unfold expP
  by_cases h : gat zs i = 101 ∨ gat zs i = 69
  · rw [if_pos ⟨hlt, h⟩, if_pos h, A6 zs (i + 1) (by omega)]
  · rw [if_neg (fun h' => h h'.2), if_neg h]; simp; omega
theorem exp_end (zs : List Int) (i : Nat) (h : i = zs.length) : expP zs i = true := exp_far (by omega) (by omega)

theorem A5 (zs : List Int) : ∀ m i, zs.length - i = m → i ≤ zs.length → auto 5 (zs.drop i) = expP zs (pd zs i) := by
  intro m
  induction m with
  | zero =>
    intro i hm hi
    have he : i = zs.length := by omega
    rw [au_end 5 zs i he, pd_end zs i he, exp_end zs i he]; simp [accst]
  | succ m ih =>
    intro i hm hi
    have hlt : i < zs.length := by omega
    rw [au_go 5 zs i hlt]
    cases hd : dig (gat zs i)
    · rw [pd_stop zs i hlt hd, exp_at zs i hlt]
      by_cases h : gat zs i = 101 ∨ gat zs i = 69 <;> simp [nstep, hd, h]
    · rw [pd_step zs i hlt hd, ← ih (i + 1) (by omega) (by omega)]; simp [nstep, hd]

theorem A4 (zs : List Int) (i : Nat) (hi : i ≤ zs.length) : auto 4 (zs.drop i) = if pd zs i = i then false else expP zs (pd zs i) := by
  by_cases hlt : i < zs.length
  · rw [au_go 4 zs i hlt]
    cases hd : dig (gat zs i)
    · rw [pd_stop zs i hlt hd]; simp [nstep, hd]
    · rw [if_neg (pd_gt hlt hd), pd_step zs i hlt hd, ← A5 zs _ (i + 1) rfl (by omega)]; simp [nstep, hd]
  · have he : i = zs.length := by omega
    rw [au_end 4 zs i he, pd_end zs i he]; simp [accst]

theorem tail_at (zs : List Int) (i : Nat) (hlt : i < zs.length) : tailP zs i = if gat zs i = 46 then auto 4 (zs.drop (i + 1)) else expP zs i := by
  unfold tailP fracP
  by_cases h : gat zs i = 46
  · rw [if_pos ⟨hlt, h⟩, if_pos h, A4 zs (i + 1) (by omega)]
    by_cases h2 : pd zs (i + 1) = i + 1 <;> simp [h2]
  · rw [if_neg (fun h' => h h'.2), if_neg h]
theorem tail_end (zs : List Int) (i : Nat) (h : i = zs.length) : tailP zs i = true := by
  unfold tailP fracP
  rw [if_neg (by omega)]
  exact exp_end zs i h

theorem A2 (zs : List Int) (i : Nat) (hi : i ≤ zs.length) : auto 2 (zs.drop i) = tailP zs i := by
  by_cases hlt : i < zs.length
  · rw [au_go 2 zs i hlt, tail_at zs i hlt, exp_at zs i hlt]
    by_cases h : gat zs i = 46
    · simp [nstep, h]
    · by_cases h2 : gat zs i = 101 ∨ gat zs i = 69 <;> simp [nstep, h, h2]
  · have he : i = zs.length := by omega
    rw [au_end 2 zs i he, tail_end zs i he]; simp [accst]

theorem A3 (zs : List Int) : ∀ m i, zs.length - i = m → i ≤ zs.length → auto 3 (zs.drop i) = tailP zs (pd zs i) := by
  intro m
  induction m with
  | zero =>
    intro i hm hi
    have he : i = zs.length := by omega
    rw [au_end 3 zs i he, pd_end zs i he, tail_end zs i he]; simp [accst]
  | succ m ih =>
    intro i hm hi
    have hlt : i < zs.length := by omega
    rw [au_go 3 zs i hlt]
    cases hd : dig (gat zs i)
    · rw [pd_stop zs i hlt hd, tail_at zs i hlt, exp_at zs i hlt]
      by_cases h : gat zs i = 46
      · simp [nstep, h, show dig 46 = false from rfl]
      · by_cases h2 : gat zs i = 101 ∨ gat zs i = 69 <;> simp [nstep, hd, h, h2]
    · rw [pd_step zs i hlt hd, ← ih (i + 1) (by omega) (by omega)]; simp [nstep, hd]

/-- From the integer part on. -/
def fromInt (zs : List Int) (i : Nat) : Bool := match intP zs i with | none => false | some p => tailP zs p
theorem atom_from (zs : List Int) : atomP zs = fromInt zs (i0Of zs) := rfl
theorem from_none {zs : List Int} {i : Nat} (h : intP zs i = none) : fromInt zs i = false := by simp [fromInt, h]
theorem from_some {zs : List Int} {i p : Nat} (h : intP zs i = some p) : fromInt zs i = tailP zs p := by simp [fromInt, h]

theorem A1 (zs : List Int) (i : Nat) (hi : i ≤ zs.length) : auto 1 (zs.drop i) = fromInt zs i := by
  by_cases hlt : i < zs.length
  · rw [au_go 1 zs i hlt]
    by_cases h : gat zs i = 48
    · have hI : intP zs i = some (i + 1) := by unfold intP; rw [if_pos ⟨hlt, h⟩]
      rw [from_some hI, ← A2 zs (i + 1) (by omega)]; simp [nstep, h]
    · by_cases h2 : 49 ≤ gat zs i ∧ gat zs i ≤ 57
      · have hd : dig (gat zs i) = true := by rw [dig_iff]; omega
        have hI : intP zs i = some (pd zs i) := by unfold intP; rw [if_neg (fun h' => h h'.2), if_pos ⟨hlt, h2⟩]
        rw [from_some hI, pd_step zs i hlt hd, ← A3 zs _ (i + 1) rfl (by omega)]; simp [nstep, h, hd]
      · have hd : dig (gat zs i) = false := by rw [← Bool.not_eq_true, dig_iff]; omega
        have hI : intP zs i = none := by unfold intP; rw [if_neg (fun h' => h h'.2), if_neg (fun h' => h2 h'.2)]
        rw [from_none hI]; simp [nstep, h, hd]
  · have he : i = zs.length := by omega
    have hI : intP zs i = none := by unfold intP; rw [if_neg (by omega), if_neg (by omega)]
    rw [au_end 1 zs i he, from_none hI]; simp [accst]

theorem atom_auto (zs : List Int) : atomP zs = auto 0 zs := by
  have h0 : auto 0 zs = auto 0 (zs.drop 0) := by rw [List.drop_zero]
  rw [h0, atom_from]
  by_cases hlt : 0 < zs.length
  · rw [au_go 0 zs 0 hlt]
    by_cases h : gat zs 0 = 45
    · have : i0Of zs = 1 := by unfold i0Of; rw [if_pos ⟨hlt, h⟩]
      rw [this, ← A1 zs 1 (by omega)]; simp [nstep, h]
    · have : i0Of zs = 0 := by unfold i0Of; rw [if_neg (fun h' => h h'.2)]
      rw [this, ← A1 zs 0 (by omega), au_go 1 zs 0 hlt]
      simp [nstep, h]
  · have : i0Of zs = 0 := by unfold i0Of; rw [if_neg (by omega)]
    rw [this, ← A1 zs 0 (by omega), au_end 1 zs 0 (by omega), au_end 0 zs 0 (by omega)]; simp [accst]

end Go.Proofs.Qxb6602935aMods
