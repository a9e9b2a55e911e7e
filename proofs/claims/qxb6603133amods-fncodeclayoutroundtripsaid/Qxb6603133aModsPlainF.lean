/- THE PLAIN SIDE of the round trip: a list of byte lists. -/
import Derived.Test.Qxb6603133aModsPlain
namespace Go.Proofs.Qxb6603133aMods

/-- The field at place i ([] beyond the end). -/
def fat (fs : List (List Int)) (i : Nat) : List Int := fs.getD i []
/-- The first k fields, one behind the other. -/
def cat (fs : List (List Int)) : Nat → List Int
  | 0 => []
  | k + 1 => cat fs k ++ fat fs k
/-- How long they are. -/
def clen (fs : List (List Int)) (k : Nat) : Nat := (cat fs k).length

theorem clen_zero (fs : List (List Int)) : clen fs 0 = 0 := rfl
theorem clen_succ (fs : List (List Int)) (k : Nat) : clen fs (k + 1) = clen fs k + (fat fs k).length := by simp [clen, cat]
theorem clen_mono (fs : List (List Int)) (k d : Nat) : clen fs k ≤ clen fs (k + d) := by
  induction d with
  | zero => exact Nat.le_refl _
  | succ d ih => rw [← Nat.add_assoc, clen_succ]; omega
theorem cat_pre (fs : List (List Int)) (k d : Nat) : ∃ r, cat fs (k + d) = cat fs k ++ r := by
  induction d with
  | zero => exact ⟨[], by simp⟩
  | succ d ih =>
    obtain ⟨r, hr⟩ := ih
    exact ⟨r ++ fat fs (k + d), by rw [← Nat.add_assoc, cat, hr, List.append_assoc]⟩

/-- The k-th field lies where decoding looks for it. -/
theorem cat_at (fs : List (List Int)) (t : List Int) (k m : Nat) (h : k < m) : ((cat fs m ++ t).drop (clen fs k)).take (fat fs k).length = fat fs k := by
  obtain ⟨r, hr⟩ := cat_pre fs (k + 1) (m - (k + 1))
  rw [show k + 1 + (m - (k + 1)) = m by omega] at hr
  rw [hr, cat, List.append_assoc, List.append_assoc, clen, List.drop_left]
  simp
theorem cat_end (fs : List (List Int)) (t : List Int) (m : Nat) : (cat fs m ++ t).drop (clen fs m) = t := by
  rw [clen, List.drop_left]

/-- What the law adds up. -/
def tot (fs : List (List Int)) (k : Nat) : Nat := 24 * k + clen fs k
theorem tot_succ (fs : List (List Int)) (k : Nat) : tot fs (k + 1) = tot fs k + (24 + (fat fs k).length) := by unfold tot; rw [clen_succ]; omega

end Go.Proofs.Qxb6603133aMods
