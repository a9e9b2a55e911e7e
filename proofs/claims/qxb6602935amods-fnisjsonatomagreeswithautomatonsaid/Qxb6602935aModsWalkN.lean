import Derived.Test.Qxb6602935aModsRows
import Derived.Test.Qxb6602935aModsPlain
import Derived.WalkKit
import Derived.WalkSpells
import Derived.WalkLawsBesides
import Derived.BigQuiet
import Derived.Deep.QuietTactic
namespace Go.Proofs.Qxb6602935aMods
open Go.RowKit

theorem ret_int' {k : IntKind} {a b : Int} (h : a = b) : Ending.returned (.int k a) = .returned (.int k b) := by rw [h]

/-- What kinds of byte the automaton tells apart. -/
theorem kinds (c : Int) : c = 45 ∨ c = 48 ∨ c = 46 ∨ c = 101 ∨ c = 69 ∨ c = 43 ∨ (49 ≤ c ∧ c ≤ 57) ∨
    (c ≠ 45 ∧ c ≠ 46 ∧ c ≠ 101 ∧ c ≠ 69 ∧ c ≠ 43 ∧ c < 48) ∨ (c ≠ 45 ∧ c ≠ 46 ∧ c ≠ 101 ∧ c ≠ 69 ∧ c ≠ 43 ∧ 57 < c) := by omega

set_option maxHeartbeats 2000000 in
/-- numberStep_b1 -/
theorem nstep_any (st c : Int) (w : World) (h0 : 0 ≤ st) (h8 : st ≤ 8) (hc0 : 0 ≤ c) (hc1 : c ≤ 255) :
    Calls Trym.prog 22 #[.int .i64 st, .int .u8 c] w fun e w' => e = .returned (.int .i64 (nstep st c)) ∧ w' = w := by
  have hst : st = 0 ∨ st = 1 ∨ st = 2 ∨ st = 3 ∨ st = 4 ∨ st = 5 ∨ st = 6 ∨ st = 7 ∨ st = 8 := by omega
  rcases hst with rfl | rfl | rfl | rfl | rfl | rfl | rfl | rfl | rfl
  all_goals rcases kinds c with rfl | rfl | rfl | rfl | rfl | rfl | ⟨h1, h2⟩ | ⟨k1, k2, k3, k4, k5, k6⟩ | ⟨k1, k2, k3, k4, k5, k6⟩
  all_goals first
    | (have e1 : (c == 45) = false := beq_eq_false_iff_ne.2 (by omega)
       have e2 : (c == 48) = false := beq_eq_false_iff_ne.2 (by omega)
       have e3 : (c == 46) = false := beq_eq_false_iff_ne.2 (by omega)
       have e4 : (c == 101) = false := beq_eq_false_iff_ne.2 (by omega)
       have e5 : (c == 69) = false := beq_eq_false_iff_ne.2 (by omega)
       have e6 : (c == 43) = false := beq_eq_false_iff_ne.2 (by omega))
    | skip
  all_goals
    go_enter Trym.func22, Trym.ntmps22
    go_wp2
    go_ret
    exact ⟨ret_int' (by simp [nstep, dig]; try omega), rfl⟩

end Go.Proofs.Qxb6602935aMods
