import Derived.Test.Qxb6603348aModsRows
import Derived.Test.Qxb6603348aModsPlainB
import Derived.Laws.RangeAny
import Derived.WalkKit
import Derived.WalkSpells
import Derived.WalkLawsBesides
namespace Go.Proofs.Qxb6603348aMods
open Go.RowKit

theorem next_wd (w : World) (s : ByteArray) (pos : Nat) (ty : TypeId) (h : pos < s.size) :
    (Instr.next (.pointer (some ⟨w.heap.size, 0, none⟩)) true ty).run Trym.prog (w.iter s pos) = .ok (.tuple #[.bool true, .int .i64 pos, .int .i32 (Utf8.decode s pos).1]) (w.iter s (pos + wd s pos)) := by
  rw [run_next_any w s pos ty h, wd_is]

/-- firstCharacters, n negative -/
theorem first_neg (s : ByteArray) (n : Int) (w : World) (hs : s.size ≤ 1048576) (hn : n < 0) :
    Calls Trym.prog 27 #[.string s, .int .i64 n] w fun e w' => e = .returned (.tuple #[.string s, .bool false]) ∧ ∃ p, w' = w.iter s p := by
  go_enter Trym.func27, Trym.ntmps27
  go_wp2
  go_loopw [6, 7] (fun c i wr => ∃ pos cnt : Nat, cnt ≤ pos ∧ pos ≤ s.size ∧ c = .int .i64 cnt ∧ wr = w.iter s pos) (fun _ _ wr => s.size - wr.iterPos w.heap.size)
  case atStart => exact ⟨0, 0, Nat.le_refl _, Nat.zero_le _, rfl, rfl⟩
  case round =>
    obtain ⟨pos, cnt, hc, hp, rfl, rfl⟩ := hrel
    by_cases hlt : pos < s.size
    · have hnx := fun ty => next_wd w s pos ty hlt
      have hw := wd_bounds s pos hlt
      have hne : ((cnt : Int) == n) = false := beq_eq_false_iff_ne.2 (by omega)
      go_wp2
      go_roundw
      case rel => exact ⟨pos + wd s pos, cnt + 1, by omega, by omega, by go_num, rfl⟩
      case measure => simp; omega
    · have hnx := fun ty => run_next_end (P := Trym.prog) w s pos ty hlt
      go_wp2
      go_ret2
      exact ⟨rfl, _, rfl⟩

/-- What the loop over the characters holds: cnt characters lie behind, the place is pos. -/
def At (s : ByteArray) (N pos cnt : Nat) : Prop := cnt ≤ N ∧ ∃ f, s.size - pos ≤ f ∧ offF s f pos (N - cnt) = fc s N
theorem at_zero (s : ByteArray) (N : Nat) : At s N 0 0 := ⟨Nat.zero_le _, s.size, by omega, rfl⟩
theorem at_hit {s : ByteArray} {N pos cnt : Nat} (h : At s N pos cnt) (hp : pos < s.size) (hc : cnt = N) : fc s N = some pos := by
  obtain ⟨_, f, hf, ho⟩ := h
  rw [← ho, hc, Nat.sub_self, off_here hp hf]
theorem at_next {s : ByteArray} {N pos cnt : Nat} (h : At s N pos cnt) (hp : pos < s.size) (hc : cnt ≠ N) : At s N (pos + wd s pos) (cnt + 1) := by
  obtain ⟨hle, f, hf, ho⟩ := h
  have hw := wd_bounds s pos hp
  refine ⟨by omega, f - 1, by omega, ?_⟩
  rw [← ho, off_go hp hf (by omega), show N - cnt - 1 = N - (cnt + 1) by omega]
theorem at_end {s : ByteArray} {N pos cnt : Nat} (h : At s N pos cnt) (hp : ¬ pos < s.size) : fc s N = none := by
  obtain ⟨_, f, hf, ho⟩ := h
  rw [← ho, off_end hp]

/-- What firstCharacters answers. -/
def fcE (s : ByteArray) : Option Nat → Ending
  | none => .returned (.tuple #[.string s, .bool false])
  | some o => .returned (.tuple #[.string (s.extract 0 o), .bool true])
theorem fcE_none {s : ByteArray} {x : Option Nat} (h : x = none) : Ending.returned (.tuple #[.string s, .bool false]) = fcE s x := by rw [h]; rfl
theorem fcE_some {s : ByteArray} {x : Option Nat} {o : Nat} (h : x = some o) : Ending.returned (.tuple #[.string (s.extract 0 o), .bool true]) = fcE s x := by rw [h]; rfl

/-- firstCharacters, n not negative -/
theorem first_nat (s : ByteArray) (N : Nat) (w : World) (hs : s.size ≤ 1048576) (_hN : N ≤ 9223372036854775807) :
    Calls Trym.prog 27 #[.string s, .int .i64 N] w fun e w' => e = fcE s (fc s N) ∧ ∃ p, w' = w.iter s p := by
  go_enter Trym.func27, Trym.ntmps27
  go_wp2
  go_loopw [6, 7] (fun c i wr => ∃ pos cnt : Nat, cnt ≤ pos ∧ pos ≤ s.size ∧ c = .int .i64 cnt ∧ wr = w.iter s pos ∧ Hid (At s N pos cnt)) (fun _ _ wr => s.size - wr.iterPos w.heap.size)
  case atStart => exact ⟨0, 0, Nat.le_refl _, Nat.zero_le _, rfl, rfl, at_zero s N⟩
  case round =>
    obtain ⟨pos, cnt, hc, hp, rfl, rfl, HA⟩ := hrel
    by_cases hlt : pos < s.size
    · have hnx := fun ty => next_wd w s pos ty hlt
      have hw := wd_bounds s pos hlt
      by_cases he : cnt = N
      · have HH : Hid (fc s N = some pos) := at_hit HA.out hlt he
        have hne : ((cnt : Int) == (N : Int)) = true := by rw [beq_iff_eq]; omega
        clear he HA
        go_wp2
        go_ret2
        exact ⟨fcE_some HH.out, _, rfl⟩
      · have HH : Hid (At s N (pos + wd s pos) (cnt + 1)) := at_next HA.out hlt he
        have hne : ((cnt : Int) == (N : Int)) = false := beq_eq_false_iff_ne.2 (by omega)
        clear he HA
        go_wp2
        go_roundw
        case rel => exact ⟨pos + wd s pos, cnt + 1, by omega, by omega, by go_num, rfl, HH⟩
        case measure => simp; omega
    · have hnx := fun ty => run_next_end (P := Trym.prog) w s pos ty hlt
      have HH : Hid (fc s N = none) := at_end HA.out hlt
      clear HA
      go_wp2
      go_ret2
      exact ⟨fcE_none HH.out, _, rfl⟩

/-- zzHasPrefix, where it is one -/
theorem prefix_yes (s p : ByteArray) (w : World) (h1 : p.size ≤ s.size) (h2 : ((s.extract 0 p.size).toList == p.toList) = true) :
    Calls Trym.prog 14 #[.string s, .string p] w fun e w' => e = .returned (.bool true) ∧ w' = w := by
  go_enter Trym.func14, Trym.ntmps14
  go_wp2
  go_ret
  exact ⟨rfl, rfl⟩

end Go.Proofs.Qxb6603348aMods
