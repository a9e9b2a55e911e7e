import Derived.Test.Qxb6603133aModsRows
import Derived.WalkKit
import Derived.WalkSpells
import Derived.WalkLawsBesides
import Derived.BigQuiet
import Derived.Deep.QuietTactic
import Derived.Laws.CopyOwn
namespace Go.Proofs.Qxb6603133aMods
open Go.RowKit

theorem new_any (mode : Int) (a : Option Addr) (len cap : Nat) (sh : Bool) (sz : Int) (w : World) :
    Calls Trym.prog 7 #[.int .i64 mode, .slice a len cap, .bool sh, .int .i64 sz] w fun e w' =>
      e = .returned (.pointer (some ⟨w.heap.size, 0, none⟩)) ∧ w' = w.alloc (.cells #[.int .i64 mode, .slice a len cap, .bool sh, .int .i64 sz] 40) := by
  go_enter Trym.func7, Trym.ntmps7
  go_wp2
  go_ret
  exact ⟨rfl, rfl⟩

/-- The address of 's[k:]'. -/
def adv (a : Option Addr) (cap k : Nat) : Option Addr := if cap = k then a else a.map (·.add k)

theorem field_fit (D : Nat) (a : Option Addr) (len cap : Nat) (k : Int) (w : World) (hk0 : 0 ≤ k) (hk : k ≤ len) (hlc : len ≤ cap) (_hcm : cap ≤ 281474976710656)
    (c0 : w.cell? ⟨D, 0, none⟩ = some (.int .i64 1)) (c1 : w.cell? ⟨D, 1, none⟩ = some (.slice a len cap))
    (fz : ∀ j, w.frozen? ⟨D, j, none⟩ = false) :
    Calls Trym.prog 15 #[.pointer (some ⟨D, 0, none⟩), .int .i64 k] w fun e w' => e = .returned (.slice a k.toNat cap) ∧ w' = w.setCell ⟨D, 1, none⟩ (.slice (adv a cap k.toNat) (len - k.toNat) (cap - k.toNat)) := by
  by_cases hc : cap = k.toNat
  · have ha : adv a cap k.toNat = a := by unfold adv; rw [if_pos hc]
    rw [ha]
    go_enter Trym.func15, Trym.ntmps15
    go_wp2
    go_ret
    exact ⟨by rw [hc]; rfl, by rw [show cap - k.toNat = 0 by omega]⟩
  · have ha : adv a cap k.toNat = a.map (·.add k.toNat) := by unfold adv; rw [if_neg hc]
    rw [ha]
    go_enter Trym.func15, Trym.ntmps15
    go_wp2
    go_ret
    exact ⟨rfl, rfl⟩

theorem field_over (D : Nat) (a : Option Addr) (len cap : Nat) (k : Int) (sh : Bool) (w : World) (hk : (len : Int) < k)
    (c0 : w.cell? ⟨D, 0, none⟩ = some (.int .i64 1)) (c1 : w.cell? ⟨D, 1, none⟩ = some (.slice a len cap)) (c2 : w.cell? ⟨D, 2, none⟩ = some (.bool sh))
    (fz : ∀ j, w.frozen? ⟨D, j, none⟩ = false) :
    Calls Trym.prog 15 #[.pointer (some ⟨D, 0, none⟩), .int .i64 k] w fun e w' => e = .returned (.slice none 0 0) ∧ w' = (w.setCell ⟨D, 2, none⟩ (.bool true)).setCell ⟨D, 1, none⟩ (.slice none 0 0) := by
  go_enter Trym.func15, Trym.ntmps15
  go_wp2
  go_ret
  exact ⟨rfl, rfl⟩

theorem state_any (D : Nat) (a : Option Addr) (len cap : Nat) (sh : Bool) (sz : Int) (w : World)
    (c1 : w.cell? ⟨D, 1, none⟩ = some (.slice a len cap)) (c2 : w.cell? ⟨D, 2, none⟩ = some (.bool sh)) (c3 : w.cell? ⟨D, 3, none⟩ = some (.int .i64 sz)) :
    Calls Trym.prog 10 #[.pointer (some ⟨D, 0, none⟩)] w fun e w' => e = .returned (.tuple #[.slice a len cap, .bool sh, .int .i64 sz]) ∧ ∃ q, w' = w.drewN q := by
  go_enter Trym.func10, Trym.ntmps10
  go_wp2
  go_quiet (fail)
  go_wp2
  go_ret3
  exact ⟨rfl, _, rfl⟩

theorem rest_dec (D V : Nat) (a : Option Addr) (len cap : Nat) (old S : ByteArray) (w : World)
    (hconv : (convert 24 9 (.slice a len cap)).run Trym.prog w = .ok (.string S) w)
    (c0 : w.cell? ⟨D, 0, none⟩ = some (.int .i64 1)) (c1 : w.cell? ⟨D, 1, none⟩ = some (.slice a len cap)) (cv : w.cell? ⟨V, 0, none⟩ = some (.string old))
    (fz : ∀ j, w.frozen? ⟨D, j, none⟩ = false) (fv : w.frozen? ⟨V, 0, none⟩ = false) (_hne : V ≠ D) :
    Calls Trym.prog 16 #[.pointer (some ⟨D, 0, none⟩), .pointer (some ⟨V, 0, none⟩)] w fun e w' => e = .returned (.tuple #[]) ∧ w' = (w.setCell ⟨V, 0, none⟩ (.string S)).setCell ⟨D, 1, none⟩ (.slice none 0 0) := by
  go_enter Trym.func16, Trym.ntmps16
  go_wp2
  go_end0
  exact ⟨rfl, rfl⟩

end Go.Proofs.Qxb6603133aMods
