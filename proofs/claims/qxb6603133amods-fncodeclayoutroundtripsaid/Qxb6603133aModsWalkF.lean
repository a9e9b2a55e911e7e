import Derived.Test.Qxb6603133aModsWalkD
import Derived.Test.Qxb6603133aModsZeros
import Derived.WalkSmall
namespace Go.Proofs.Qxb6603133aMods
open Go.RowKit

/-- What a value that owns a row looks like. -/
theorem own_form {w : World} {base e : Nat} {v : Value} {n : Nat} {xs : List Value} (h : w.ownsRow base e 1 v n xs) : ∃ a cap, v = .slice a n cap ∧ n ≤ cap ∧ cap ≤ maxLen := by
  rcases h.2 with ⟨rfl, rfl⟩ | ⟨g, cap, cur, rfl, _, _, h1, h2, _⟩
  · exact ⟨none, 0, rfl, Nat.le_refl _, Nat.zero_le _⟩
  · exact ⟨_, cap, rfl, h1, h2⟩

theorem own_not {w : World} {D e : Nat} {v : Value} {n : Nat} {xs : List Value} (h : w.ownsRow (D + 1) e 1 v n xs) : some D ≠ v.ownBlock := by
  rcases h.2 with ⟨rfl, _⟩ | ⟨g, cap, cur, rfl, hg, _⟩
  · simp [Value.ownBlock]
  · simp [Value.ownBlock]; omega

set_option maxRecDepth 100000 in
theorem field_enc (D : Nat) (a : Option Addr) (len cap k : Nat) (xs : List Value) (w : World) (h : Cod 0 D a len cap false 0 w) (hown : w.ownsRow (D + 1) 5 1 (.slice a len cap) len xs) (hk : len + k ≤ 1048576) :
    Calls Trym.prog 15 #[.pointer (some ⟨D, 0, none⟩), .int .i64 k] w fun e w' => ∃ a' cap', e = .returned (.slice (adv a' cap' len) k (cap' - len)) ∧ len + k ≤ cap' ∧ Cod 0 D a' (len + k) cap' false 0 w' ∧
      w'.ownsRow (D + 1) 5 1 (.slice a' (len + k) cap') (len + k) (xs ++ List.replicate k (.int .u8 0)) ∧ Below D w w' := by
  obtain ⟨i0, hi, hz0, hz1, hz2⟩ := info_parts Trym.info5
  have hDl := h.lt
  obtain ⟨v', w1, hrun, hown1, hgrow⟩ := run_append_own_zeros (P := Trym.prog) w (D + 1) 24 3 24 5 i0 .i64 Trym.underlying24 Trym.underlying3 hi hz0 hz1 hz2 (.slice a len cap) len xs hown k (by omega) (by omega)
  obtain ⟨a', cap', rfl, hc1, hc2⟩ := own_form hown1
  have hcod1 : Cod 0 D a len cap false 0 w1 := by unfold Cod; rw [hgrow.block D hDl (own_not hown)]; exact h
  have hb1 : Below D w w1 := (Below.refl D w).grown hgrow (by omega) (fun j hj => by
    have := own_not hown
    rcases hown.2 with ⟨he, _⟩ | ⟨g, cp, cur, he, hg, _⟩
    · rw [he] at hj; cases hj
    · rw [he] at hj; simp [Value.ownBlock] at hj; omega)
  have HRUN : Hid ((Builtin.append_ #[24, 3] 24 #[.slice a len cap, .int .i64 k]).run Trym.prog w = .ok (.slice a' (len + k) cap') w1) := hrun
  have HOWN1 : Hid (w1.ownsRow (D + 1) 5 1 (.slice a' (len + k) cap') (len + k) (xs ++ List.replicate k (.int .u8 0))) := hown1
  have HB1 : Hid (Below D w w1) := hb1
  have HCOD1 : Hid (Cod 0 D a len cap false 0 w1) := hcod1
  have c0 := h.c0
  have c1 := h.c1
  have d1 := hcod1.c1
  have f1 := hcod1.fz
  clear hrun hown1 hb1 hcod1 hown hgrow hi hz0 hz1 hz2 h
  unfold maxLen at hc2
  go_enter Trym.func15, Trym.ntmps15
  go_wp2_with (at_builtin; refine Lib.wpList_append_run _ rfl (.tmp 24) (.tmp 25) 24 3 rfl (.slice a len cap) (.int .i64 k) rfl rfl _ _ HRUN.out ?_)
  have HEND : Hid (Cod 0 D a' (len + k) cap' false 0 (w1.setCell ⟨D, 1, none⟩ (.slice a' (len + k) cap')) ∧ (w1.setCell ⟨D, 1, none⟩ (.slice a' (len + k) cap')).ownsRow (D + 1) 5 1 (.slice a' (len + k) cap') (len + k) (xs ++ List.replicate k (.int .u8 0)) ∧ Below D w (w1.setCell ⟨D, 1, none⟩ (.slice a' (len + k) cap'))) :=
    ⟨HCOD1.out.set1 _ _ _, ownsRow_setCell_below HOWN1.out (by show D < D + 1; omega) _, HB1.out.setCell (Nat.le_refl _) _⟩
  by_cases hcl : cap' = len
  · obtain rfl : k = 0 := by omega
    obtain rfl : cap' = len := hcl
    have hadv : adv a' cap' cap' = a' := by unfold adv; rw [if_pos rfl]
    have HADV : Hid (adv a' cap' cap' = a') := hadv
    clear hadv HRUN HOWN1 HB1 HCOD1
    go_quiet (fail)
    go_wp2
    go_ret
    refine ⟨a', cap', ?_, hc1, HEND.out.1.drewN _, HEND.out.2.1, below_drewN HEND.out.2.2 _⟩
    rw [HADV.out, Nat.sub_self]
    rfl
  · have hadv : adv a' cap' len = a'.map (·.add len) := by unfold adv; rw [if_neg hcl]
    have HADV : Hid (adv a' cap' len = a'.map (·.add len)) := hadv
    clear hadv HRUN HOWN1 HB1 HCOD1
    go_quiet (fail)
    go_wp2
    go_ret
    refine ⟨a', cap', ?_, hc1, HEND.out.1.drewN _, HEND.out.2.1, below_drewN HEND.out.2.2 _⟩
    rw [HADV.out]
    rfl

end Go.Proofs.Qxb6603133aMods
