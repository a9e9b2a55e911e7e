import Derived.Test.Qxb6603133aModsWalkF
import Derived.Deep.RegionLaw
namespace Go.Proofs.Qxb6603133aMods
open Go.RowKit

/-- An append whose run is known, as one step of a region that draws. -/
theorem step_append_run {P : Program} {ops : Array Oper} {o : Oper} {a : Act} {w : World} {K : Act → World → Prop} {Q : Exit → Act → World → Prop} {E : Prop}
    (hg : o.guard = none) (s x : Operand) (t tn : TypeId) (hop : o.op = Op.call { callee := Callee.builtin Builtin.append, args := #[s, x], argTypes := #[t, tn] })
    (vs vx : Value) (hs : a.eval s = vs) (hx : a.eval x = vx) (v' : Value) (w' : World) (hr : (Builtin.append_ #[t, tn] o.type #[vs, vx]).run P w = .ok v' w')
    (hK : K (a.put o.dst v') w') : if Region.wanted o (yielded ops a.tmps) = true then Oper.wp P o a w K Q else E := by
  have hw : Region.wanted o (yielded ops a.tmps) = true := by simp [Region.wanted, hg]
  rw [if_pos hw]
  exact Lib.wp_append_run w s x t tn hop vs vx hs hx v' w' hr hK

set_option maxRecDepth 100000 in
/-- rest, encoding -/
theorem rest_enc (D V : Nat) (a : Option Addr) (len cap : Nat) (s : ByteArray) (xs : List Value) (w : World) (hDV : D < V) (h : Cod 0 D a len cap false 0 w) (hv : Sv V s w) (hown : w.ownsRow (D + 1) 5 1 (.slice a len cap) len xs) (hnv : some V ≠ Value.ownBlock (.slice a len cap)) (hk : len + s.size ≤ 1048576) :
    Calls Trym.prog 16 #[.pointer (some ⟨D, 0, none⟩), .pointer (some ⟨V, 0, none⟩)] w fun e w' => ∃ a' cap', e = .returned (.tuple #[]) ∧ len + s.size ≤ cap' ∧ cap' ≤ maxLen ∧ Cod 0 D a' (len + s.size) cap' false 0 w' ∧ Sv V s w' ∧
      w'.ownsRow (D + 1) 5 1 (.slice a' (len + s.size) cap') (len + s.size) (xs ++ Lib.strCells s) ∧ Below D w w' := by
  obtain ⟨i0, hi, hz0, hz1, hz2⟩ := info_parts Trym.info5
  have hDl := h.lt
  have hVl : V < w.heap.size := (Array.getElem?_eq_some_iff.1 hv).1
  obtain ⟨v', w1, hrun, hown1, hgrow, _⟩ := Lib.run_append_own_string (P := Trym.prog) w.drew (D + 1) 24 9 24 5 i0 Trym.underlying24 Trym.underlying9 hi hz0 hz1 hz2 (.slice a len cap) len xs hown.drew s (by unfold maxLen; omega) (by omega) (by show D + 1 ≤ w.heap.size; omega)
  obtain ⟨a', cap', rfl, hc1, hc2⟩ := own_form hown1
  have hcod1 : Cod 0 D a len cap false 0 w1 := by unfold Cod; rw [hgrow.block D hDl (own_not hown)]; exact h
  have hsv1 : Sv V s w1 := by unfold Sv; rw [hgrow.block V hVl hnv]; exact hv
  have hb1 : Below D w w1 := ((Below.refl D w).drew).grown hgrow (by show D ≤ w.heap.size; omega) (fun j hj => by
    rcases hown.2 with ⟨he, _⟩ | ⟨g, cp, cur, he, hg, _⟩
    · rw [he] at hj; cases hj
    · rw [he] at hj; simp [Value.ownBlock] at hj; omega)
  have HRUN : Hid ((Builtin.append_ #[24, 9] 24 #[.slice a len cap, .string s]).run Trym.prog w.drew = .ok (.slice a' (len + s.size) cap') w1) := hrun
  have HEND : Hid (Cod 0 D a' (len + s.size) cap' false 0 (w1.setCell ⟨D, 1, none⟩ (.slice a' (len + s.size) cap')) ∧ Sv V s (w1.setCell ⟨D, 1, none⟩ (.slice a' (len + s.size) cap')) ∧ (w1.setCell ⟨D, 1, none⟩ (.slice a' (len + s.size) cap')).ownsRow (D + 1) 5 1 (.slice a' (len + s.size) cap') (len + s.size) (xs ++ Lib.strCells s) ∧ Below D w (w1.setCell ⟨D, 1, none⟩ (.slice a' (len + s.size) cap'))) :=
    ⟨hcod1.set1 _ _ _, by unfold Sv; rw [heap_setCell_other _ _ _ _ (show V ≠ D by omega)]; exact hsv1, ownsRow_setCell_below hown1 (by show D < D + 1; omega) _, hb1.setCell (Nat.le_refl _) _⟩
  have c0 := h.c0
  have c1 := h.c1
  have cv : w.cell? ⟨V, 0, none⟩ = some (.string s) := by rw [cell_of_row w V 0 _ _ _ hv]; rfl
  have d1 := hcod1.c1
  have f1 := hcod1.fz
  clear hrun hown1 hb1 hcod1 hown hgrow hi hz0 hz1 hz2 h hv hsv1 hnv
  go_enter Trym.func16, Trym.ntmps16
  go_wp2
  go_region_law (refine step_append_run rfl (.tmp 14) (.tmp 17) 24 9 rfl (.slice a len cap) (.string s) (by simp [Act.eval]) (by simp [Act.eval]) _ _ HRUN.out ?_)
  all_goals (try go_wp2)
  all_goals
    go_end0
    exact ⟨a', cap', rfl, hc1, hc2, HEND.out.1, HEND.out.2.1, HEND.out.2.2.1, HEND.out.2.2.2⟩

/-- ZZRest, encoding -/
theorem zrest_enc (D V : Nat) (a : Option Addr) (len cap : Nat) (s : ByteArray) (xs : List Value) (w : World) (hDV : D < V) (h : Cod 0 D a len cap false 0 w) (hv : Sv V s w) (hown : w.ownsRow (D + 1) 5 1 (.slice a len cap) len xs) (hnv : some V ≠ Value.ownBlock (.slice a len cap)) (hk : len + s.size ≤ 1048576) :
    Calls Trym.prog 9 #[.pointer (some ⟨D, 0, none⟩), .pointer (some ⟨V, 0, none⟩)] w fun e w' => ∃ a' cap', e = .returned (.tuple #[]) ∧ len + s.size ≤ cap' ∧ cap' ≤ maxLen ∧ Cod 0 D a' (len + s.size) cap' false 0 w' ∧ Sv V s w' ∧
      w'.ownsRow (D + 1) 5 1 (.slice a' (len + s.size) cap') (len + s.size) (xs ++ Lib.strCells s) ∧ Below D w w' := by
  have HC := rest_enc D V a len cap s xs w hDV h hv hown hnv hk
  have HC' : Hid (Calls Trym.prog 16 #[.pointer (some ⟨D, 0, none⟩), .pointer (some ⟨V, 0, none⟩)] w fun e w' => ∃ a' cap', e = .returned (.tuple #[]) ∧ len + s.size ≤ cap' ∧ cap' ≤ maxLen ∧ Cod 0 D a' (len + s.size) cap' false 0 w' ∧ Sv V s w' ∧
      w'.ownsRow (D + 1) 5 1 (.slice a' (len + s.size) cap') (len + s.size) (xs ++ Lib.strCells s) ∧ Below D w w') := HC
  clear HC h hv hown hnv
  go_enter Trym.func9, Trym.ntmps9
  go_wp2_with (go_at_call 16; refine (HC'.out).mono ?_; rintro e w' ⟨a', cap', rfl, h1, h2, h3, h4, h5, h6⟩; have H3 : Hid (Cod 0 D a' (len + s.size) cap' false 0 w') := h3; have H4 : Hid (Sv V s w') := h4; have H5 : Hid (w'.ownsRow (D + 1) 5 1 (.slice a' (len + s.size) cap') (len + s.size) (xs ++ Lib.strCells s)) := h5; clear h3 h4 h5)
  go_end0
  exact ⟨a', cap', rfl, h1, h2, H3.out, H4.out, H5.out, h6⟩

/-- ZZField, encoding -/
theorem zfield_enc (D : Nat) (a : Option Addr) (len cap k : Nat) (xs : List Value) (w : World) (h : Cod 0 D a len cap false 0 w) (hown : w.ownsRow (D + 1) 5 1 (.slice a len cap) len xs) (hk : len + k ≤ 1048576) :
    Calls Trym.prog 8 #[.pointer (some ⟨D, 0, none⟩), .int .i64 k] w fun e w' => ∃ a' cap', e = .returned (.slice (adv a' cap' len) k (cap' - len)) ∧ len + k ≤ cap' ∧ Cod 0 D a' (len + k) cap' false 0 w' ∧
      w'.ownsRow (D + 1) 5 1 (.slice a' (len + k) cap') (len + k) (xs ++ List.replicate k (.int .u8 0)) ∧ Below D w w' := by
  have HC := field_enc D a len cap k xs w h hown hk
  have HC' : Hid (Calls Trym.prog 15 #[.pointer (some ⟨D, 0, none⟩), .int .i64 k] w fun e w' => ∃ a' cap', e = .returned (.slice (adv a' cap' len) k (cap' - len)) ∧ len + k ≤ cap' ∧ Cod 0 D a' (len + k) cap' false 0 w' ∧
      w'.ownsRow (D + 1) 5 1 (.slice a' (len + k) cap') (len + k) (xs ++ List.replicate k (.int .u8 0)) ∧ Below D w w') := HC
  clear HC h hown
  go_enter Trym.func8, Trym.ntmps8
  go_wp2_with (go_at_call 15; refine (HC'.out).mono ?_; rintro e w' ⟨a', cap', rfl, h1, h3, h5, h6⟩; have H3 : Hid (Cod 0 D a' (len + k) cap' false 0 w') := h3; have H5 : Hid (w'.ownsRow (D + 1) 5 1 (.slice a' (len + k) cap') (len + k) (xs ++ List.replicate k (.int .u8 0))) := h5; clear h3 h5)
  go_ret
  exact ⟨a', cap', rfl, h1, H3.out, H5.out, h6⟩

/-- ZZField, measuring -/
theorem zfield_meas (D : Nat) (a : Option Addr) (len cap : Nat) (sh : Bool) (sz k : Nat) (w : World) (hm : sz + k ≤ 1048576) (h : Cod 2 D a len cap sh sz w) :
    Calls Trym.prog 8 #[.pointer (some ⟨D, 0, none⟩), .int .i64 k] w fun e w' => e = .returned (.slice none 0 0) ∧ Cod 2 D a len cap sh ((sz + k : Nat) : Int) w' ∧ Below D w w' := by
  have c0 := h.c0
  have c3 := h.c3
  have fz := h.fz
  have HC : Hid (Cod 2 D a len cap sh sz w) := h
  clear h
  go_enter Trym.func8, Trym.ntmps8
  go_wp2
  go_ret
  refine ⟨rfl, ?_, (Below.refl D w).setCell (Nat.le_refl _) _⟩
  have := HC.out.set3 ((sz : Int) + (k : Int))
  rwa [show ((sz + k : Nat) : Int) = (sz : Int) + (k : Int) by omega]

/-- rest, measuring -/
theorem rest_meas (D : Nat) (v : Value) (w : World) (c0 : w.cell? ⟨D, 0, none⟩ = some (.int .i64 2)) :
    Calls Trym.prog 16 #[.pointer (some ⟨D, 0, none⟩), v] w fun e w' => e = .returned (.tuple #[]) ∧ w' = w := by
  go_enter Trym.func16, Trym.ntmps16
  go_wp2
  go_end0
  exact ⟨rfl, rfl⟩

/-- ZZRest, measuring -/
theorem zrest_meas (D : Nat) (v : Value) (w : World) (c0 : w.cell? ⟨D, 0, none⟩ = some (.int .i64 2)) :
    Calls Trym.prog 9 #[.pointer (some ⟨D, 0, none⟩), v] w fun e w' => e = .returned (.tuple #[]) ∧ w' = w := by
  go_enter Trym.func9, Trym.ntmps9
  go_wp2_with (go_at_call 16; refine (rest_meas D v _ c0).mono ?_; rintro e w' ⟨rfl, rfl⟩)
  go_end0
  exact ⟨rfl, rfl⟩

end Go.Proofs.Qxb6603133aMods
