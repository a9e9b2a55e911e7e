import Derived.Test.Qxb6602935aModsRows
import Derived.Test.Qxb6602935aModsPlain
import Derived.WalkKit
import Derived.WalkSpells
import Derived.WalkLawsBesides
import Derived.BigQuiet
import Derived.Deep.QuietTactic
namespace Go.Proofs.Qxb6602935aMods
open Go.RowKit


theorem Trym.info5 : (Trym.prog.info? 5).map (fun i => (i.zero, i.size, i.bytes)) = some (some (.int .u8 0), 1, 1) := by kernel_rfl

/-- What the copy's row holds after k rounds. -/
def Part (H : Nat) (w : World) (zs : List Int) (k : Nat) (wr : World) : Prop :=
  Below H w wr ∧ ∃ xs : List Value, wr.ownsRow H 5 1 (.slice (some ⟨H, 0, none⟩) zs.length zs.length) zs.length xs ∧ ∀ j, j < k → xs[j]? = some (.int .u8 (gat zs j))

theorem part_zero {H : Nat} {w w0 : World} {zs : List Int} {xs : List Value} (h : Below H w w0) (ho : w0.ownsRow H 5 1 (.slice (some ⟨H, 0, none⟩) zs.length zs.length) zs.length xs) : Part H w zs 0 w0 :=
  ⟨h, xs, ho, fun j hj => absurd hj (by omega)⟩

theorem part_cell {H : Nat} {w wr : World} {zs : List Int} {k : Nat} (h : Part H w zs k wr) (j : Nat) (hj : j < zs.length) : (∃ v, wr.cell? ⟨H, j, none⟩ = some v) ∧ wr.frozen? ⟨H, j, none⟩ = false := by
  obtain ⟨_, xs, ho, _⟩ := h
  refine ⟨?_, ho.frozenAt j⟩
  have hl : j < xs.length := by have := ho.1; omega
  exact ⟨xs[j], by rw [ho.cellAt j (by omega)]; simp [hl]⟩

theorem part_step {H : Nat} {w wr : World} {zs : List Int} {k : Nat} (h : Part H w zs k wr) (hk : k < zs.length) : Part H w zs (k + 1) (wr.setCell ⟨H, k, none⟩ (.int .u8 (gat zs k))) := by
  obtain ⟨hb, xs, ho, hx⟩ := h
  have hl : k < xs.length := by have := ho.1; omega
  refine ⟨hb.setCell (Nat.le_refl _) _, _, (ho.stored k _).1, fun j hj => ?_⟩
  rw [List.getElem?_set]
  by_cases e : k = j
  · subst e; simp [hl]
  · rw [if_neg e]; exact hx j (by omega)

theorem part_end {H : Nat} {w wr : World} {zs : List Int} (h : Part H w zs zs.length wr) : H < wr.heap.size ∧ ∀ j, j < zs.length → wr.cell? ⟨H, 0 + j, none⟩ = some (.int .u8 (gat zs j)) := by
  obtain ⟨_, xs, ho, hx⟩ := h
  refine ⟨(ho.lt H rfl).2, fun j hj => ?_⟩
  rw [Nat.zero_add, ho.cellAt j (by omega)]
  exact hx j hj

/-- cloneBytes_b1, of a slice with an element -/
theorem clone_any (b off : Nat) (zs : List Int) (cap : Nat) (w : World) (hm : zs.length ≤ 1048576) (hbw : b < w.heap.size) (hb : Byt zs)
    (hc : ∀ i, i < zs.length → w.cell? ⟨b, off + i, none⟩ = some (.int .u8 (gat zs i))) :
    Calls Trym.prog 9 #[.slice (some ⟨b, off, none⟩) zs.length cap] w fun e w' => e = .returned (.slice (some ⟨w.heap.size, 0, none⟩) zs.length zs.length) ∧ Below w.heap.size w w' ∧ w.heap.size < w'.heap.size ∧
      ∀ j, j < zs.length → w'.cell? ⟨w.heap.size, 0 + j, none⟩ = some (.int .u8 (gat zs j)) := by
  obtain ⟨i0, hi, hz0, hz1, hz2⟩ := info_parts Trym.info5
  have hnil := fun wx a l c => Lib.run_eql_slice_nil (P := Trym.prog) wx 22 5 a l c 0 0 Trym.underlying22
  go_enter Trym.func9, Trym.ntmps9
  go_wp2_with (at_make; refine wpList_make_full _ rfl _ _ 22 rfl w.heap.size 5 i0 (.int .u8 0) 1 Trym.underlying22 hi hz0 hz1 .i64 .i64 _ _ zs.length rfl rfl (by omega) (by omega) (by rw [hz2]; omega) (by unfold maxLen; omega) (Nat.le_refl _) ?_; intro w0 hown0 hgrow0)
  have hP := part_zero (zs := zs) ((Below.refl w.heap.size w).grown hgrow0 (Nat.le_refl _) (fun k hk => by cases hk)) hown0
  clear hown0 hgrow0 hi hz0 hz1 hz2 hnil
  go_wp2
  go_loopw [4] (fun t wr => ∃ k : Nat, k ≤ zs.length ∧ t = .int .i64 k ∧ Part w.heap.size w zs k wr) (fun t _ => zs.length - (intOf t).toNat)
  case atStart => exact ⟨0, Nat.zero_le _, rfl, hP⟩
  case round =>
    obtain ⟨k, hk, rfl, hpart⟩ := hrel
    clear hP
    by_cases hlt : k < zs.length
    · have hck : wr.cell? ⟨b, off + k, none⟩ = some (.int .u8 (gat zs k)) := (hpart.1.cell (by exact hbw)).trans (hc k hlt)
      obtain ⟨⟨v, hcv⟩, hfr⟩ := part_cell hpart k hlt
      have hbk := hb k
      have hn := part_step hpart hlt
      clear hc hb hpart
      go_wp2
      go_roundw
      case rel => exact ⟨k + 1, by omega, by go_num, hn⟩
      case measure => simp [intOf]; omega
    · obtain rfl : k = zs.length := by omega
      have he := part_end hpart
      have hbel := hpart.1
      clear hc hpart
      go_wp2
      go_ret
      exact ⟨rfl, hbel, he.1, he.2⟩

end Go.Proofs.Qxb6602935aMods
