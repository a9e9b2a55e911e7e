import Derived.Test.Qxb6603133aModsRows
import Derived.Test.Qxb6603133aModsPlain
import Derived.WalkKit
import Derived.WalkSpells
import Derived.WalkLawsBesides
import Derived.BigQuiet
import Derived.Deep.QuietTactic
import Derived.Laws.CopyOwn
import Derived.Deep.CutBlock
namespace Go.Proofs.Qxb6603133aMods
open Go.RowKit

/-- The slice at address a reads as the numbers zs (an empty one may have whatever address). -/
def Rd (k : IntKind) (w : World) (a : Option Addr) (zs : List Int) : Prop :=
  0 < zs.length → ∃ b off, a = some ⟨b, off, none⟩ ∧ b < w.heap.size ∧ ∀ i, i < zs.length → w.cell? ⟨b, off + i, none⟩ = some (.int k (gat zs i))

theorem Rd.drewN {k : IntKind} {w : World} {a : Option Addr} {zs : List Int} (h : Rd k w a zs) (q : Nat) : Rd k (w.drewN q) a zs := fun h0 => by
  obtain ⟨b, off, ha, hb, hc⟩ := h h0
  exact ⟨b, off, ha, hb, fun i hi => hc i hi⟩

/-- A row made whole, as make's law gives it. -/
theorem row_of_made {w0 : World} {H e n : Nat} {z : Value} (h : w0.ownsRow H e 1 (.slice (some ⟨H, 0, none⟩) n n) n (madeCells z.cells (n * 1)).toList) (hz : z.cells = #[z]) :
    w0.heap[H]? = some (.cells (List.replicate n z).toArray e (0, 0)) := by
  rcases h.2 with ⟨h', _⟩ | ⟨g', cap', cur, h', _, hg, _, _, hs, htake⟩
  · simp at h'
  · simp only [Value.slice.injEq, Option.some.injEq, Addr.mk.injEq, and_true, true_and] at h'
    obtain ⟨rfl, rfl⟩ := h'
    rw [hg]
    have hl : cur.toList.take (n * 1) = cur.toList := List.take_of_length_le (by simp [hs])
    rw [hl, hz, Nat.mul_one, toList_madeCells_one] at htake
    rw [← htake]

theorem splice_all {α : Type} (L cs : List α) (h : L.length = cs.length) : splice L 0 cs = cs := by
  unfold splice
  rw [List.take_zero, List.nil_append, List.drop_eq_nil_of_le (by omega), List.append_nil]

theorem ints_one (k : IntKind) (zs : List Int) : ∀ v ∈ zs.map (Value.int k), v.oneCell' = true := by
  intro v hv
  obtain ⟨n, _, rfl⟩ := List.mem_map.1 hv
  rfl

theorem row_cell {w : World} {H e : Nat} {zs : List Int} {k : IntKind} (h : w.heap[H]? = some (.cells (zs.map (Value.int k)).toArray e (0, 0))) (i : Nat) (hi : i < zs.length) : w.cell? ⟨H, 0 + i, none⟩ = some (.int k (gat zs i)) := by
  rw [Nat.zero_add, cell_of_row w H i _ e (0, 0) h]
  simp [hi, gat]

theorem Trym.info5 : (Trym.prog.info? 5).map (fun i => (i.zero, i.size, i.bytes)) = some (some (.int .u8 0), 1, 1) := by kernel_rfl
theorem Trym.size5 : (Trym.prog.info? 5).map (·.size) = some 1 := by kernel_rfl

/-- cloneB, of nil -/
theorem cloneB_nil (w : World) : Calls Trym.prog 13 #[.slice none 0 0] w fun e w' => e = .returned (.slice none 0 0) ∧ w' = w := by
  have hnil := fun wx a l c => Lib.run_eql_slice_nil (P := Trym.prog) wx 24 5 a l c 0 0 Trym.underlying24
  go_enter Trym.func13, Trym.ntmps13
  go_wp2
  go_ret
  exact ⟨rfl, rfl⟩

/-- cloneB, of a slice that is not nil -/
theorem cloneB_some (x : Addr) (zs : List Int) (cap : Nat) (w : World) (hm : zs.length ≤ 1048576) (hr : Rd .u8 w (some x) zs) :
    Calls Trym.prog 13 #[.slice (some x) zs.length cap] w fun e w' => e = .returned (.slice (some ⟨w.heap.size, 0, none⟩) zs.length zs.length) ∧ Below w.heap.size w w' ∧
      w'.heap[w.heap.size]? = some (.cells (zs.map (Value.int .u8)).toArray 5 (0, 0)) := by
  obtain ⟨i0, hi, hz0, hz1, hz2⟩ := info_parts Trym.info5
  have hnil := fun wx a l c => Lib.run_eql_slice_nil (P := Trym.prog) wx 24 5 a l c 0 0 Trym.underlying24
  have HR : Hid (Rd .u8 w (some x) zs) := hr
  clear hr
  go_enter Trym.func13, Trym.ntmps13
  go_upto_region 4 with (at_make; refine wpList_make_full _ rfl _ _ 24 rfl w.heap.size 5 i0 (.int .u8 0) 1 Trym.underlying24 hi hz0 hz1 .i64 .i64 _ _ zs.length rfl rfl (by omega) (by omega) (by rw [hz2]; omega) (by unfold maxLen; omega) (Nat.le_refl _) ?_; intro w0 hown0 hgrow0)
  have hrow := row_of_made hown0 rfl
  have hb0 := (Below.refl w.heap.size w).grown hgrow0 (Nat.le_refl _) (fun k hk => by cases hk)
  have HROW : Hid (w0.heap[w.heap.size]? = some (.cells (List.replicate zs.length (Value.int .u8 0)).toArray 5 (0, 0))) := hrow
  clear hown0 hgrow0 hi hz0 hz1 hz2 hnil hrow
  obtain ⟨cs, hcs⟩ : ∃ cs, cs = zs.map (Value.int .u8) := ⟨_, rfl⟩
  have hcl : cs.length = zs.length := by rw [hcs]; simp
  have HCL : Hid (cs.length = zs.length) := hcl
  have HCS : Hid (cs = zs.map (Value.int .u8)) := hcs
  have hsrc : 0 < cs.length → (some ⟨w.heap.size, 0, none⟩ : Option Addr) = some ⟨w.heap.size, 0, none⟩ ∧ ∃ ad, some x = some ad ∧ ∀ j v, cs[j]? = some v → w0.cell? (ad.add j) = some v := by
    intro h0
    obtain ⟨b, off, hx, hbw, hcell⟩ := HR.out (by omega)
    refine ⟨rfl, x, rfl, fun j v hj => ?_⟩
    obtain rfl : x = ⟨b, off, none⟩ := by simpa using hx
    have hjl : j < zs.length := by have := (List.getElem?_eq_some_iff.1 hj).1; omega
    rw [WideShapes.add_plain, hb0.cell (by exact hbw), hcell j hjl]
    rw [hcs] at hj
    simp [hjl] at hj
    rw [← hj, gat_at _ _ hjl]
  have HSRC : Hid (0 < cs.length → (some ⟨w.heap.size, 0, none⟩ : Option Addr) = some ⟨w.heap.size, 0, none⟩ ∧ ∃ ad, some x = some ad ∧ ∀ j v, cs[j]? = some v → w0.cell? (ad.add j) = some v) := hsrc
  clear hcl hcs hsrc
  go_wp2_with (refine wpList_copy_splice rfl (.tmp 9) (.tmp 10) 24 24 rfl 5 Trym.underlying24 Trym.size5 (some ⟨w.heap.size, 0, none⟩) (some x) zs.length zs.length zs.length cap rfl rfl w.heap.size 0 (List.replicate zs.length (Value.int .u8 0)) 5 HROW.out cs (by rw [HCL.out]; exact (Nat.min_self _).symm) HSRC.out (by rw [HCL.out]; simp) (by rw [HCS.out]; exact ints_one _ _) w.heap.size w hb0 (Nat.le_refl _) ?_; intro w2 HG2 hb2)
  go_ret
  refine ⟨rfl, hb2, ?_⟩
  have hg2 := HG2.out
  rw [splice_all _ _ (by rw [HCL.out]; simp), HCS.out] at hg2
  exact hg2

theorem Trym.info3 : (Trym.prog.info? 3).map (fun i => (i.zero, i.size, i.bytes)) = some (some (.int .i64 0), 1, 8) := by kernel_rfl
theorem Trym.size3 : (Trym.prog.info? 3).map (·.size) = some 1 := by kernel_rfl

/-- cloneI, of nil -/
theorem cloneI_nil (w : World) : Calls Trym.prog 14 #[.slice none 0 0] w fun e w' => e = .returned (.slice none 0 0) ∧ w' = w := by
  have hnil := fun wx a l c => Lib.run_eql_slice_nil (P := Trym.prog) wx 34 3 a l c 0 0 Trym.underlying34
  go_enter Trym.func14, Trym.ntmps14
  go_wp2
  go_ret
  exact ⟨rfl, rfl⟩

/-- cloneI, of a slice that is not nil -/
theorem cloneI_some (x : Addr) (zs : List Int) (cap : Nat) (w : World) (hm : zs.length ≤ 1048576) (hr : Rd .i64 w (some x) zs) :
    Calls Trym.prog 14 #[.slice (some x) zs.length cap] w fun e w' => e = .returned (.slice (some ⟨w.heap.size, 0, none⟩) zs.length zs.length) ∧ Below w.heap.size w w' ∧
      w'.heap[w.heap.size]? = some (.cells (zs.map (Value.int .i64)).toArray 3 (0, 0)) := by
  obtain ⟨i0, hi, hz0, hz1, hz2⟩ := info_parts Trym.info3
  have hnil := fun wx a l c => Lib.run_eql_slice_nil (P := Trym.prog) wx 34 3 a l c 0 0 Trym.underlying34
  have HR : Hid (Rd .i64 w (some x) zs) := hr
  clear hr
  go_enter Trym.func14, Trym.ntmps14
  go_upto_region 4 with (at_make; refine wpList_make_full _ rfl _ _ 34 rfl w.heap.size 3 i0 (.int .i64 0) 1 Trym.underlying34 hi hz0 hz1 .i64 .i64 _ _ zs.length rfl rfl (by omega) (by omega) (by rw [hz2]; omega) (by unfold maxLen; omega) (Nat.le_refl _) ?_; intro w0 hown0 hgrow0)
  have hrow := row_of_made hown0 rfl
  have hb0 := (Below.refl w.heap.size w).grown hgrow0 (Nat.le_refl _) (fun k hk => by cases hk)
  have HROW : Hid (w0.heap[w.heap.size]? = some (.cells (List.replicate zs.length (Value.int .i64 0)).toArray 3 (0, 0))) := hrow
  clear hown0 hgrow0 hi hz0 hz1 hz2 hnil hrow
  obtain ⟨cs, hcs⟩ : ∃ cs, cs = zs.map (Value.int .i64) := ⟨_, rfl⟩
  have hcl : cs.length = zs.length := by rw [hcs]; simp
  have HCL : Hid (cs.length = zs.length) := hcl
  have HCS : Hid (cs = zs.map (Value.int .i64)) := hcs
  have hsrc : 0 < cs.length → (some ⟨w.heap.size, 0, none⟩ : Option Addr) = some ⟨w.heap.size, 0, none⟩ ∧ ∃ ad, some x = some ad ∧ ∀ j v, cs[j]? = some v → w0.cell? (ad.add j) = some v := by
    intro h0
    obtain ⟨b, off, hx, hbw, hcell⟩ := HR.out (by omega)
    refine ⟨rfl, x, rfl, fun j v hj => ?_⟩
    obtain rfl : x = ⟨b, off, none⟩ := by simpa using hx
    have hjl : j < zs.length := by have := (List.getElem?_eq_some_iff.1 hj).1; omega
    rw [WideShapes.add_plain, hb0.cell (by exact hbw), hcell j hjl]
    rw [hcs] at hj
    simp [hjl] at hj
    rw [← hj, gat_at _ _ hjl]
  have HSRC : Hid (0 < cs.length → (some ⟨w.heap.size, 0, none⟩ : Option Addr) = some ⟨w.heap.size, 0, none⟩ ∧ ∃ ad, some x = some ad ∧ ∀ j v, cs[j]? = some v → w0.cell? (ad.add j) = some v) := hsrc
  clear hcl hcs hsrc
  go_wp2_with (refine wpList_copy_splice rfl (.tmp 9) (.tmp 10) 34 34 rfl 3 Trym.underlying34 Trym.size3 (some ⟨w.heap.size, 0, none⟩) (some x) zs.length zs.length zs.length cap rfl rfl w.heap.size 0 (List.replicate zs.length (Value.int .i64 0)) 3 HROW.out cs (by rw [HCL.out]; exact (Nat.min_self _).symm) HSRC.out (by rw [HCL.out]; simp) (by rw [HCS.out]; exact ints_one _ _) w.heap.size w hb0 (Nat.le_refl _) ?_; intro w2 HG2 hb2)
  go_ret
  refine ⟨rfl, hb2, ?_⟩
  have hg2 := HG2.out
  rw [splice_all _ _ (by rw [HCL.out]; simp), HCS.out] at hg2
  exact hg2

end Go.Proofs.Qxb6603133aMods
