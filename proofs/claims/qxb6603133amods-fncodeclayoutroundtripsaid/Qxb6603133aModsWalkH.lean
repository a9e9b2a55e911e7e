import Derived.Test.Qxb6603133aModsWalkC
import Derived.Test.Qxb6603133aModsPlainF
import Derived.WalkSmall
namespace Go.Proofs.Qxb6603133aMods
open Go.RowKit

/-- A [][]byte that reads as fs: as it came in. -/
def RdF (w : World) (a : Option Addr) (fs : List (List Int)) : Prop :=
  0 < fs.length → ∃ b off, a = some ⟨b, off, none⟩ ∧ b < w.heap.size ∧ ∀ i, i < fs.length → ∃ ai ci, w.cell? ⟨b, off + i, none⟩ = some (.slice ai (fat fs i).length ci) ∧ (ai = none → fat fs i = [] ∧ ci = 0) ∧ Rd .u8 w ai (fat fs i)

/-- What zzBytes answers. -/
def ZZ (fs : List (List Int)) (s : ByteArray) (w : World) (e : Ending) (w' : World) : Prop :=
  ∃ b, e = .returned (.bool b) ∧ w' = w ∧ (b = true → fs.length ≤ 1048576 ∧ s.size ≤ 1048576 ∧ ∀ i, i < fs.length → (fat fs i).length ≤ 1048576)

set_option maxRecDepth 100000 in
set_option maxHeartbeats 1000000 in
/-- zzBytes_FnCodecLayoutRoundTrip -/
theorem zz_any (a : Option Addr) (fs : List (List Int)) (cap : Nat) (s : ByteArray) (w : World) (hm : fs.length ≤ 9223372036854775807) (hl : ∀ i, i < fs.length → (fat fs i).length ≤ 9223372036854775807) (hs : s.size ≤ 9223372036854775807) (hr : RdF w a fs) :
    Calls Trym.prog 5 #[.slice a fs.length cap, .string s] w (fun e w' => ZZ fs s w e w') := by
  have HL : Hid (∀ i, i < fs.length → (fat fs i).length ≤ 9223372036854775807) := hl
  have HR : Hid (RdF w a fs) := hr
  clear hl hr
  by_cases h1 : 1048576 < fs.length
  · go_enter Trym.func5, Trym.ntmps5
    go_wp2
    go_ret
    exact ⟨false, rfl, rfl, fun h => by cases h⟩
  · have q1 : decide ((1048576 : Int) < (fs.length : Int)) = false := by simp; omega
    have h1' : fs.length ≤ 1048576 := by omega
    go_enter Trym.func5, Trym.ntmps5
    go_wp2
    go_loop [5, 6] (fun z t => ∃ k Z : Nat, k ≤ fs.length ∧ Z ≤ 1048576 ∧ z = .int .i64 Z ∧ t = .int .i64 k ∧ Hid (∀ j, j < k → (fat fs j).length ≤ 1048576)) (fun _ t => fs.length - (intOf t).toNat)
    case atStart => exact ⟨0, fs.length, Nat.zero_le _, by omega, rfl, rfl, fun j hj => absurd hj (by omega)⟩
    case round =>
      obtain ⟨k, Z, hk, hZ, rfl, rfl, HA⟩ := hrel
      by_cases hlt : k < fs.length
      · obtain ⟨b, off, rfl, hbw, hc⟩ := HR.out (by omega)
        obtain ⟨ai, ci, hcell, _, _⟩ := hc k hlt
        have hlk := HL.out k hlt
        clear hc
        have HAK : Hid ((fat fs k).length ≤ 1048576 → ∀ j, j < k + 1 → (fat fs j).length ≤ 1048576) := fun h j hj => by
          by_cases e : j < k
          · exact HA.out j e
          · obtain rfl : j = k := by omega
            exact h
        clear HA
        generalize (fat fs k).length = lk at *
        by_cases h2 : 1048576 < lk
        · go_wp2
          go_ret
          exact ⟨false, rfl, rfl, fun h => by cases h⟩
        · by_cases h3 : 1048576 < Z + lk
          · go_wp2
            go_ret
            exact ⟨false, rfl, rfl, fun h => by cases h⟩
          · go_wp2
            go_round
            case rel => exact ⟨k + 1, Z + lk, by omega, by omega, by go_num, by go_num, HAK.out (by omega)⟩
            case measure => simp [intOf]; omega
      · have HALL : Hid (∀ j, j < fs.length → (fat fs j).length ≤ 1048576) := fun j hj => HA.out j (by omega)
        clear HA
        by_cases h2 : 1048576 < s.size
        · go_wp2
          go_ret
          exact ⟨false, rfl, rfl, fun h => by cases h⟩
        · by_cases h3 : 1048576 < Z + s.size
          · go_wp2
            go_ret
            exact ⟨false, rfl, rfl, fun h => by cases h⟩
          · go_wp2
            go_ret
            exact ⟨true, rfl, rfl, fun _ => ⟨h1', by omega, HALL.out⟩⟩

/-- The slice at address a, in a block from lo on, reads as the bytes zs. -/
def RdL (lo : Nat) (w : World) (a : Option Addr) (zs : List Int) : Prop :=
  0 < zs.length → ∃ b off, a = some ⟨b, off, none⟩ ∧ lo ≤ b ∧ b < w.heap.size ∧ ∀ i, i < zs.length → w.cell? ⟨b, off + i, none⟩ = some (.int .u8 (gat zs i))

theorem RdL.rd {lo : Nat} {w : World} {a : Option Addr} {zs : List Int} (h : RdL lo w a zs) : Rd .u8 w a zs := fun h0 => by
  obtain ⟨b, off, ha, _, hb, hc⟩ := h h0
  exact ⟨b, off, ha, hb, hc⟩
theorem RdL.below {lo B : Nat} {w w' : World} {a : Option Addr} {zs : List Int} (h : RdL lo w a zs) (hb : Below B w w') (hB : w.heap.size ≤ B) : RdL lo w' a zs := fun h0 => by
  obtain ⟨b, off, ha, hlo, hbw, hc⟩ := h h0
  exact ⟨b, off, ha, hlo, Nat.lt_of_lt_of_le hbw hb.size, fun i hi => by rw [hb.cell (by show b < B; omega)]; exact hc i hi⟩
theorem RdL.setCell {lo : Nat} {w : World} {a : Option Addr} {zs : List Int} (h : RdL lo w a zs) (p : Addr) (hp : p.block < lo) (v : Value) : RdL lo (w.setCell p v) a zs := fun h0 => by
  obtain ⟨b, off, ha, hlo, hbw, hc⟩ := h h0
  refine ⟨b, off, ha, hlo, by simpa [World.setCell] using hbw, fun i hi => ?_⟩
  rw [World.cell?_of_block (w := w) (heap_setCell_other w p b v (by omega))]
  exact hc i hi
theorem RdL.mono {lo lo' : Nat} {w : World} {a : Option Addr} {zs : List Int} (h : RdL lo w a zs) (hl : lo' ≤ lo) : RdL lo' w a zs := fun h0 => by
  obtain ⟨b, off, ha, hlo, hbw, hc⟩ := h h0
  exact ⟨b, off, ha, by omega, hbw, hc⟩

theorem cloneB_lo (a : Option Addr) (zs : List Int) (cap : Nat) (w : World) (hn : a = none → zs = [] ∧ cap = 0) (hm : zs.length ≤ 1048576) (hr : Rd .u8 w a zs) :
    Calls Trym.prog 13 #[.slice a zs.length cap] w fun e w' => ∃ pa, e = .returned (.slice pa zs.length zs.length) ∧ Below w.heap.size w w' ∧ RdL w.heap.size w' pa zs := by
  cases a with
  | none =>
    obtain ⟨rfl, rfl⟩ := hn rfl
    refine (cloneB_nil w).mono ?_
    rintro e w' ⟨rfl, rfl⟩
    exact ⟨none, rfl, Below.refl _ _, fun h => absurd h (by simp)⟩
  | some x =>
    refine (cloneB_some x zs cap w hm hr).mono ?_
    rintro e w' ⟨rfl, hb, hrow⟩
    exact ⟨_, rfl, hb, fun _ => ⟨w.heap.size, 0, rfl, Nat.le_refl _, (Array.getElem?_eq_some_iff.1 hrow).1, fun i hi => row_cell hrow i hi⟩⟩

theorem Rd.same {k : IntKind} {w w' : World} {a : Option Addr} {zs : List Int} {B : Nat} (h : Rd k w a zs) (hb : Below B w w') (hB : w.heap.size ≤ B) : Rd k w' a zs := h.below hb hB

/-- The outer row after k rounds. -/
def Rows' (H : Nat) (w : World) (fs : List (List Int)) (k : Nat) (wr : World) : Prop :=
  Below H w wr ∧ ∃ cur : List Value, cur.length = fs.length ∧ wr.heap[H]? = some (.cells cur.toArray 24 (0, 0)) ∧
    ∀ j, j < k → ∃ pj, cur[j]? = some (.slice pj (fat fs j).length (fat fs j).length) ∧ RdL (H + 1) wr pj (fat fs j)

theorem rows_zero {H : Nat} {w w0 : World} {fs : List (List Int)} (hb : Below H w w0) (hrow : w0.heap[H]? = some (.cells (List.replicate fs.length (Value.slice none 0 0)).toArray 24 (0, 0))) : Rows' H w fs 0 w0 :=
  ⟨hb, _, by simp, hrow, fun j hj => absurd hj (by omega)⟩

theorem rows_step {H : Nat} {w wr w4 : World} {fs : List (List Int)} {k : Nat} {pa : Option Addr} (h : Rows' H w fs k wr) (hk : k < fs.length) (hb4 : Below wr.heap.size wr w4) (hr4 : RdL wr.heap.size w4 pa (fat fs k)) :
    Rows' H w fs (k + 1) (w4.setCell ⟨H, k, none⟩ (.slice pa (fat fs k).length (fat fs k).length)) := by
  obtain ⟨hb, cur, hcl, hrow, hj⟩ := h
  have hH : H < wr.heap.size := (Array.getElem?_eq_some_iff.1 hrow).1
  have hrow4 : w4.heap[H]? = some (.cells cur.toArray 24 (0, 0)) := by rw [hb4.block H hH]; exact hrow
  refine ⟨(hb.trans (hb4.mono (by omega))).setCell (Nat.le_refl _) _, cur.set k (.slice pa (fat fs k).length (fat fs k).length), by simpa using hcl, ?_, fun j hjk => ?_⟩
  · rw [heap_setCell_same w4 H k _ _ _ hrow4]; simp
  · by_cases e : j = k
    · subst e
      exact ⟨pa, by simp [hcl, hk], (hr4.mono (by omega)).setCell _ (by show H < H + 1; omega) _⟩
    · obtain ⟨pj, h1, h2⟩ := hj j (by omega)
      exact ⟨pj, by rw [List.getElem?_set_ne (by omega)]; exact h1, (h2.below hb4 (Nat.le_refl _)).setCell _ (by show H < H + 1; omega) _⟩

theorem rows_cell {H : Nat} {w wr w4 : World} {fs : List (List Int)} {k : Nat} (h : Rows' H w fs k wr) (hk : k < fs.length) (hb4 : Below wr.heap.size wr w4) : (∃ v, w4.cell? ⟨H, k, none⟩ = some v) ∧ w4.frozen? ⟨H, k, none⟩ = false := by
  obtain ⟨hb, cur, hcl, hrow, hj⟩ := h
  have hH : H < wr.heap.size := (Array.getElem?_eq_some_iff.1 hrow).1
  have hrow4 : w4.heap[H]? = some (.cells cur.toArray 24 (0, 0)) := by rw [hb4.block H hH]; exact hrow
  exact ⟨⟨cur[k], by rw [cell_of_row w4 H k _ _ _ hrow4]; simp⟩, frozen_of_row w4 H k _ _ hrow4⟩

/-- A [][]byte of the call's own that reads as fs. -/
def RdG (w : World) (a : Option Addr) (fs : List (List Int)) : Prop :=
  0 < fs.length → ∃ b off, a = some ⟨b, off, none⟩ ∧ b < w.heap.size ∧ ∀ i, i < fs.length → ∃ ai ci, w.cell? ⟨b, off + i, none⟩ = some (.slice ai (fat fs i).length ci) ∧ Rd .u8 w ai (fat fs i)

theorem RdG.below {B : Nat} {w w' : World} {a : Option Addr} {fs : List (List Int)} (h : RdG w a fs) (hb : Below B w w') (hB : w.heap.size ≤ B) : RdG w' a fs := fun h0 => by
  obtain ⟨b, off, ha, hbw, hc⟩ := h h0
  refine ⟨b, off, ha, Nat.lt_of_lt_of_le hbw hb.size, fun i hi => ?_⟩
  obtain ⟨ai, ci, h1, h2⟩ := hc i hi
  exact ⟨ai, ci, by rw [hb.cell (by show b < B; omega)]; exact h1, h2.below hb hB⟩

theorem rows_end {H : Nat} {w wr : World} {fs : List (List Int)} (h : Rows' H w fs fs.length wr) : RdG wr (some ⟨H, 0, none⟩) fs := fun _ => by
  obtain ⟨hb, cur, hcl, hrow, hj⟩ := h
  refine ⟨H, 0, rfl, (Array.getElem?_eq_some_iff.1 hrow).1, fun i hi => ?_⟩
  obtain ⟨pj, h1, h2⟩ := hj i hi
  exact ⟨pj, _, by rw [Nat.zero_add, cell_of_row wr H i _ _ _ hrow]; simpa using h1, h2.rd⟩

theorem Trym.info24 : (Trym.prog.info? 24).map (fun i => (i.zero, i.size, i.bytes)) = some (some (.slice none 0 0), 1, 24) := by kernel_rfl

set_option maxRecDepth 100000 in
set_option maxHeartbeats 1000000 in
/-- b1CloneFields, of a slice that is not nil -/
theorem cloneF_some (x : Addr) (fs : List (List Int)) (cap : Nat) (w : World) (hm : fs.length ≤ 1048576) (hl : ∀ i, i < fs.length → (fat fs i).length ≤ 1048576) (hr : RdF w (some x) fs) :
    Calls Trym.prog 6 #[.slice (some x) fs.length cap] w fun e w' => e = .returned (.slice (some ⟨w.heap.size, 0, none⟩) fs.length fs.length) ∧ Below w.heap.size w w' ∧ RdG w' (some ⟨w.heap.size, 0, none⟩) fs := by
  obtain ⟨i0, hi, hz0, hz1, hz2⟩ := info_parts Trym.info24
  have hnil := fun wx a l c => Lib.run_eql_slice_nil (P := Trym.prog) wx 22 24 a l c 0 0 Trym.underlying22
  have HR : Hid (RdF w (some x) fs) := hr
  have HL : Hid (∀ i, i < fs.length → (fat fs i).length ≤ 1048576) := hl
  clear hr hl
  go_enter Trym.func6, Trym.ntmps6
  go_wp2_with (at_make; refine wpList_make_full _ rfl _ _ 22 rfl w.heap.size 24 i0 (.slice none 0 0) 1 Trym.underlying22 hi hz0 hz1 .i64 .i64 _ _ fs.length rfl rfl (by omega) (by omega) (by rw [hz2]; omega) (by unfold maxLen; omega) (Nat.le_refl _) ?_; intro w0 hown0 hgrow0)
  have HP : Hid (Rows' w.heap.size w fs 0 w0) := rows_zero ((Below.refl w.heap.size w).grown hgrow0 (Nat.le_refl _) (fun k hk => by cases hk)) (row_of_made hown0 rfl)
  clear hown0 hgrow0 hi hz0 hz1 hz2 hnil
  go_wp2
  go_loopw [4] (fun t wr => ∃ k : Nat, k ≤ fs.length ∧ t = .int .i64 k ∧ Hid (Rows' w.heap.size w fs k wr)) (fun t _ => fs.length - (intOf t).toNat)
  case atStart => exact ⟨0, Nat.zero_le _, rfl, HP⟩
  case round =>
    obtain ⟨k, hk, rfl, HRow⟩ := hrel
    clear HP
    by_cases hlt : k < fs.length
    · obtain ⟨b, off, hx, hbw, hc⟩ := HR.out (by omega)
      obtain rfl : x = ⟨b, off, none⟩ := by simpa using hx
      clear hx
      obtain ⟨ai, ci, hcell, hnone, hrd⟩ := hc k hlt
      have hcell' : wr.cell? ⟨b, off + k, none⟩ = some (.slice ai (fat fs k).length ci) := (HRow.out.1.cell (by exact hbw)).trans hcell
      have HNONE : Hid (ai = none → fat fs k = [] ∧ ci = 0) := hnone
      have HRD : Hid (Rd .u8 wr ai (fat fs k)) := hrd.below HRow.out.1 (Nat.le_refl _)
      clear hc hcell hnone hrd
      go_wp2_with (go_at_call 13; refine (cloneB_lo ai (fat fs k) ci _ HNONE.out (HL.out k hlt) HRD.out).mono ?_; rintro e w4 ⟨pa, rfl, hb4, hr4⟩; have hrc := rows_cell HRow.out hlt hb4; obtain ⟨⟨v4, hcv⟩, hfz⟩ := hrc; have HB4 : Hid (Below wr.heap.size wr w4) := hb4; have HR4 : Hid (RdL wr.heap.size w4 pa (fat fs k)) := hr4; clear hb4 hr4)
      go_roundw
      case rel => exact ⟨k + 1, by omega, by go_num, rows_step HRow.out hlt HB4.out HR4.out⟩
      case measure => simp [intOf]; omega
    · obtain rfl : k = fs.length := by omega
      have HE : Hid (RdG wr (some ⟨w.heap.size, 0, none⟩) fs) := rows_end HRow.out
      have HB : Hid (Below w.heap.size w wr) := HRow.out.1
      clear HRow
      go_wp2
      go_ret
      exact ⟨rfl, HB.out, HE.out⟩

theorem cloneF_nil (w : World) : Calls Trym.prog 6 #[.slice none 0 0] w fun e w' => e = .returned (.slice none 0 0) ∧ w' = w := by
  have hnil := fun wx a l c => Lib.run_eql_slice_nil (P := Trym.prog) wx 22 24 a l c 0 0 Trym.underlying22
  go_enter Trym.func6, Trym.ntmps6
  go_wp2
  go_ret
  exact ⟨rfl, rfl⟩

/-- b1CloneFields -/
theorem cloneF_any (a : Option Addr) (fs : List (List Int)) (cap : Nat) (w : World) (hn : a = none → fs = [] ∧ cap = 0) (hm : fs.length ≤ 1048576) (hl : ∀ i, i < fs.length → (fat fs i).length ≤ 1048576) (hr : RdF w a fs) :
    Calls Trym.prog 6 #[.slice a fs.length cap] w fun e w' => ∃ pa, e = .returned (.slice pa fs.length fs.length) ∧ Below w.heap.size w w' ∧ RdG w' pa fs := by
  cases a with
  | none =>
    obtain ⟨rfl, rfl⟩ := hn rfl
    refine (cloneF_nil w).mono ?_
    rintro e w' ⟨rfl, rfl⟩
    exact ⟨none, rfl, Below.refl _ _, fun h => absurd h (by simp)⟩
  | some x =>
    refine (cloneF_some x fs cap w hm hl hr).mono ?_
    rintro e w' ⟨rfl, hb, hrow⟩
    exact ⟨_, rfl, hb, hrow⟩

end Go.Proofs.Qxb6603133aMods
