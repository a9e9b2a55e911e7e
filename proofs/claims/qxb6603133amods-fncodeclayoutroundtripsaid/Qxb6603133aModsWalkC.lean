import Derived.Test.Qxb6603133aModsWalkA
import Derived.Test.Qxb6603133aModsWalkB
import Derived.Laws.BytesArg
import Derived.Laws.IdiomStrings
import Derived.Lib.Strings
namespace Go.Proofs.Qxb6603133aMods
open Go.RowKit

theorem Rd.below {k : IntKind} {B : Nat} {w w' : World} {a : Option Addr} {zs : List Int} (h : Rd k w a zs) (hb : Below B w w') (hB : w.heap.size ≤ B) : Rd k w' a zs := fun h0 => by
  obtain ⟨b, off, ha, hbw, hc⟩ := h h0
  exact ⟨b, off, ha, Nat.lt_of_lt_of_le hbw hb.size, fun i hi => by rw [hb.cell (by show b < B; omega)]; exact hc i hi⟩

theorem adv_some (b off cap j : Nat) (h : j < cap) : adv (some (⟨b, off, none⟩ : Addr)) cap j = some ⟨b, off + j, none⟩ := by
  unfold adv
  rw [if_neg (by omega), Option.map_some, WideShapes.add_plain]

theorem Rd.cut {k : IntKind} {w : World} {a : Option Addr} {zs : List Int} (h : Rd k w a zs) (cap j : Nat) (hc : zs.length ≤ cap) : Rd k w (adv a cap j) (zs.drop j) := fun h0 => by
  have hl : (zs.drop j).length = zs.length - j := by simp
  obtain ⟨b, off, rfl, hbw, hcell⟩ := h (by omega)
  refine ⟨b, off + j, adv_some b off cap j (by omega), hbw, fun i hi => ?_⟩
  rw [gat_drop, Nat.add_assoc]
  exact hcell (j + i) (by omega)

theorem Rd.pre {k : IntKind} {w : World} {a : Option Addr} {zs : List Int} (h : Rd k w a zs) (j : Nat) : Rd k w a (zs.take j) := fun h0 => by
  have hl : (zs.take j).length = min j zs.length := by simp
  obtain ⟨b, off, rfl, hbw, hcell⟩ := h (by omega)
  exact ⟨b, off, rfl, hbw, fun i hi => by rw [gat_take _ _ _ (by omega)]; exact hcell i (by omega)⟩

/-- 'string(b)' of a slice that reads as zs. -/
theorem conv_rd {w : World} {a : Option Addr} {zs : List Int} (h : Rd .u8 w a zs) (cap : Nat) : (convert 24 9 (.slice a zs.length cap)).run Trym.prog w = .ok (.string (strOfNums zs)) w := by
  by_cases h0 : 0 < zs.length
  · obtain ⟨b, off, rfl, _, hcell⟩ := h h0
    exact run_convert_bytes_arg (P := Trym.prog) w 24 5 Trym.underlying24 Trym.underlying5 b off zs.length cap zs rfl hcell 9 Trym.underlying9
  · obtain rfl : zs = [] := List.eq_nil_of_length_eq_zero (by omega)
    cases a with
    | none => exact run_convert_bytes_nil (P := Trym.prog) w 24 5 Trym.underlying24 Trym.underlying5 0 cap 9 Trym.underlying9
    | some x => exact run_convert_bytes_back (P := Trym.prog) w 24 9 5 x cap [] Trym.underlying24 Trym.underlying5 Trym.underlying9 (fun j hj => absurd hj (by simp))

theorem str_at (zs : List Int) (hb : Byt zs) (i : Nat) (h : i < (strOfNums zs).size) : (((strOfNums zs)[i]).toNat : Int) = gat zs i := by
  have h' : i < zs.length := by rwa [strOfNums_size] at h
  have e : (strOfNums zs)[i] = UInt8.ofNat (zs[i]).toNat := by
    show (strOfNums zs).data[i] = _
    simp [strOfNums]
  have hbi := hb i
  rw [gat_at _ _ h'] at hbi ⊢
  rw [e, UInt8.toNat_ofNat']
  omega

theorem cloneB_any (a : Option Addr) (zs : List Int) (cap : Nat) (w : World) (hn : a = none → zs = [] ∧ cap = 0) (hm : zs.length ≤ 1048576) (hr : Rd .u8 w a zs) :
    Calls Trym.prog 13 #[.slice a zs.length cap] w fun e w' => ∃ pa, e = .returned (.slice pa zs.length zs.length) ∧ Below w.heap.size w w' ∧ Rd .u8 w' pa zs := by
  cases a with
  | none =>
    obtain ⟨rfl, rfl⟩ := hn rfl
    refine (cloneB_nil w).mono ?_
    rintro e w' ⟨rfl, rfl⟩
    exact ⟨none, rfl, Below.refl _ _, fun h => absurd h (by simp)⟩
  | some x =>
    refine (cloneB_some x zs cap w hm hr).mono ?_
    rintro e w' ⟨rfl, hb, hrow⟩
    exact ⟨_, rfl, hb, fun _ => ⟨w.heap.size, 0, rfl, (Array.getElem?_eq_some_iff.1 hrow).1, fun i hi => row_cell hrow i hi⟩⟩

theorem cloneI_any (a : Option Addr) (zs : List Int) (cap : Nat) (w : World) (hn : a = none → zs = [] ∧ cap = 0) (hm : zs.length ≤ 1048576) (hr : Rd .i64 w a zs) :
    Calls Trym.prog 14 #[.slice a zs.length cap] w fun e w' => ∃ pa, e = .returned (.slice pa zs.length zs.length) ∧ Below w.heap.size w w' ∧ Rd .i64 w' pa zs := by
  cases a with
  | none =>
    obtain ⟨rfl, rfl⟩ := hn rfl
    refine (cloneI_nil w).mono ?_
    rintro e w' ⟨rfl, rfl⟩
    exact ⟨none, rfl, Below.refl _ _, fun h => absurd h (by simp)⟩
  | some x =>
    refine (cloneI_some x zs cap w hm hr).mono ?_
    rintro e w' ⟨rfl, hb, hrow⟩
    exact ⟨_, rfl, hb, fun _ => ⟨w.heap.size, 0, rfl, (Array.getElem?_eq_some_iff.1 hrow).1, fun i hi => row_cell hrow i hi⟩⟩

/-- b1Same, of two slices that read alike -/
theorem same_eq (a1 a2 : Option Addr) (zs : List Int) (k1 k2 : Nat) (w : World) (hm : zs.length ≤ 1048576) (h1 : Rd .u8 w a1 zs) (h2 : Rd .u8 w a2 zs) :
    Calls Trym.prog 11 #[.slice a1 zs.length k1, .slice a2 zs.length k2] w fun e w' => e = .returned (.bool true) ∧ ∃ q, w' = w.drewN q := by
  by_cases h0 : 0 < zs.length
  · obtain ⟨b1, o1, rfl, _, c1⟩ := h1 h0
    obtain ⟨b2, o2, rfl, _, c2⟩ := h2 h0
    have C1 : Hid (∀ i, i < zs.length → w.cell? ⟨b1, o1 + i, none⟩ = some (.int .u8 (gat zs i))) := c1
    have C2 : Hid (∀ i, i < zs.length → w.cell? ⟨b2, o2 + i, none⟩ = some (.int .u8 (gat zs i))) := c2
    clear c1 c2 h1 h2
    go_enter Trym.func11, Trym.ntmps11
    go_wp2
    go_loopw [5] (fun t wr => ∃ k q : Nat, k ≤ zs.length ∧ t = .int .i64 k ∧ wr = w.drewN q) (fun t _ => zs.length - (intOf t).toNat)
    case atStart => exact ⟨0, 0, Nat.zero_le _, rfl, rfl⟩
    case round =>
      obtain ⟨k, q, hk, rfl, rfl⟩ := hrel
      by_cases hlt : k < zs.length
      · have d1 := C1.out k hlt
        have d2 := C2.out k hlt
        have hlt' : (k : Int) < (zs.length : Int) := by omega
        go_wp2
        go_quiet (fail)
        go_wp2
        go_roundw
        case rel => exact ⟨k + 1, _, by omega, by go_num, by first | rfl | exact World.drewN_drewN _ _ _⟩
        case measure => simp [intOf]; omega
      · go_wp2
        go_ret
        exact ⟨rfl, _, rfl⟩
  · obtain rfl : zs = [] := List.eq_nil_of_length_eq_zero (by omega)
    clear h1 h2
    go_enter Trym.func11, Trym.ntmps11
    go_wp2
    go_loop [5] (fun t => t = .int .i64 0) (fun _ => 0)
    case atStart => rfl
    case round =>
      subst hrel
      go_wp2
      go_ret
      exact ⟨rfl, 0, rfl⟩

end Go.Proofs.Qxb6603133aMods
