import Derived.Test.Qxb6603133aModsWalkC
namespace Go.Proofs.Qxb6603133aMods
open Go.RowKit

/-- The codec's struct lies whole in block D. -/
def Cod (md : Int) (D : Nat) (a : Option Addr) (len cap : Nat) (sh : Bool) (sz : Int) (w : World) : Prop :=
  w.heap[D]? = some (.cells #[.int .i64 md, .slice a len cap, .bool sh, .int .i64 sz] 40 (0, 0))

theorem Cod.c0 {md : Int} {D : Nat} {a : Option Addr} {len cap : Nat} {sh : Bool} {sz : Int} {w : World} (h : Cod md D a len cap sh sz w) : w.cell? ⟨D, 0, none⟩ = some (.int .i64 md) := by rw [cell_of_row w D 0 _ _ _ h]; rfl
theorem Cod.c1 {md : Int} {D : Nat} {a : Option Addr} {len cap : Nat} {sh : Bool} {sz : Int} {w : World} (h : Cod md D a len cap sh sz w) : w.cell? ⟨D, 1, none⟩ = some (.slice a len cap) := by rw [cell_of_row w D 1 _ _ _ h]; rfl
theorem Cod.c2 {md : Int} {D : Nat} {a : Option Addr} {len cap : Nat} {sh : Bool} {sz : Int} {w : World} (h : Cod md D a len cap sh sz w) : w.cell? ⟨D, 2, none⟩ = some (.bool sh) := by rw [cell_of_row w D 2 _ _ _ h]; rfl
theorem Cod.c3 {md : Int} {D : Nat} {a : Option Addr} {len cap : Nat} {sh : Bool} {sz : Int} {w : World} (h : Cod md D a len cap sh sz w) : w.cell? ⟨D, 3, none⟩ = some (.int .i64 sz) := by rw [cell_of_row w D 3 _ _ _ h]; rfl
theorem Cod.fz {md : Int} {D : Nat} {a : Option Addr} {len cap : Nat} {sh : Bool} {sz : Int} {w : World} (h : Cod md D a len cap sh sz w) : ∀ j, w.frozen? ⟨D, j, none⟩ = false := fun j => frozen_of_row w D j _ _ h
theorem Cod.lt {md : Int} {D : Nat} {a : Option Addr} {len cap : Nat} {sh : Bool} {sz : Int} {w : World} (h : Cod md D a len cap sh sz w) : D < w.heap.size := (Array.getElem?_eq_some_iff.1 h).1
theorem Cod.set1 {md : Int} {D : Nat} {a : Option Addr} {len cap : Nat} {sh : Bool} {sz : Int} {w : World} (h : Cod md D a len cap sh sz w) (a' : Option Addr) (len' cap' : Nat) : Cod md D a' len' cap' sh sz (w.setCell ⟨D, 1, none⟩ (.slice a' len' cap')) := by
  unfold Cod; rw [heap_setCell_same w D 1 _ _ _ h]; rfl
theorem Cod.set2 {md : Int} {D : Nat} {a : Option Addr} {len cap : Nat} {sh : Bool} {sz : Int} {w : World} (h : Cod md D a len cap sh sz w) (sh' : Bool) : Cod md D a len cap sh' sz (w.setCell ⟨D, 2, none⟩ (.bool sh')) := by
  unfold Cod; rw [heap_setCell_same w D 2 _ _ _ h]; rfl
theorem Cod.set3 {md : Int} {D : Nat} {a : Option Addr} {len cap : Nat} {sh : Bool} {sz : Int} {w : World} (h : Cod md D a len cap sh sz w) (sz' : Int) : Cod md D a len cap sh sz' (w.setCell ⟨D, 3, none⟩ (.int .i64 sz')) := by
  unfold Cod; rw [heap_setCell_same w D 3 _ _ _ h]; rfl
theorem Cod.new (md : Int) (a : Option Addr) (len cap : Nat) (sh : Bool) (sz : Int) (w : World) : Cod md w.heap.size a len cap sh sz (w.alloc (.cells #[.int .i64 md, .slice a len cap, .bool sh, .int .i64 sz] 40)) := heap_alloc_new w _
theorem Cod.drewN {md : Int} {D : Nat} {a : Option Addr} {len cap : Nat} {sh : Bool} {sz : Int} {w : World} (h : Cod md D a len cap sh sz w) (q : Nat) : Cod md D a len cap sh sz (w.drewN q) := h
theorem Cod.above {md : Int} {D B : Nat} {a : Option Addr} {len cap : Nat} {sh : Bool} {sz : Int} {w w' : World} (h : Cod md D a len cap sh sz w) (hb : Below B w w') (hB : D < B) : Cod md D a len cap sh sz w' := by
  unfold Cod; rw [hb.block D hB]; exact h

/-- ZZField, decoding, a field that fits -/
theorem zfield_fit (D : Nat) (a : Option Addr) (len cap : Nat) (sh : Bool) (sz : Int) (k : Int) (w : World) (hk0 : 0 ≤ k) (hk : k ≤ len) (hlc : len ≤ cap) (hcm : cap ≤ 281474976710656) (h : Cod 1 D a len cap sh sz w) :
    Calls Trym.prog 8 #[.pointer (some ⟨D, 0, none⟩), .int .i64 k] w fun e w' => e = .returned (.slice a k.toNat cap) ∧ Cod 1 D (adv a cap k.toNat) (len - k.toNat) (cap - k.toNat) sh sz w' ∧ Below D w w' := by
  have HCod : Hid (Cod 1 D a len cap sh sz w) := h
  clear h
  go_enter Trym.func8, Trym.ntmps8
  go_wp2_with (go_at_call 15; refine (field_fit D a len cap k _ hk0 hk hlc hcm (HCod.out.c0) (HCod.out.c1) (HCod.out.fz)).mono ?_; rintro e w' ⟨rfl, rfl⟩)
  go_ret
  exact ⟨rfl, HCod.out.set1 _ _ _, (Below.refl D w).setCell (Nat.le_refl _) _⟩

/-- ZZField, decoding, a field that does not fit -/
theorem zfield_over (D : Nat) (a : Option Addr) (len cap : Nat) (sh : Bool) (sz : Int) (k : Int) (w : World) (hk : (len : Int) < k) (h : Cod 1 D a len cap sh sz w) :
    Calls Trym.prog 8 #[.pointer (some ⟨D, 0, none⟩), .int .i64 k] w fun e w' => e = .returned (.slice none 0 0) ∧ Cod 1 D none 0 0 true sz w' ∧ Below D w w' := by
  have HCod : Hid (Cod 1 D a len cap sh sz w) := h
  clear h
  go_enter Trym.func8, Trym.ntmps8
  go_wp2_with (go_at_call 15; refine (field_over D a len cap k sh _ hk (HCod.out.c0) (HCod.out.c1) (HCod.out.c2) (HCod.out.fz)).mono ?_; rintro e w' ⟨rfl, rfl⟩)
  go_ret
  exact ⟨rfl, (HCod.out.set2 true).set1 _ _ _, ((Below.refl D w).setCell (p := ⟨D, 2, none⟩) (Nat.le_refl _) _).setCell (Nat.le_refl _) _⟩

/-- ZZState -/
theorem zstate (md : Int) (D : Nat) (a : Option Addr) (len cap : Nat) (sh : Bool) (sz : Int) (w : World) (h : Cod md D a len cap sh sz w) :
    Calls Trym.prog 10 #[.pointer (some ⟨D, 0, none⟩)] w fun e w' => e = .returned (.tuple #[.slice a len cap, .bool sh, .int .i64 sz]) ∧ ∃ q, w' = w.drewN q :=
  state_any D a len cap sh sz w h.c1 h.c2 h.c3

/-- A string variable lies in block V. -/
def Sv (V : Nat) (s : ByteArray) (w : World) : Prop := w.heap[V]? = some (.cells #[.string s] 9 (0, 0))

/-- ZZRest, decoding -/
theorem zrest_dec (D V : Nat) (a : Option Addr) (zs : List Int) (cap : Nat) (sh : Bool) (sz : Int) (old : ByteArray) (w : World) (hDV : D < V) (hr : Rd .u8 w a zs) (h : Cod 1 D a zs.length cap sh sz w) (hv : Sv V old w) :
    Calls Trym.prog 9 #[.pointer (some ⟨D, 0, none⟩), .pointer (some ⟨V, 0, none⟩)] w fun e w' => e = .returned (.tuple #[]) ∧ Cod 1 D none 0 0 sh sz w' ∧ Sv V (strOfNums zs) w' ∧ Below D w w' := by
  have hconv := conv_rd hr cap
  have HCod : Hid (Cod 1 D a zs.length cap sh sz w) := h
  have HV : Hid (Sv V old w) := hv
  have HCV : Hid ((convert 24 9 (.slice a zs.length cap)).run Trym.prog w = .ok (.string (strOfNums zs)) w) := hconv
  clear h hv hconv hr
  go_enter Trym.func9, Trym.ntmps9
  go_wp2_with (go_at_call 16; refine (rest_dec D V a zs.length cap old _ _ HCV.out (HCod.out.c0) (HCod.out.c1) (by rw [cell_of_row _ V 0 _ _ _ HV.out]; rfl) (HCod.out.fz) (frozen_of_row _ V 0 _ _ HV.out) (by omega)).mono ?_; rintro e w' ⟨rfl, rfl⟩)
  go_end0
  have hc2 : Cod 1 D a zs.length cap sh sz (w.setCell ⟨V, 0, none⟩ (.string (strOfNums zs))) := by
    unfold Cod; rw [heap_setCell_other _ _ _ _ (show D ≠ V by omega)]; exact HCod.out
  refine ⟨rfl, hc2.set1 _ _ _, ?_, ((Below.refl D w).setCell (p := ⟨V, 0, none⟩) (by show D ≤ V; omega) _).setCell (Nat.le_refl _) _⟩
  unfold Sv
  rw [heap_setCell_other _ _ _ _ (show V ≠ D by omega), heap_setCell_same w V 0 _ _ _ HV.out]
  rfl

end Go.Proofs.Qxb6603133aMods
