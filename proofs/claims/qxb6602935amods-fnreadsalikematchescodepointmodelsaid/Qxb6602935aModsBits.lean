import Derived.Laws.BitsAllLaws
import Derived.IntWalk
import Derived.WalkKit
namespace Go.Proofs.Qxb6602935aMods
open Go.RowKit

theorem or_i64 (r y : Int) (h0 : 0 ≤ r) (h1 : r ≤ 16777216) (h2 : 0 ≤ y) (h3 : y < 64) : bits .or .i64 (r * 64) y = r * 64 + y := by
  obtain ⟨a, rfl⟩ := Int.eq_ofNat_of_zero_le h0
  obtain ⟨b, rfl⟩ := Int.eq_ofNat_of_zero_le h2
  show IntKind.i64.wrap ((BitVec.ofInt 64 ((a : Int) * 64) ||| BitVec.ofInt 64 (b : Int)).toNat : Int) = _
  have e : (a : Int) * 64 = ((64 * a : Nat) : Int) := by omega
  rw [e, BitVec.ofInt_natCast, BitVec.ofInt_natCast, BitVec.toNat_or, BitVec.toNat_ofNat, BitVec.toNat_ofNat, Nat.mod_eq_of_lt (by omega), Nat.mod_eq_of_lt (by omega)]
  have h := Nat.two_pow_add_eq_or_of_lt (i := 6) (b := b) (by omega) a
  rw [show (2 : Nat) ^ 6 = 64 from rfl] at h
  rw [← h]
  have hw : IntKind.i64.wrap ((64 * a + b : Nat) : Int) = ((64 * a + b : Nat) : Int) := by
    have hm : ((64 * a + b : Nat) : Int) % 2 ^ 64 = ((64 * a + b : Nat) : Int) := Int.emod_eq_of_lt (by omega) (by omega)
    simp only [IntKind.wrap, IntKind.bits, IntKind.signed, hm]
    rw [if_neg]
    simp
    omega
  rw [hw]; omega

theorem and192_fin : ∀ n : Fin 256, (bits .and .u8 (n.val : Int) 192 != 128) = !(decide (128 ≤ n.val) && decide (n.val ≤ 191)) := by decide +kernel

theorem and192 (x : Int) (h0 : 0 ≤ x) (h1 : x ≤ 255) : (bits .and .u8 x 192 != 128) = !(decide (128 ≤ x ∧ x ≤ 191)) := by
  obtain ⟨a, rfl⟩ := Int.eq_ofNat_of_zero_le h0
  have h := and192_fin ⟨a, by omega⟩
  simp only at h
  rw [h, Bool.eq_iff_iff]
  simp
  omega

theorem or32_fin : ∀ n : Fin 256, bits .or .u8 (n.val : Int) 32 = if (n.val / 32) % 2 = 1 then (n.val : Int) else (n.val : Int) + 32 := by decide +kernel

theorem or32 (x : Int) (h0 : 0 ≤ x) (h1 : x ≤ 255) : bits .or .u8 x 32 = if (x / 32) % 2 = 1 then x else x + 32 := by
  obtain ⟨a, rfl⟩ := Int.eq_ofNat_of_zero_le h0
  have h := or32_fin ⟨a, by omega⟩
  simp only at h
  rw [h]
  split <;> split <;> omega

end Go.Proofs.Qxb6602935aMods
