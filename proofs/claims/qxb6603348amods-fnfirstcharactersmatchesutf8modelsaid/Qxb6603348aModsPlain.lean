/- THE PLAIN SIDE: the width of a character by UTF-8's table; where character n starts. -/
import Derived.Lib.DecodeN
import Derived.Lib.Strings
import Derived.Laws.RangeAny
namespace Go.Proofs.Qxb6603348aMods
open Go

/-- The byte at place j, as a number (0 beyond the end). A plain def: the walk does not look behind it. -/
def bt (s : ByteArray) (j : Nat) : Int := ((s.get! j).toNat : Int)
theorem bt_at (s : ByteArray) (j : Nat) (h : j < s.size) : ((s[j]'h).toNat : Int) = bt s j := by
  unfold bt
  have : s.get! j = s[j]'h := get_at s j h
  rw [this]
theorem bt_bounds (s : ByteArray) (j : Nat) : 0 ≤ bt s j ∧ bt s j ≤ 255 := by
  unfold bt
  have := (s.get! j).toNat_lt
  omega

def cont (b : Int) : Prop := 128 ≤ b ∧ b ≤ 191

/-- The width by the table: n bytes are left, they begin b0 b1 b2 b3. -/
def wS (n : Nat) (b0 b1 b2 b3 : Int) : Nat :=
  if b0 < 128 then 1
  else if 194 ≤ b0 ∧ b0 ≤ 223 then (if 2 ≤ n ∧ 128 ≤ b1 ∧ b1 ≤ 191 then 2 else 1)
  else if b0 = 224 then (if 3 ≤ n ∧ 160 ≤ b1 ∧ b1 ≤ 191 ∧ 128 ≤ b2 ∧ b2 ≤ 191 then 3 else 1)
  else if b0 = 237 then (if 3 ≤ n ∧ 128 ≤ b1 ∧ b1 ≤ 159 ∧ 128 ≤ b2 ∧ b2 ≤ 191 then 3 else 1)
  else if 224 ≤ b0 ∧ b0 ≤ 239 then (if 3 ≤ n ∧ 128 ≤ b1 ∧ b1 ≤ 191 ∧ 128 ≤ b2 ∧ b2 ≤ 191 then 3 else 1)
  else if b0 = 240 then (if 4 ≤ n ∧ 144 ≤ b1 ∧ b1 ≤ 191 ∧ 128 ≤ b2 ∧ b2 ≤ 191 ∧ 128 ≤ b3 ∧ b3 ≤ 191 then 4 else 1)
  else if b0 = 244 then (if 4 ≤ n ∧ 128 ≤ b1 ∧ b1 ≤ 143 ∧ 128 ≤ b2 ∧ b2 ≤ 191 ∧ 128 ≤ b3 ∧ b3 ≤ 191 then 4 else 1)
  else if 240 ≤ b0 ∧ b0 ≤ 244 then (if 4 ≤ n ∧ 128 ≤ b1 ∧ b1 ≤ 191 ∧ 128 ≤ b2 ∧ b2 ≤ 191 ∧ 128 ≤ b3 ∧ b3 ≤ 191 then 4 else 1)
  else 1

set_option maxRecDepth 100000 in
set_option maxHeartbeats 4000000 in
theorem wS_is (n b0 b1 b2 b3 : Nat) (h0 : b0 < 256) (h1 : b1 < 256) (h2 : b2 < 256) (h3 : b3 < 256) : (Lib.decodeN n b0 b1 b2 b3).2 = wS n b0 b1 b2 b3 := by
  unfold Lib.decodeN wS
  by_cases c0 : b0 < 128
  · rw [if_pos c0, if_pos (show (b0 : Int) < 128 by omega)]
  · rw [if_neg c0, if_neg (show ¬ ((b0 : Int) < 128) by omega)]
    by_cases c1 : 194 ≤ b0 ∧ b0 ≤ 223
    · rw [if_pos (show (194 : Int) ≤ b0 ∧ (b0 : Int) ≤ 223 by omega)]
      repeat' split
      all_goals first | rfl | (exfalso; omega)
    · rw [if_neg (show ¬ ((194 : Int) ≤ b0 ∧ (b0 : Int) ≤ 223) by omega)]
      by_cases c2 : b0 = 224
      · subst c2
        repeat' split
        all_goals first | rfl | (exfalso; omega)
      · rw [if_neg (show ¬ ((b0 : Int) = 224) by omega)]
        by_cases c3 : b0 = 237
        · subst c3
          repeat' split
          all_goals first | rfl | (exfalso; omega)
        · rw [if_neg (show ¬ ((b0 : Int) = 237) by omega)]
          by_cases c4 : 224 ≤ b0 ∧ b0 ≤ 239
          · rw [if_pos (show (224 : Int) ≤ b0 ∧ (b0 : Int) ≤ 239 by omega)]
            repeat' split
            all_goals first | rfl | (exfalso; omega)
          · rw [if_neg (show ¬ ((224 : Int) ≤ b0 ∧ (b0 : Int) ≤ 239) by omega)]
            by_cases c5 : b0 = 240
            · subst c5
              repeat' split
              all_goals first | rfl | (exfalso; omega)
            · rw [if_neg (show ¬ ((b0 : Int) = 240) by omega)]
              by_cases c6 : b0 = 244
              · subst c6
                repeat' split
                all_goals first | rfl | (exfalso; omega)
              · rw [if_neg (show ¬ ((b0 : Int) = 244) by omega)]
                repeat' split
                all_goals first | rfl | (exfalso; omega)

/-- The width of the character at place i. -/
def wd (s : ByteArray) (i : Nat) : Nat := wS (s.size - i) (bt s i) (bt s (i + 1)) (bt s (i + 2)) (bt s (i + 3))
theorem wd_is (s : ByteArray) (i : Nat) : (Utf8.decode s i).2 = wd s i := by
  rw [Lib.decode_at, wS_is _ _ _ _ _ (UInt8.toNat_lt _) (UInt8.toNat_lt _) (UInt8.toNat_lt _) (UInt8.toNat_lt _)]
  rfl
theorem wS_pos (n : Nat) (b0 b1 b2 b3 : Int) : 1 ≤ wS n b0 b1 b2 b3 := by
  unfold wS
  repeat' split
  all_goals omega
theorem wS_le (n : Nat) (b0 b1 b2 b3 : Int) (h : 1 ≤ n) : wS n b0 b1 b2 b3 ≤ n := by
  unfold wS
  repeat' split
  all_goals omega
theorem wd_bounds (s : ByteArray) (i : Nat) (h : i < s.size) : 1 ≤ wd s i ∧ i + wd s i ≤ s.size := by
  have h1 := wS_pos (s.size - i) (bt s i) (bt s (i + 1)) (bt s (i + 2)) (bt s (i + 3))
  have h2 := wS_le (s.size - i) (bt s i) (bt s (i + 1)) (bt s (i + 2)) (bt s (i + 3)) (by omega)
  unfold wd
  omega

end Go.Proofs.Qxb6603348aMods
