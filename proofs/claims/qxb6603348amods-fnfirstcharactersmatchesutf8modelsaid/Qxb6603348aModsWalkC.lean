import Derived.Test.Qxb6603348aModsWalkB
namespace Go.Proofs.Qxb6603348aMods
open Go.RowKit

theorem ret_int {k : IntKind} {a b : Int} (h : a = b) : Ending.returned (.int k a) = .returned (.int k b) := by rw [h]

/-! ### the width, a class of lead bytes at a time -/
theorem wd_low {s : ByteArray} {i : Nat} (h : bt s i < 194 ∨ 244 < bt s i) : wd s i = 1 := by
  unfold wd wS
  repeat' split
  all_goals omega
theorem wd_two {s : ByteArray} {i : Nat} (h : 194 ≤ bt s i ∧ bt s i ≤ 223) : wd s i = if i + 2 ≤ s.size ∧ 128 ≤ bt s (i + 1) ∧ bt s (i + 1) ≤ 191 then 2 else 1 := by
  unfold wd wS
  rw [if_neg (by omega), if_pos h]
  repeat' split
  all_goals first | rfl | (exfalso; omega)
/-- The bounds on the second byte. -/
def lo3 (c : Int) : Int := if c = 224 then 160 else 128
def hi3 (c : Int) : Int := if c = 237 then 159 else 191
def lo4 (c : Int) : Int := if c = 240 then 144 else 128
def hi4 (c : Int) : Int := if c = 244 then 143 else 191
theorem wd_three {s : ByteArray} {i : Nat} (h : 224 ≤ bt s i ∧ bt s i ≤ 239) :
    wd s i = if i + 3 ≤ s.size ∧ lo3 (bt s i) ≤ bt s (i + 1) ∧ bt s (i + 1) ≤ hi3 (bt s i) ∧ 128 ≤ bt s (i + 2) ∧ bt s (i + 2) ≤ 191 then 3 else 1 := by
  unfold wd wS lo3 hi3
  repeat' split
  all_goals first | rfl | (exfalso; omega)
theorem wd_four {s : ByteArray} {i : Nat} (h : 240 ≤ bt s i ∧ bt s i ≤ 244) :
    wd s i = if i + 4 ≤ s.size ∧ lo4 (bt s i) ≤ bt s (i + 1) ∧ bt s (i + 1) ≤ hi4 (bt s i) ∧ 128 ≤ bt s (i + 2) ∧ bt s (i + 2) ≤ 191 ∧ 128 ≤ bt s (i + 3) ∧ bt s (i + 3) ≤ 191 then 4 else 1 := by
  unfold wd wS lo4 hi4
  repeat' split
  all_goals first | rfl | (exfalso; omega)

/-- zzIsCont -/
theorem cont_yes (c : Int) (w : World) (h1 : 128 ≤ c) (h2 : c ≤ 191) : Calls Trym.prog 32 #[.int .u8 c] w fun e w' => e = .returned (.bool true) ∧ w' = w := by
  go_enter Trym.func32, Trym.ntmps32
  go_wp2
  go_ret
  exact ⟨rfl, rfl⟩
theorem cont_no (c : Int) (w : World) (h : c < 128 ∨ 191 < c) : Calls Trym.prog 32 #[.int .u8 c] w fun e w' => e = .returned (.bool false) ∧ w' = w := by
  rcases h with h | h
  · go_enter Trym.func32, Trym.ntmps32
    go_wp2
    go_ret
    exact ⟨rfl, rfl⟩
  · have hd : decide (c ≤ 191) = false := by simp; omega
    go_enter Trym.func32, Trym.ntmps32
    go_wp2
    go_ret
    exact ⟨rfl, rfl⟩

set_option maxRecDepth 100000 in
set_option maxHeartbeats 1000000 in
theorem width_low (s : ByteArray) (i : Nat) (w : World) (hs : s.size ≤ 1048576) (hi : i < s.size) (h : bt s i < 194 ∨ 244 < bt s i) :
    Calls Trym.prog 28 #[.string s, .int .i64 i] w fun e w' => e = .returned (.int .i64 (wd s i)) ∧ w' = w := by
  have hB := bt_at s
  have hb := bt_bounds s i
  have HW : Hid ((1 : Int) = (wd s i : Int)) := by unfold Hid; rw [wd_low h]; rfl
  rcases h with h | h
  · by_cases h2 : bt s i < 128
    · go_enter Trym.func28, Trym.ntmps28
      go_wp2
      go_ret
      exact ⟨ret_int HW.out, rfl⟩
    · go_enter Trym.func28, Trym.ntmps28
      go_wp2
      go_ret
      exact ⟨ret_int HW.out, rfl⟩
  · go_enter Trym.func28, Trym.ntmps28
    go_wp2
    go_ret
    exact ⟨ret_int HW.out, rfl⟩

set_option maxRecDepth 100000 in
set_option maxHeartbeats 1000000 in
theorem width_two (s : ByteArray) (i : Nat) (w : World) (hs : s.size ≤ 1048576) (hi : i < s.size) (h1 : 194 ≤ bt s i) (h2 : bt s i ≤ 223) :
    Calls Trym.prog 28 #[.string s, .int .i64 i] w fun e w' => e = .returned (.int .i64 (wd s i)) ∧ w' = w := by
  have hB := bt_at s
  have hW := wd_two ⟨h1, h2⟩
  have hb1 := bt_bounds s (i + 1)
  by_cases hr : i + 2 ≤ s.size
  · by_cases hc : 128 ≤ bt s (i + 1) ∧ bt s (i + 1) ≤ 191
    · have HW : Hid ((2 : Int) = (wd s i : Int)) := by unfold Hid; rw [hW, if_pos ⟨hr, hc⟩]; rfl
      clear hW
      obtain ⟨hc1, hc2⟩ := hc
      go_enter Trym.func28, Trym.ntmps28
      go_wp2_with (go_at_call 32; refine (cont_yes _ _ hc1 hc2).mono ?_; rintro e w' ⟨rfl, rfl⟩)
      go_ret
      exact ⟨ret_int HW.out, rfl⟩
    · have HW : Hid ((1 : Int) = (wd s i : Int)) := by unfold Hid; rw [hW, if_neg (fun h => hc h.2)]; rfl
      have hc' : bt s (i + 1) < 128 ∨ 191 < bt s (i + 1) := by omega
      have HC : Hid (bt s (i + 1) < 128 ∨ 191 < bt s (i + 1)) := hc'
      clear hW hc hc'
      go_enter Trym.func28, Trym.ntmps28
      go_wp2_with (go_at_call 32; refine (cont_no _ _ HC.out).mono ?_; rintro e w' ⟨rfl, rfl⟩)
      go_ret
      exact ⟨ret_int HW.out, rfl⟩
  · have HW : Hid ((1 : Int) = (wd s i : Int)) := by unfold Hid; rw [hW, if_neg (fun h => hr h.1)]; rfl
    clear hW
    go_enter Trym.func28, Trym.ntmps28
    go_wp2
    go_ret
    exact ⟨ret_int HW.out, rfl⟩

set_option maxRecDepth 100000 in
set_option maxHeartbeats 1000000 in
theorem width_three_a (s : ByteArray) (i : Nat) (w : World) (hs : s.size ≤ 1048576) (hi : i < s.size) (h1 : 224 ≤ bt s i) (h2 : bt s i ≤ 239) (hc : bt s i = 224) :
    Calls Trym.prog 28 #[.string s, .int .i64 i] w fun e w' => e = .returned (.int .i64 (wd s i)) ∧ w' = w := by
  have hB := bt_at s
  have hW := wd_three ⟨h1, h2⟩
  have hlo : lo3 (bt s i) = 160 := by unfold lo3; split <;> omega
  have hhi : hi3 (bt s i) = 191 := by unfold hi3; split <;> omega
  have e1 : (bt s i == 224) = true := by simp; omega
  have e2 : (bt s i == 237) = false := by simp; omega
  rw [hlo, hhi] at hW
  have hb1 := bt_bounds s (i + 1)
  have hb2 := bt_bounds s (i + 2)
  clear hlo hhi hc
  by_cases hr : i + 3 ≤ s.size
  · by_cases d1 : 160 ≤ bt s (i + 1)
    · by_cases d2 : bt s (i + 1) ≤ 191
      · by_cases d3 : 128 ≤ bt s (i + 2) ∧ bt s (i + 2) ≤ 191
        · have HW : Hid ((3 : Int) = (wd s i : Int)) := by unfold Hid; rw [hW, if_pos ⟨hr, d1, d2, d3⟩]; rfl
          clear hW
          obtain ⟨d3, d4⟩ := d3
          go_enter Trym.func28, Trym.ntmps28
          go_wp2_with (go_at_call 32; refine (cont_yes _ _ d3 d4).mono ?_; rintro e w' ⟨rfl, rfl⟩)
          go_ret
          exact ⟨ret_int HW.out, rfl⟩
        · have HW : Hid ((1 : Int) = (wd s i : Int)) := by unfold Hid; rw [hW, if_neg (fun h => d3 h.2.2.2)]; rfl
          have HC : Hid (bt s (i + 2) < 128 ∨ 191 < bt s (i + 2)) := by unfold Hid; omega
          clear hW d3
          go_enter Trym.func28, Trym.ntmps28
          go_wp2_with (go_at_call 32; refine (cont_no _ _ HC.out).mono ?_; rintro e w' ⟨rfl, rfl⟩)
          go_ret
          exact ⟨ret_int HW.out, rfl⟩
      · have HW : Hid ((1 : Int) = (wd s i : Int)) := by unfold Hid; rw [hW, if_neg (fun h => d2 h.2.2.1)]; rfl
        clear hW
        go_enter Trym.func28, Trym.ntmps28
        go_wp2
        go_ret
        exact ⟨ret_int HW.out, rfl⟩
    · have HW : Hid ((1 : Int) = (wd s i : Int)) := by unfold Hid; rw [hW, if_neg (fun h => d1 h.2.1)]; rfl
      clear hW
      go_enter Trym.func28, Trym.ntmps28
      go_wp2
      go_ret
      exact ⟨ret_int HW.out, rfl⟩
  · have HW : Hid ((1 : Int) = (wd s i : Int)) := by unfold Hid; rw [hW, if_neg (fun h => hr h.1)]; rfl
    clear hW
    go_enter Trym.func28, Trym.ntmps28
    go_wp2
    go_ret
    exact ⟨ret_int HW.out, rfl⟩

set_option maxRecDepth 100000 in
set_option maxHeartbeats 1000000 in
theorem width_three_b (s : ByteArray) (i : Nat) (w : World) (hs : s.size ≤ 1048576) (hi : i < s.size) (h1 : 224 ≤ bt s i) (h2 : bt s i ≤ 239) (hc : bt s i = 237) :
    Calls Trym.prog 28 #[.string s, .int .i64 i] w fun e w' => e = .returned (.int .i64 (wd s i)) ∧ w' = w := by
  have hB := bt_at s
  have hW := wd_three ⟨h1, h2⟩
  have hlo : lo3 (bt s i) = 128 := by unfold lo3; split <;> omega
  have hhi : hi3 (bt s i) = 159 := by unfold hi3; split <;> omega
  have e1 : (bt s i == 224) = false := by simp; omega
  have e2 : (bt s i == 237) = true := by simp; omega
  rw [hlo, hhi] at hW
  have hb1 := bt_bounds s (i + 1)
  have hb2 := bt_bounds s (i + 2)
  clear hlo hhi hc
  by_cases hr : i + 3 ≤ s.size
  · by_cases d1 : 128 ≤ bt s (i + 1)
    · by_cases d2 : bt s (i + 1) ≤ 159
      · by_cases d3 : 128 ≤ bt s (i + 2) ∧ bt s (i + 2) ≤ 191
        · have HW : Hid ((3 : Int) = (wd s i : Int)) := by unfold Hid; rw [hW, if_pos ⟨hr, d1, d2, d3⟩]; rfl
          clear hW
          obtain ⟨d3, d4⟩ := d3
          go_enter Trym.func28, Trym.ntmps28
          go_wp2_with (go_at_call 32; refine (cont_yes _ _ d3 d4).mono ?_; rintro e w' ⟨rfl, rfl⟩)
          go_ret
          exact ⟨ret_int HW.out, rfl⟩
        · have HW : Hid ((1 : Int) = (wd s i : Int)) := by unfold Hid; rw [hW, if_neg (fun h => d3 h.2.2.2)]; rfl
          have HC : Hid (bt s (i + 2) < 128 ∨ 191 < bt s (i + 2)) := by unfold Hid; omega
          clear hW d3
          go_enter Trym.func28, Trym.ntmps28
          go_wp2_with (go_at_call 32; refine (cont_no _ _ HC.out).mono ?_; rintro e w' ⟨rfl, rfl⟩)
          go_ret
          exact ⟨ret_int HW.out, rfl⟩
      · have HW : Hid ((1 : Int) = (wd s i : Int)) := by unfold Hid; rw [hW, if_neg (fun h => d2 h.2.2.1)]; rfl
        clear hW
        go_enter Trym.func28, Trym.ntmps28
        go_wp2
        go_ret
        exact ⟨ret_int HW.out, rfl⟩
    · have HW : Hid ((1 : Int) = (wd s i : Int)) := by unfold Hid; rw [hW, if_neg (fun h => d1 h.2.1)]; rfl
      clear hW
      go_enter Trym.func28, Trym.ntmps28
      go_wp2
      go_ret
      exact ⟨ret_int HW.out, rfl⟩
  · have HW : Hid ((1 : Int) = (wd s i : Int)) := by unfold Hid; rw [hW, if_neg (fun h => hr h.1)]; rfl
    clear hW
    go_enter Trym.func28, Trym.ntmps28
    go_wp2
    go_ret
    exact ⟨ret_int HW.out, rfl⟩

set_option maxRecDepth 100000 in
set_option maxHeartbeats 1000000 in
theorem width_three_c (s : ByteArray) (i : Nat) (w : World) (hs : s.size ≤ 1048576) (hi : i < s.size) (h1 : 224 ≤ bt s i) (h2 : bt s i ≤ 239) (hc : bt s i ≠ 224 ∧ bt s i ≠ 237) :
    Calls Trym.prog 28 #[.string s, .int .i64 i] w fun e w' => e = .returned (.int .i64 (wd s i)) ∧ w' = w := by
  have hB := bt_at s
  have hW := wd_three ⟨h1, h2⟩
  have hlo : lo3 (bt s i) = 128 := by unfold lo3; split <;> omega
  have hhi : hi3 (bt s i) = 191 := by unfold hi3; split <;> omega
  have e1 : (bt s i == 224) = false := by simp; omega
  have e2 : (bt s i == 237) = false := by simp; omega
  rw [hlo, hhi] at hW
  have hb1 := bt_bounds s (i + 1)
  have hb2 := bt_bounds s (i + 2)
  clear hlo hhi hc
  by_cases hr : i + 3 ≤ s.size
  · by_cases d1 : 128 ≤ bt s (i + 1)
    · by_cases d2 : bt s (i + 1) ≤ 191
      · by_cases d3 : 128 ≤ bt s (i + 2) ∧ bt s (i + 2) ≤ 191
        · have HW : Hid ((3 : Int) = (wd s i : Int)) := by unfold Hid; rw [hW, if_pos ⟨hr, d1, d2, d3⟩]; rfl
          clear hW
          obtain ⟨d3, d4⟩ := d3
          go_enter Trym.func28, Trym.ntmps28
          go_wp2_with (go_at_call 32; refine (cont_yes _ _ d3 d4).mono ?_; rintro e w' ⟨rfl, rfl⟩)
          go_ret
          exact ⟨ret_int HW.out, rfl⟩
        · have HW : Hid ((1 : Int) = (wd s i : Int)) := by unfold Hid; rw [hW, if_neg (fun h => d3 h.2.2.2)]; rfl
          have HC : Hid (bt s (i + 2) < 128 ∨ 191 < bt s (i + 2)) := by unfold Hid; omega
          clear hW d3
          go_enter Trym.func28, Trym.ntmps28
          go_wp2_with (go_at_call 32; refine (cont_no _ _ HC.out).mono ?_; rintro e w' ⟨rfl, rfl⟩)
          go_ret
          exact ⟨ret_int HW.out, rfl⟩
      · have HW : Hid ((1 : Int) = (wd s i : Int)) := by unfold Hid; rw [hW, if_neg (fun h => d2 h.2.2.1)]; rfl
        clear hW
        go_enter Trym.func28, Trym.ntmps28
        go_wp2
        go_ret
        exact ⟨ret_int HW.out, rfl⟩
    · have HW : Hid ((1 : Int) = (wd s i : Int)) := by unfold Hid; rw [hW, if_neg (fun h => d1 h.2.1)]; rfl
      clear hW
      go_enter Trym.func28, Trym.ntmps28
      go_wp2
      go_ret
      exact ⟨ret_int HW.out, rfl⟩
  · have HW : Hid ((1 : Int) = (wd s i : Int)) := by unfold Hid; rw [hW, if_neg (fun h => hr h.1)]; rfl
    clear hW
    go_enter Trym.func28, Trym.ntmps28
    go_wp2
    go_ret
    exact ⟨ret_int HW.out, rfl⟩

set_option maxRecDepth 100000 in
set_option maxHeartbeats 1000000 in
theorem width_four_a (s : ByteArray) (i : Nat) (w : World) (hs : s.size ≤ 1048576) (hi : i < s.size) (h1 : 240 ≤ bt s i) (h2 : bt s i ≤ 244) (hc : bt s i = 240) :
    Calls Trym.prog 28 #[.string s, .int .i64 i] w fun e w' => e = .returned (.int .i64 (wd s i)) ∧ w' = w := by
  have hB := bt_at s
  have hW := wd_four ⟨h1, h2⟩
  have hlo : lo4 (bt s i) = 144 := by unfold lo4; split <;> omega
  have hhi : hi4 (bt s i) = 191 := by unfold hi4; split <;> omega
  have e1 : (bt s i == 240) = true := by simp; omega
  have e2 : (bt s i == 244) = false := by simp; omega
  rw [hlo, hhi] at hW
  have hb1 := bt_bounds s (i + 1)
  have hb2 := bt_bounds s (i + 2)
  have hb3 := bt_bounds s (i + 3)
  clear hlo hhi hc
  by_cases hr : i + 4 ≤ s.size
  · by_cases d1 : 144 ≤ bt s (i + 1)
    · by_cases d2 : bt s (i + 1) ≤ 191
      · by_cases d3 : 128 ≤ bt s (i + 2) ∧ bt s (i + 2) ≤ 191
        · by_cases d5 : 128 ≤ bt s (i + 3) ∧ bt s (i + 3) ≤ 191
          · have HW : Hid ((4 : Int) = (wd s i : Int)) := by unfold Hid; rw [hW, if_pos ⟨hr, d1, d2, d3.1, d3.2, d5⟩]; rfl
            clear hW
            obtain ⟨d3, d4⟩ := d3
            obtain ⟨d5, d6⟩ := d5
            go_enter Trym.func28, Trym.ntmps28
            go_wp2_with fail
            refine (cont_yes _ _ d3 d4).mono ?_
            rintro e w' ⟨rfl, rfl⟩
            go_wp2_with fail
            refine (cont_yes _ _ d5 d6).mono ?_
            rintro e w' ⟨rfl, rfl⟩
            go_wp2
            go_ret
            exact ⟨ret_int HW.out, rfl⟩
          · have HW : Hid ((1 : Int) = (wd s i : Int)) := by unfold Hid; rw [hW, if_neg (fun h => d5 h.2.2.2.2.2)]; rfl
            have HC : Hid (bt s (i + 3) < 128 ∨ 191 < bt s (i + 3)) := by unfold Hid; omega
            clear hW d5
            obtain ⟨d3, d4⟩ := d3
            go_enter Trym.func28, Trym.ntmps28
            go_wp2_with fail
            refine (cont_yes _ _ d3 d4).mono ?_
            rintro e w' ⟨rfl, rfl⟩
            go_wp2_with fail
            refine (cont_no _ _ HC.out).mono ?_
            rintro e w' ⟨rfl, rfl⟩
            go_wp2
            go_ret
            exact ⟨ret_int HW.out, rfl⟩
        · have HW : Hid ((1 : Int) = (wd s i : Int)) := by unfold Hid; rw [hW, if_neg (fun h => d3 ⟨h.2.2.2.1, h.2.2.2.2.1⟩)]; rfl
          have HC : Hid (bt s (i + 2) < 128 ∨ 191 < bt s (i + 2)) := by unfold Hid; omega
          clear hW d3
          go_enter Trym.func28, Trym.ntmps28
          go_wp2_with fail
          refine (cont_no _ _ HC.out).mono ?_
          rintro e w' ⟨rfl, rfl⟩
          go_wp2
          go_ret
          exact ⟨ret_int HW.out, rfl⟩
      · have HW : Hid ((1 : Int) = (wd s i : Int)) := by unfold Hid; rw [hW, if_neg (fun h => d2 h.2.2.1)]; rfl
        clear hW
        go_enter Trym.func28, Trym.ntmps28
        go_wp2
        go_ret
        exact ⟨ret_int HW.out, rfl⟩
    · have HW : Hid ((1 : Int) = (wd s i : Int)) := by unfold Hid; rw [hW, if_neg (fun h => d1 h.2.1)]; rfl
      clear hW
      go_enter Trym.func28, Trym.ntmps28
      go_wp2
      go_ret
      exact ⟨ret_int HW.out, rfl⟩
  · have HW : Hid ((1 : Int) = (wd s i : Int)) := by unfold Hid; rw [hW, if_neg (fun h => hr h.1)]; rfl
    clear hW
    go_enter Trym.func28, Trym.ntmps28
    go_wp2
    go_ret
    exact ⟨ret_int HW.out, rfl⟩

set_option maxRecDepth 100000 in
set_option maxHeartbeats 1000000 in
theorem width_four_b (s : ByteArray) (i : Nat) (w : World) (hs : s.size ≤ 1048576) (hi : i < s.size) (h1 : 240 ≤ bt s i) (h2 : bt s i ≤ 244) (hc : bt s i = 244) :
    Calls Trym.prog 28 #[.string s, .int .i64 i] w fun e w' => e = .returned (.int .i64 (wd s i)) ∧ w' = w := by
  have hB := bt_at s
  have hW := wd_four ⟨h1, h2⟩
  have hlo : lo4 (bt s i) = 128 := by unfold lo4; split <;> omega
  have hhi : hi4 (bt s i) = 143 := by unfold hi4; split <;> omega
  have e1 : (bt s i == 240) = false := by simp; omega
  have e2 : (bt s i == 244) = true := by simp; omega
  rw [hlo, hhi] at hW
  have hb1 := bt_bounds s (i + 1)
  have hb2 := bt_bounds s (i + 2)
  have hb3 := bt_bounds s (i + 3)
  clear hlo hhi hc
  by_cases hr : i + 4 ≤ s.size
  · by_cases d1 : 128 ≤ bt s (i + 1)
    · by_cases d2 : bt s (i + 1) ≤ 143
      · by_cases d3 : 128 ≤ bt s (i + 2) ∧ bt s (i + 2) ≤ 191
        · by_cases d5 : 128 ≤ bt s (i + 3) ∧ bt s (i + 3) ≤ 191
          · have HW : Hid ((4 : Int) = (wd s i : Int)) := by unfold Hid; rw [hW, if_pos ⟨hr, d1, d2, d3.1, d3.2, d5⟩]; rfl
            clear hW
            obtain ⟨d3, d4⟩ := d3
            obtain ⟨d5, d6⟩ := d5
            go_enter Trym.func28, Trym.ntmps28
            go_wp2_with fail
            refine (cont_yes _ _ d3 d4).mono ?_
            rintro e w' ⟨rfl, rfl⟩
            go_wp2_with fail
            refine (cont_yes _ _ d5 d6).mono ?_
            rintro e w' ⟨rfl, rfl⟩
            go_wp2
            go_ret
            exact ⟨ret_int HW.out, rfl⟩
          · have HW : Hid ((1 : Int) = (wd s i : Int)) := by unfold Hid; rw [hW, if_neg (fun h => d5 h.2.2.2.2.2)]; rfl
            have HC : Hid (bt s (i + 3) < 128 ∨ 191 < bt s (i + 3)) := by unfold Hid; omega
            clear hW d5
            obtain ⟨d3, d4⟩ := d3
            go_enter Trym.func28, Trym.ntmps28
            go_wp2_with fail
            refine (cont_yes _ _ d3 d4).mono ?_
            rintro e w' ⟨rfl, rfl⟩
            go_wp2_with fail
            refine (cont_no _ _ HC.out).mono ?_
            rintro e w' ⟨rfl, rfl⟩
            go_wp2
            go_ret
            exact ⟨ret_int HW.out, rfl⟩
        · have HW : Hid ((1 : Int) = (wd s i : Int)) := by unfold Hid; rw [hW, if_neg (fun h => d3 ⟨h.2.2.2.1, h.2.2.2.2.1⟩)]; rfl
          have HC : Hid (bt s (i + 2) < 128 ∨ 191 < bt s (i + 2)) := by unfold Hid; omega
          clear hW d3
          go_enter Trym.func28, Trym.ntmps28
          go_wp2_with fail
          refine (cont_no _ _ HC.out).mono ?_
          rintro e w' ⟨rfl, rfl⟩
          go_wp2
          go_ret
          exact ⟨ret_int HW.out, rfl⟩
      · have HW : Hid ((1 : Int) = (wd s i : Int)) := by unfold Hid; rw [hW, if_neg (fun h => d2 h.2.2.1)]; rfl
        clear hW
        go_enter Trym.func28, Trym.ntmps28
        go_wp2
        go_ret
        exact ⟨ret_int HW.out, rfl⟩
    · have HW : Hid ((1 : Int) = (wd s i : Int)) := by unfold Hid; rw [hW, if_neg (fun h => d1 h.2.1)]; rfl
      clear hW
      go_enter Trym.func28, Trym.ntmps28
      go_wp2
      go_ret
      exact ⟨ret_int HW.out, rfl⟩
  · have HW : Hid ((1 : Int) = (wd s i : Int)) := by unfold Hid; rw [hW, if_neg (fun h => hr h.1)]; rfl
    clear hW
    go_enter Trym.func28, Trym.ntmps28
    go_wp2
    go_ret
    exact ⟨ret_int HW.out, rfl⟩

set_option maxRecDepth 100000 in
set_option maxHeartbeats 1000000 in
theorem width_four_c (s : ByteArray) (i : Nat) (w : World) (hs : s.size ≤ 1048576) (hi : i < s.size) (h1 : 240 ≤ bt s i) (h2 : bt s i ≤ 244) (hc : bt s i ≠ 240 ∧ bt s i ≠ 244) :
    Calls Trym.prog 28 #[.string s, .int .i64 i] w fun e w' => e = .returned (.int .i64 (wd s i)) ∧ w' = w := by
  have hB := bt_at s
  have hW := wd_four ⟨h1, h2⟩
  have hlo : lo4 (bt s i) = 128 := by unfold lo4; split <;> omega
  have hhi : hi4 (bt s i) = 191 := by unfold hi4; split <;> omega
  have e1 : (bt s i == 240) = false := by simp; omega
  have e2 : (bt s i == 244) = false := by simp; omega
  rw [hlo, hhi] at hW
  have hb1 := bt_bounds s (i + 1)
  have hb2 := bt_bounds s (i + 2)
  have hb3 := bt_bounds s (i + 3)
  clear hlo hhi hc
  by_cases hr : i + 4 ≤ s.size
  · by_cases d1 : 128 ≤ bt s (i + 1)
    · by_cases d2 : bt s (i + 1) ≤ 191
      · by_cases d3 : 128 ≤ bt s (i + 2) ∧ bt s (i + 2) ≤ 191
        · by_cases d5 : 128 ≤ bt s (i + 3) ∧ bt s (i + 3) ≤ 191
          · have HW : Hid ((4 : Int) = (wd s i : Int)) := by unfold Hid; rw [hW, if_pos ⟨hr, d1, d2, d3.1, d3.2, d5⟩]; rfl
            clear hW
            obtain ⟨d3, d4⟩ := d3
            obtain ⟨d5, d6⟩ := d5
            go_enter Trym.func28, Trym.ntmps28
            go_wp2_with fail
            refine (cont_yes _ _ d3 d4).mono ?_
            rintro e w' ⟨rfl, rfl⟩
            go_wp2_with fail
            refine (cont_yes _ _ d5 d6).mono ?_
            rintro e w' ⟨rfl, rfl⟩
            go_wp2
            go_ret
            exact ⟨ret_int HW.out, rfl⟩
          · have HW : Hid ((1 : Int) = (wd s i : Int)) := by unfold Hid; rw [hW, if_neg (fun h => d5 h.2.2.2.2.2)]; rfl
            have HC : Hid (bt s (i + 3) < 128 ∨ 191 < bt s (i + 3)) := by unfold Hid; omega
            clear hW d5
            obtain ⟨d3, d4⟩ := d3
            go_enter Trym.func28, Trym.ntmps28
            go_wp2_with fail
            refine (cont_yes _ _ d3 d4).mono ?_
            rintro e w' ⟨rfl, rfl⟩
            go_wp2_with fail
            refine (cont_no _ _ HC.out).mono ?_
            rintro e w' ⟨rfl, rfl⟩
            go_wp2
            go_ret
            exact ⟨ret_int HW.out, rfl⟩
        · have HW : Hid ((1 : Int) = (wd s i : Int)) := by unfold Hid; rw [hW, if_neg (fun h => d3 ⟨h.2.2.2.1, h.2.2.2.2.1⟩)]; rfl
          have HC : Hid (bt s (i + 2) < 128 ∨ 191 < bt s (i + 2)) := by unfold Hid; omega
          clear hW d3
          go_enter Trym.func28, Trym.ntmps28
          go_wp2_with fail
          refine (cont_no _ _ HC.out).mono ?_
          rintro e w' ⟨rfl, rfl⟩
          go_wp2
          go_ret
          exact ⟨ret_int HW.out, rfl⟩
      · have HW : Hid ((1 : Int) = (wd s i : Int)) := by unfold Hid; rw [hW, if_neg (fun h => d2 h.2.2.1)]; rfl
        clear hW
        go_enter Trym.func28, Trym.ntmps28
        go_wp2
        go_ret
        exact ⟨ret_int HW.out, rfl⟩
    · have HW : Hid ((1 : Int) = (wd s i : Int)) := by unfold Hid; rw [hW, if_neg (fun h => d1 h.2.1)]; rfl
      clear hW
      go_enter Trym.func28, Trym.ntmps28
      go_wp2
      go_ret
      exact ⟨ret_int HW.out, rfl⟩
  · have HW : Hid ((1 : Int) = (wd s i : Int)) := by unfold Hid; rw [hW, if_neg (fun h => hr h.1)]; rfl
    clear hW
    go_enter Trym.func28, Trym.ntmps28
    go_wp2
    go_ret
    exact ⟨ret_int HW.out, rfl⟩

/-- zzCharWidth -/
theorem width_any (s : ByteArray) (i : Nat) (w : World) (hs : s.size ≤ 1048576) (hi : i < s.size) :
    Calls Trym.prog 28 #[.string s, .int .i64 i] w fun e w' => e = .returned (.int .i64 (wd s i)) ∧ w' = w := by
  by_cases c0 : bt s i < 194 ∨ 244 < bt s i
  · exact width_low s i w hs hi c0
  · by_cases c1 : bt s i ≤ 223
    · exact width_two s i w hs hi (by omega) c1
    · by_cases c2 : bt s i ≤ 239
      · by_cases c3 : bt s i = 224
        · exact width_three_a s i w hs hi (by omega) c2 c3
        · by_cases c4 : bt s i = 237
          · exact width_three_b s i w hs hi (by omega) c2 c4
          · exact width_three_c s i w hs hi (by omega) c2 ⟨c3, c4⟩
      · by_cases c3 : bt s i = 240
        · exact width_four_a s i w hs hi (by omega) (by omega) c3
        · by_cases c4 : bt s i = 244
          · exact width_four_b s i w hs hi (by omega) (by omega) c4
          · exact width_four_c s i w hs hi (by omega) (by omega) ⟨c3, c4⟩

end Go.Proofs.Qxb6603348aMods
