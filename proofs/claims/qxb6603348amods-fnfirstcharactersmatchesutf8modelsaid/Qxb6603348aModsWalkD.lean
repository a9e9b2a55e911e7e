import Derived.Test.Qxb6603348aModsWalkC
namespace Go.Proofs.Qxb6603348aMods
open Go.RowKit

/-- zzModelFirst, n negative -/
theorem model_neg (s : ByteArray) (n : Int) (w : World) (hn : n < 0) :
    Calls Trym.prog 12 #[.string s, .int .i64 n] w fun e w' => e = .returned (.tuple #[.string s, .bool false]) ∧ w' = w := by
  go_enter Trym.func12, Trym.ntmps12
  go_wp2
  go_ret2
  exact ⟨rfl, rfl⟩

set_option maxHeartbeats 1000000 in
/-- zzModelFirst, n not negative -/
theorem model_nat (s : ByteArray) (N : Nat) (w : World) (hs : s.size ≤ 1048576) :
    Calls Trym.prog 12 #[.string s, .int .i64 N] w fun e w' => e = fcE s (fc s N) ∧ w' = w := by
  have hN0 : ¬ (N : Int) < 0 := by omega
  have qn : decide ((N : Int) < 0) = false := by simp
  go_enter Trym.func12, Trym.ntmps12
  go_wp2
  go_loop [6, 7, 8] (fun o k i => ∃ pos cnt : Nat, cnt ≤ pos ∧ pos ≤ s.size ∧ k = .int .i64 cnt ∧ i = .int .i64 pos ∧ ((o = .int .i64 (-1) ∧ Hid (At s N pos cnt)) ∨ ∃ off : Nat, o = .int .i64 off ∧ off < s.size ∧ N < cnt ∧ Hid (fc s N = some off))) (fun _ _ i => s.size - (intOf i).toNat)
  case atStart => exact ⟨0, 0, Nat.le_refl _, Nat.zero_le _, rfl, rfl, .inl ⟨rfl, at_zero s N⟩⟩
  case round =>
    obtain ⟨pos, cnt, hc, hp, rfl, rfl, hph⟩ := hrel
    by_cases hlt : pos < s.size
    · have hw := wd_bounds s pos hlt
      rcases hph with ⟨rfl, HA⟩ | ⟨off, rfl, ho, hNc, HF⟩
      · by_cases he : cnt = N
        · have HH : Hid (fc s N = some pos) := at_hit HA.out hlt he
          have hne : ((cnt : Int) == (N : Int)) = true := by rw [beq_iff_eq]; omega
          have hcN : N < cnt + 1 := by omega
          clear he HA
          go_wp2_with (go_at_call 28; refine (width_any s pos _ hs hlt).mono ?_; rintro e w' ⟨rfl, rfl⟩)
          go_round
          case rel => exact ⟨pos + wd s pos, cnt + 1, by omega, by omega, by go_num, by go_num, .inr ⟨pos, rfl, hlt, hcN, HH⟩⟩
          case measure => simp [intOf]; omega
        · have HH : Hid (At s N (pos + wd s pos) (cnt + 1)) := at_next HA.out hlt he
          have hne : ((cnt : Int) == (N : Int)) = false := beq_eq_false_iff_ne.2 (by omega)
          clear he HA
          go_wp2_with (go_at_call 28; refine (width_any s pos _ hs hlt).mono ?_; rintro e w' ⟨rfl, rfl⟩)
          go_round
          case rel => exact ⟨pos + wd s pos, cnt + 1, by omega, by omega, by go_num, by go_num, .inl ⟨rfl, HH⟩⟩
          case measure => simp [intOf]; omega
      · have hne : ((cnt : Int) == (N : Int)) = false := beq_eq_false_iff_ne.2 (by omega)
        go_wp2_with (go_at_call 28; refine (width_any s pos _ hs hlt).mono ?_; rintro e w' ⟨rfl, rfl⟩)
        go_round
        case rel => exact ⟨pos + wd s pos, cnt + 1, by omega, by omega, by go_num, by go_num, .inr ⟨off, rfl, ho, by omega, HF⟩⟩
        case measure => simp [intOf]; omega
    · rcases hph with ⟨rfl, HA⟩ | ⟨off, rfl, ho, hNc, HF⟩
      · have HH : Hid (fc s N = none) := at_end HA.out hlt
        clear HA
        go_wp2
        go_ret2
        exact ⟨fcE_none HH.out, rfl⟩
      · go_wp2
        go_ret2
        exact ⟨fcE_some HF.out, rfl⟩

theorem model_none (s : ByteArray) (N : Nat) (w : World) (hs : s.size ≤ 1048576) (h : fc s N = none) :
    Calls Trym.prog 12 #[.string s, .int .i64 N] w fun e w' => e = .returned (.tuple #[.string s, .bool false]) ∧ w' = w := by
  have HC := model_nat s N w hs
  rw [h] at HC
  exact HC
theorem model_some (s : ByteArray) (N off : Nat) (w : World) (hs : s.size ≤ 1048576) (h : fc s N = some off) :
    Calls Trym.prog 12 #[.string s, .int .i64 N] w fun e w' => e = .returned (.tuple #[.string (s.extract 0 off), .bool true]) ∧ w' = w := by
  have HC := model_nat s N w hs
  rw [h] at HC
  exact HC

/-- The law, n negative -/
theorem match_neg (s : ByteArray) (n : Int) (w : World) (hs : s.size ≤ 1048576) (hn : n < 0) :
    Calls Trym.prog 3 #[.string s, .int .i64 n] w fun e w' => e = .returned (.bool true) ∧ Grown w w' := by
  go_enter Trym.func3, Trym.ntmps3
  go_wp2_with fail
  refine (zz10 s _ _ hs).mono ?_
  rintro e w1 ⟨rfl, rfl⟩
  go_wp2_with fail
  refine (zfirst_neg s n _ hs hn).mono ?_
  rintro e w1 ⟨rfl, p1, rfl⟩
  go_wp2_with fail
  refine (model_neg s n _ hn).mono ?_
  rintro e w1 ⟨rfl, rfl⟩
  go_wp2
  go_ret
  exact ⟨rfl, grown_iter (Grown.refl _) _ _⟩

/-- The law, n not negative -/
theorem match_nat (s : ByteArray) (N : Nat) (w : World) (hs : s.size ≤ 1048576) (hN : N ≤ 9223372036854775807) :
    Calls Trym.prog 3 #[.string s, .int .i64 N] w fun e w' => e = .returned (.bool true) ∧ Grown w w' := by
  cases h : fc s N with
  | none =>
    have H : Hid (fc s N = none) := h
    clear h
    go_enter Trym.func3, Trym.ntmps3
    go_wp2_with fail
    refine (zz10 s _ _ hs).mono ?_
    rintro e w1 ⟨rfl, rfl⟩
    go_wp2_with fail
    refine (zfirst_none s N _ _ hs hN rfl H.out).mono ?_
    rintro e w1 ⟨rfl, p1, rfl⟩
    go_wp2_with fail
    refine (model_none s N _ hs H.out).mono ?_
    rintro e w1 ⟨rfl, rfl⟩
    go_wp2
    go_ret
    exact ⟨rfl, grown_iter (Grown.refl _) _ _⟩
  | some off =>
    have H : Hid (fc s N = some off) := h
    clear h
    go_enter Trym.func3, Trym.ntmps3
    go_wp2_with fail
    refine (zz10 s _ _ hs).mono ?_
    rintro e w1 ⟨rfl, rfl⟩
    go_wp2_with fail
    refine (zfirst_some s N _ off _ hs hN rfl H.out).mono ?_
    rintro e w1 ⟨rfl, p1, rfl⟩
    go_wp2_with fail
    refine (model_some s N off _ hs H.out).mono ?_
    rintro e w1 ⟨rfl, rfl⟩
    generalize s.extract 0 off = T
    go_wp2
    go_ret
    exact ⟨rfl, grown_iter (Grown.refl _) _ _⟩

end Go.Proofs.Qxb6603348aMods
