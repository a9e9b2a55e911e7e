import Derived.Test.Qxb6603348aModsWalkA
import Derived.Carry
namespace Go.Proofs.Qxb6603348aMods
open Go.RowKit

theorem frozen?_iter (w : World) (s : ByteArray) (p : Nat) (a : Addr) : (w.iter s p).frozen? a = w.frozen? a := by
  by_cases h : a.block = w.heap.size
  · have e1 : (w.iter s p).heap[a.block]? = some (.stringIter s p) := by rw [h]; exact World.iter_heap w s p
    have e2 : w.heap[a.block]? = none := by rw [h]; simp
    simp [World.frozen?, e1, e2]
  · exact World.frozen?_alloc_old _ _ _ h
theorem grown_iter {W w' : World} (h : Grown W w') (s : ByteArray) (p : Nat) : Grown W (w'.iter s p) :=
  ⟨World.keptBut_trans h.1 (World.keptBut_alloc _ _ _), fun a => (frozen?_iter _ _ _ a).trans (h.2.1 a), Nat.le_trans h.2.2 (by show w'.heap.size ≤ (w'.heap.push _).size; simp)⟩

/-- ZZfirstCharacters, where there is no character n -/
theorem zfirst_none (s : ByteArray) (N : Nat) (n : Int) (w : World) (hs : s.size ≤ 1048576) (hN : N ≤ 9223372036854775807) (hn : n = (N : Int)) (h : fc s N = none) :
    Calls Trym.prog 11 #[.string s, .int .i64 n] w fun e w' => e = .returned (.tuple #[.string s, .bool false]) ∧ ∃ p, w' = w.iter s p := by
  subst hn
  have HC := first_nat s N w hs hN
  rw [h] at HC
  have HC' : Hid (Calls Trym.prog 27 #[.string s, .int .i64 (N : Int)] w fun e w' => e = .returned (.tuple #[.string s, .bool false]) ∧ ∃ p, w' = w.iter s p) := HC
  clear HC h
  go_enter Trym.func11, Trym.ntmps11
  go_wp2_with (go_at_call 27; refine HC'.out.mono ?_; rintro e w' ⟨rfl, p, rfl⟩)
  go_ret2
  exact ⟨rfl, _, rfl⟩

/-- ZZfirstCharacters, where character n starts at off -/
theorem zfirst_some (s : ByteArray) (N : Nat) (n : Int) (off : Nat) (w : World) (hs : s.size ≤ 1048576) (hN : N ≤ 9223372036854775807) (hn : n = (N : Int)) (h : fc s N = some off) :
    Calls Trym.prog 11 #[.string s, .int .i64 n] w fun e w' => e = .returned (.tuple #[.string (s.extract 0 off), .bool true]) ∧ ∃ p, w' = w.iter s p := by
  subst hn
  have HC := first_nat s N w hs hN
  rw [h] at HC
  have HC' : Hid (Calls Trym.prog 27 #[.string s, .int .i64 (N : Int)] w fun e w' => e = .returned (.tuple #[.string (s.extract 0 off), .bool true]) ∧ ∃ p, w' = w.iter s p) := HC
  clear HC h
  go_enter Trym.func11, Trym.ntmps11
  go_wp2_with (go_at_call 27; refine HC'.out.mono ?_; rintro e w' ⟨rfl, p, rfl⟩)
  go_ret2
  exact ⟨rfl, _, rfl⟩

/-- ZZfirstCharacters, n negative -/
theorem zfirst_neg (s : ByteArray) (n : Int) (w : World) (hs : s.size ≤ 1048576) (hn : n < 0) :
    Calls Trym.prog 11 #[.string s, .int .i64 n] w fun e w' => e = .returned (.tuple #[.string s, .bool false]) ∧ ∃ p, w' = w.iter s p := by
  go_enter Trym.func11, Trym.ntmps11
  go_wp2_with (go_at_call 27; refine (first_neg s n _ hs hn).mono ?_; rintro e w' ⟨rfl, p, rfl⟩)
  go_ret2
  exact ⟨rfl, _, rfl⟩

theorem zz13 (s : ByteArray) (n : Int) (w : World) (hs : s.size ≤ 1048576) : Calls Trym.prog 13 #[.string s, .int .i64 n] w fun e w' => e = .returned (.bool true) ∧ w' = w := by
  go_enter Trym.func13, Trym.ntmps13
  go_wp2
  go_ret
  exact ⟨rfl, rfl⟩
theorem zz10 (s : ByteArray) (n : Int) (w : World) (hs : s.size ≤ 1048576) : Calls Trym.prog 10 #[.string s, .int .i64 n] w fun e w' => e = .returned (.bool true) ∧ w' = w := by
  go_enter Trym.func10, Trym.ntmps10
  go_wp2
  go_ret
  exact ⟨rfl, rfl⟩

theorem pre_self (s : ByteArray) : ((s.extract 0 s.size).toList == s.toList) = true := by
  rw [Lib.extract_toList, Lib.toList_data]
  simp only [List.drop_zero, Nat.sub_zero]
  rw [List.take_of_length_le (by rw [← Lib.size_eq]; exact Nat.le_refl _)]
  simp
theorem pre_cut (s : ByteArray) (o o' : Nat) (h : o ≤ o') (h' : o' ≤ s.size) : (((s.extract 0 o').extract 0 (s.extract 0 o).size).toList == (s.extract 0 o).toList) = true := by
  rw [extract_size s o (by omega), Lib.extract_toList, Lib.extract_data, Lib.extract_toList]
  simp [List.take_take, Nat.min_eq_left h]
theorem pre_one (s : ByteArray) (o : Nat) (h : o ≤ s.size) : ((s.extract 0 (s.extract 0 o).size).toList == (s.extract 0 o).toList) = true := by
  rw [extract_size s o h]; simp

/-- The law, where s has no character n -/
theorem again_none (s : ByteArray) (N : Nat) (w : World) (hs : s.size ≤ 1048576) (hN : N ≤ 9223372036854775807) (h : fc s N = none) :
    Calls Trym.prog 4 #[.string s, .int .i64 N] w fun e w' => e = .returned (.bool true) ∧ Grown w w' := by
  have HP : Hid (((s.extract 0 s.size).toList == s.toList) = true) := pre_self s
  have H0 : Hid (fc s N = none) := h
  have H1 : Hid (fc s (N + 1) = none) := fc_more h
  clear h
  by_cases hlt : N < s.size
  · go_enter Trym.func4, Trym.ntmps4
    go_wp2_with fail
    refine (zz13 s _ _ hs).mono ?_
    rintro e w1 ⟨rfl, rfl⟩
    go_wp2_with fail
    refine (zfirst_none s N _ _ hs hN rfl H0.out).mono ?_
    rintro e w1 ⟨rfl, p1, rfl⟩
    go_wp2_with fail
    refine (prefix_yes s s _ (Nat.le_refl _) HP.out).mono ?_
    rintro e w1 ⟨rfl, rfl⟩
    go_wp2_with fail
    refine (zfirst_none s N _ _ hs hN rfl H0.out).mono ?_
    rintro e w1 ⟨rfl, p2, rfl⟩
    go_wp2_with fail
    refine (zfirst_none s (N + 1) _ _ hs (by omega) (by omega) H1.out).mono ?_
    rintro e w1 ⟨rfl, p3, rfl⟩
    go_wp2_with fail
    refine (prefix_yes s s _ (Nat.le_refl _) HP.out).mono ?_
    rintro e w1 ⟨rfl, rfl⟩
    go_wp2
    go_ret
    exact ⟨rfl, grown_iter (grown_iter (grown_iter (Grown.refl _) _ _) _ _) _ _⟩
  · go_enter Trym.func4, Trym.ntmps4
    go_wp2_with fail
    refine (zz13 s _ _ hs).mono ?_
    rintro e w1 ⟨rfl, rfl⟩
    go_wp2_with fail
    refine (zfirst_none s N _ _ hs hN rfl H0.out).mono ?_
    rintro e w1 ⟨rfl, p1, rfl⟩
    go_wp2_with fail
    refine (prefix_yes s s _ (Nat.le_refl _) HP.out).mono ?_
    rintro e w1 ⟨rfl, rfl⟩
    go_wp2_with fail
    refine (zfirst_none s N _ _ hs hN rfl H0.out).mono ?_
    rintro e w1 ⟨rfl, p2, rfl⟩
    go_wp2_with fail
    refine (zfirst_none s N _ _ hs hN rfl H0.out).mono ?_
    rintro e w1 ⟨rfl, p3, rfl⟩
    go_wp2_with fail
    refine (prefix_yes s s _ (Nat.le_refl _) HP.out).mono ?_
    rintro e w1 ⟨rfl, rfl⟩
    go_wp2
    go_ret
    exact ⟨rfl, grown_iter (grown_iter (grown_iter (Grown.refl _) _ _) _ _) _ _⟩

/-- The law, where character n starts at off -/
theorem again_some (s : ByteArray) (N off : Nat) (w : World) (hs : s.size ≤ 1048576) (hN : N ≤ 9223372036854775807) (h : fc s N = some off) :
    Calls Trym.prog 4 #[.string s, .int .i64 N] w fun e w' => e = .returned (.bool true) ∧ Grown w w' := by
  have hb := fc_bounds h
  have H0 : Hid (fc s N = some off) := h
  have H2 : Hid (fc (s.extract 0 off) N = none) := fc_again h
  have hTs : (s.extract 0 off).size = off := extract_size s off (by omega)
  have hP1 := pre_one s off (by omega)
  have HP2 : Hid (∀ o', off ≤ o' → o' ≤ s.size → (((s.extract 0 o').extract 0 (s.extract 0 off).size).toList == (s.extract 0 off).toList) = true) := fun o' h1 h2 => pre_cut s off o' h1 h2
  obtain ⟨T, hT⟩ : ∃ T, T = s.extract 0 off := ⟨_, rfl⟩
  rw [← hT] at hTs hP1
  have HT : Hid (T = s.extract 0 off) := hT
  have HP1 : Hid (((s.extract 0 T.size).toList == T.toList) = true) := hP1
  have HTS : Hid (T.size = off) := hTs
  have hT1 : T.size < s.size := by omega
  have hNs : N < s.size := by omega
  clear h hT hTs hP1
  cases hnx : fc s (N + 1) with
  | none =>
    have H1 : Hid (fc s (N + 1) = none) := hnx
    clear hnx
    go_enter Trym.func4, Trym.ntmps4
    go_wp2_with fail
    refine (zz13 s _ _ hs).mono ?_
    rintro e w1 ⟨rfl, rfl⟩
    go_wp2_with fail
    refine (zfirst_some s N _ off _ hs hN rfl H0.out).mono ?_
    rintro e w1 ⟨rfl, p1, rfl⟩
    rw [← HT.out]
    go_wp2_with fail
    refine (prefix_yes s T _ (by omega) HP1.out).mono ?_
    rintro e w1 ⟨rfl, rfl⟩
    go_wp2_with fail
    refine (zfirst_none T N _ _ (by omega) hN rfl (by rw [HT.out]; exact H2.out)).mono ?_
    rintro e w1 ⟨rfl, p2, rfl⟩
    go_wp2_with fail
    refine (zfirst_none s (N + 1) _ _ hs (by omega) (by omega) H1.out).mono ?_
    rintro e w1 ⟨rfl, p3, rfl⟩
    go_wp2_with fail
    refine (prefix_yes s T _ (by omega) HP1.out).mono ?_
    rintro e w1 ⟨rfl, rfl⟩
    go_wp2
    go_ret
    exact ⟨rfl, grown_iter (grown_iter (grown_iter (Grown.refl _) _ _) _ _) _ _⟩
  | some off' =>
    have hlt := fc_next H0.out hnx
    have hb' := fc_bounds hnx
    have H1 : Hid (fc s (N + 1) = some off') := hnx
    have hLs : (s.extract 0 off').size = off' := extract_size s off' (by omega)
    have hP3 := HP2.out off' (by omega) (by omega)
    obtain ⟨L, hL⟩ : ∃ L, L = s.extract 0 off' := ⟨_, rfl⟩
    rw [← hL, ← HT.out] at hP3
    rw [← hL] at hLs
    have HL : Hid (L = s.extract 0 off') := hL
    have HP3 : Hid (((L.extract 0 T.size).toList == T.toList) = true) := hP3
    have hTL : T.size < L.size := by have := HTS.out; omega
    clear hnx hL hLs hP3
    go_enter Trym.func4, Trym.ntmps4
    go_wp2_with fail
    refine (zz13 s _ _ hs).mono ?_
    rintro e w1 ⟨rfl, rfl⟩
    go_wp2_with fail
    refine (zfirst_some s N _ off _ hs hN rfl H0.out).mono ?_
    rintro e w1 ⟨rfl, p1, rfl⟩
    rw [← HT.out]
    go_wp2_with fail
    refine (prefix_yes s T _ (by omega) HP1.out).mono ?_
    rintro e w1 ⟨rfl, rfl⟩
    go_wp2_with fail
    refine (zfirst_none T N _ _ (by omega) hN rfl (by rw [HT.out]; exact H2.out)).mono ?_
    rintro e w1 ⟨rfl, p2, rfl⟩
    go_wp2_with fail
    refine (zfirst_some s (N + 1) _ off' _ hs (by omega) (by omega) H1.out).mono ?_
    rintro e w1 ⟨rfl, p3, rfl⟩
    rw [← HL.out]
    go_wp2_with fail
    refine (prefix_yes L T _ (by omega) HP3.out).mono ?_
    rintro e w1 ⟨rfl, rfl⟩
    go_wp2
    go_ret
    exact ⟨rfl, grown_iter (grown_iter (grown_iter (Grown.refl _) _ _) _ _) _ _⟩

end Go.Proofs.Qxb6603348aMods
