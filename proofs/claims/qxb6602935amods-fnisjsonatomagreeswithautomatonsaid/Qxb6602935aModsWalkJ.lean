import Derived.Test.Qxb6602935aModsWalkA
import Derived.Laws.BytesArg
import Derived.Deep.DeepCutAuto
import Derived.Deep.CutBlock
namespace Go.Proofs.Qxb6602935aMods
open Go.RowKit

/-- pastDigits, its place an Int -/
theorem past_int (b off : Nat) (zs : List Int) (cap : Nat) (i : Int) (w : World) (hm : zs.length ≤ 1048576) (h0 : 0 ≤ i) (h1 : i ≤ zs.length) (hb : Byt zs)
    (hc : ∀ i, i < zs.length → w.cell? ⟨b, off + i, none⟩ = some (.int .u8 (gat zs i))) :
    Calls Trym.prog 27 #[.slice (some ⟨b, off, none⟩) zs.length cap, .int .i64 i] w fun e w' => e = .returned (.int .i64 (pd zs i.toNat)) ∧ w' = w := by
  obtain ⟨n, rfl⟩ := Int.eq_ofNat_of_zero_le h0
  rw [Int.toNat_natCast]
  exact past_any b off zs cap n w hm (by omega) hb hc

set_option maxRecDepth 100000 in
set_option maxHeartbeats 4000000 in
/-- isJSONAtom -/
theorem atom_any (b off : Nat) (zs : List Int) (cap : Nat) (w : World) (S : ByteArray) (hm : zs.length ≤ 1048576) (hb : Byt zs)
    (hc : ∀ i, i < zs.length → w.cell? ⟨b, off + i, none⟩ = some (.int .u8 (gat zs i)))
    (hconv : (convert 22 9 (.slice (some ⟨b, off, none⟩) zs.length cap)).run Trym.prog w = .ok (.string S) w)
    (e1 : (S.toList == [116, 114, 117, 101]) = false) (e2 : (S.toList == [102, 97, 108, 115, 101]) = false) (e3 : (S.toList == [110, 117, 108, 108]) = false) :
    Calls Trym.prog 21 #[.slice (some ⟨b, off, none⟩) zs.length cap] w fun e w' => e = .returned (.bool (atomP zs)) ∧ w' = w := by
  have HC : Hid (∀ i, i < zs.length → w.cell? ⟨b, off + i, none⟩ = some (.int .u8 (gat zs i))) := hc
  clear hc
  have HB : Hid (Byt zs) := hb
  clear hb
  go_enter Trym.func21, Trym.ntmps21
  go_upto_region 6 with fail
  clear hconv e1 e2 e3
  go_cut [3] from 6 (fun t wx => t = .int .i64 0 ∧ w = wx)
  case first =>
    go_wp2
    go_meet
    exact ⟨rfl, rfl⟩
  case rest =>
    obtain ⟨rfl, rfl⟩ := hcut
    rename_i K hK
    apply hK
    apply wp_seq_k
    intro K2 hK2
    go_cut [3] from 6 (fun t wx => (∃ i0 : Nat, i0 ≤ zs.length ∧ t = .int .i64 i0 ∧ Hid (i0 = i0Of zs)) ∧ w = wx)
    case first =>
      by_cases h1 : 0 < zs.length
      · have hck := HC.out 0 h1
        rw [Nat.add_zero] at hck
        have hbk := HB.out 0
        by_cases h2 : gat zs 0 = 45
        · have h3 : (gat zs 0 == 45) = true := by simp [h2]
          have HE : Hid (1 = i0Of zs) := by unfold i0Of Hid; rw [if_pos ⟨h1, h2⟩]
          clear h2
          go_wp2
          go_meet
          exact ⟨⟨1, by omega, rfl, HE⟩, rfl⟩
        · have h3 : (gat zs 0 == 45) = false := by simp [h2]
          have HE : Hid (0 = i0Of zs) := by unfold i0Of Hid; rw [if_neg (by omega)]
          clear h2
          go_wp2
          go_meet
          exact ⟨⟨0, by omega, rfl, HE⟩, rfl⟩
      · have HE : Hid (0 = i0Of zs) := by unfold i0Of Hid; rw [if_neg (by omega)]
        go_wp2
        go_meet
        exact ⟨⟨0, by omega, rfl, HE⟩, rfl⟩
    case rest =>
      obtain ⟨⟨i0, hi0, rfl, HE⟩, rfl⟩ := hcut
      apply hK2
      apply wp_seq_k
      intro K3 hK3
      go_cut [3] from 6 (fun t wx => (∃ p : Nat, p ≤ zs.length ∧ t = .int .i64 p ∧ Hid (atomP zs = tailP zs p)) ∧ w = wx)
      case first =>
        by_cases h1 : i0 < zs.length
        · have hck := HC.out i0 h1
          have hbk := HB.out i0
          by_cases h2 : gat zs i0 = 48
          · have h3 : (gat zs i0 == 48) = true := by simp [h2]
            have HA : Hid (atomP zs = tailP zs (i0 + 1)) := atom_some (by rw [← HE.out]; unfold intP; rw [if_pos ⟨h1, h2⟩])
            clear h2
            go_wp2
            go_meet
            exact ⟨⟨i0 + 1, by omega, by go_num, HA⟩, rfl⟩
          · have h3 : (gat zs i0 == 48) = false := by simp [h2]
            by_cases h4 : 49 ≤ gat zs i0 ∧ gat zs i0 ≤ 57
            · have HA : Hid (atomP zs = tailP zs (pd zs i0)) := atom_some (by rw [← HE.out]; unfold intP; rw [if_neg (fun h => h2 h.2), if_pos ⟨h1, h4⟩])
              have hpb := pd_bounds zs i0 hi0
              obtain ⟨h4, h5⟩ := h4
              clear h2
              go_wp2_with (go_at_call 27; refine (past_int b off zs cap _ _ hm (by omega) (by omega) HB.out HC.out).mono ?_; rintro e w' ⟨rfl, rfl⟩; rw [Int.toNat_natCast])
              go_meet
              exact ⟨⟨pd zs i0, by omega, rfl, HA⟩, rfl⟩
            · have HA : Hid (false = atomP zs) := (atom_none (by rw [← HE.out]; unfold intP; rw [if_neg (fun h => h2 h.2), if_neg (fun h => h4 h.2)])).symm
              clear h2
              by_cases h5 : 49 ≤ gat zs i0
              · have h6 : ¬ gat zs i0 ≤ 57 := by omega
                clear h4
                go_wp2
                go_ret
                exact ⟨ret_bool HA.out, rfl⟩
              · clear h4
                go_wp2
                go_ret
                exact ⟨ret_bool HA.out, rfl⟩
        · have HA : Hid (false = atomP zs) := (atom_none (by rw [← HE.out]; unfold intP; rw [if_neg (fun h => h1 h.1), if_neg (fun h => h1 h.1)])).symm
          go_wp2
          go_ret
          exact ⟨ret_bool HA.out, rfl⟩
      case rest =>
        clear HE
        obtain ⟨⟨p, hp, rfl, HA⟩, rfl⟩ := hcut
        apply hK3
        apply wp_seq_k
        intro K4 hK4
        go_cut [3] from 6 (fun t wx => (∃ q : Nat, q ≤ zs.length ∧ t = .int .i64 q ∧ Hid (atomP zs = expP zs q)) ∧ w = wx)
        case first =>
          by_cases h1 : p < zs.length
          · have hck := HC.out p h1
            have hbk := HB.out p
            by_cases h2 : gat zs p = 46
            · have h3 : (gat zs p == 46) = true := by simp [h2]
              have hpb := pd_bounds zs (p + 1) (by omega)
              by_cases h4 : pd zs (p + 1) = p + 1
              · have HT : Hid (false = atomP zs) := by unfold Hid; rw [HA.out, tail_none]; unfold fracP; rw [if_pos ⟨h1, h2⟩, if_pos h4]
                have HQ : Hid (pd zs (p + 1) = p + 1) := h4
                clear h4 h2 hpb
                go_wp2_with (go_at_call 27; refine (past_int b off zs cap _ _ hm (by omega) (by omega) HB.out HC.out).mono ?_; rintro e w' ⟨rfl, rfl⟩; rw [show ((p : Int) + 1).toNat = p + 1 from by omega, HQ.out, show ((p + 1 : Nat) : Int) = (p : Int) + 1 from by omega])
                go_ret
                exact ⟨ret_bool HT.out, rfl⟩
              · have HT : Hid (atomP zs = expP zs (pd zs (p + 1))) := by unfold Hid; rw [HA.out]; refine tail_some ?_; unfold fracP; rw [if_pos ⟨h1, h2⟩, if_neg h4]
                have h5 : ((pd zs (p + 1) : Int) == (p : Int) + 1) = false := by rw [beq_eq_false_iff_ne]; omega
                clear h4 h2
                go_wp2_with (go_at_call 27; refine (past_int b off zs cap _ _ hm (by omega) (by omega) HB.out HC.out).mono ?_; rintro e w' ⟨rfl, rfl⟩; rw [show ((p : Int) + 1).toNat = p + 1 from by omega])
                go_meet
                exact ⟨⟨pd zs (p + 1), by omega, rfl, HT⟩, rfl⟩
            · have h3 : (gat zs p == 46) = false := by simp [h2]
              have HT : Hid (atomP zs = expP zs p) := by unfold Hid; rw [HA.out]; refine tail_some ?_; unfold fracP; rw [if_neg (fun h => h2 h.2)]
              clear h2
              go_wp2
              go_meet
              exact ⟨⟨p, by omega, rfl, HT⟩, rfl⟩
          · have HT : Hid (atomP zs = expP zs p) := by unfold Hid; rw [HA.out]; refine tail_some ?_; unfold fracP; rw [if_neg (fun h => h1 h.1)]
            go_wp2
            go_meet
            exact ⟨⟨p, by omega, rfl, HT⟩, rfl⟩
        case rest =>
          clear HA
          obtain ⟨⟨q, hq, rfl, HA⟩, rfl⟩ := hcut
          apply hK4
          by_cases h1 : q < zs.length
          · have hck := HC.out q h1
            have hbk := HB.out q
            by_cases hexp : (gat zs q == 101) = true ∨ ((gat zs q == 101) = false ∧ (gat zs q == 69) = true)
            · have hsb := sign_bounds zs (q + 1) (by omega)
              obtain ⟨r, hr⟩ : ∃ r, signP zs (q + 1) = r := ⟨_, rfl⟩
              rw [hr] at hsb
              have hpb := pd_bounds zs r hsb.2
              obtain ⟨P, hP⟩ : ∃ P, pd zs r = P := ⟨_, rfl⟩
              rw [hP] at hpb
              have HT : Hid (atomP zs = if P = r then false else decide (P = zs.length)) := by unfold Hid; rw [HA.out, exp_yes h1 hexp hr hP]
              have hsc := sign_cases zs (q + 1)
              rw [hr] at hsc
              clear hr
              by_cases hz : P = r
              · subst hz
                have HP : Hid (pd zs P = P) := hP
                clear hP
                have HF : Hid (false = atomP zs) := by unfold Hid; rw [HT.out, if_pos rfl]
                clear HT
                rcases hexp with hx | ⟨hx, hy⟩ <;> rcases hsc with ⟨g1, rfl⟩ | ⟨g1, g2, rfl⟩ | ⟨g1, g2, g3, rfl⟩ | ⟨g1, g2, g3, rfl⟩
                all_goals
                  first | (have hcs := HC.out (q + 1) g1; have hbs := HB.out (q + 1)) | skip
                  go_wp2_with (go_at_call 27; refine (past_int b off zs cap _ _ hm (by omega) (by omega) HB.out HC.out).mono ?_; rintro e w' ⟨rfl, rfl⟩; first | rw [show ((q : Int) + 1).toNat = q + 1 from by omega, HP.out, show ((q + 1 : Nat) : Int) = (q : Int) + 1 from by omega] | rw [show ((q : Int) + 1 + 1).toNat = q + 1 + 1 from by omega, HP.out, show ((q + 1 + 1 : Nat) : Int) = (q : Int) + 1 + 1 from by omega])
                  go_ret
                  exact ⟨ret_bool HF.out, rfl⟩
              · have HP : Hid (pd zs r = P) := hP
                clear hP
                have HF : Hid (((P : Int) == (zs.length : Int)) = atomP zs) := by unfold Hid; rw [HT.out, if_neg hz, Bool.eq_iff_iff]; simp; omega
                clear HT
                rcases hexp with hx | ⟨hx, hy⟩ <;> rcases hsc with ⟨g1, rfl⟩ | ⟨g1, g2, rfl⟩ | ⟨g1, g2, g3, rfl⟩ | ⟨g1, g2, g3, rfl⟩
                all_goals try (exfalso; omega)
                all_goals
                  first | (have hcs := HC.out (q + 1) g1; have hbs := HB.out (q + 1)) | skip
                  go_wp2_with (go_at_call 27; refine (past_int b off zs cap _ _ hm (by omega) (by omega) HB.out HC.out).mono ?_; rintro e w' ⟨rfl, rfl⟩; first | rw [show ((q : Int) + 1).toNat = q + 1 from by omega, HP.out] | rw [show ((q : Int) + 1 + 1).toNat = q + 1 + 1 from by omega, HP.out])
                  go_ret
                  exact ⟨ret_bool HF.out, rfl⟩
            · have hx : (gat zs q == 101) = false := by
                cases hh : (gat zs q == 101)
                · rfl
                · exact absurd (.inl hh) hexp
              have hy : (gat zs q == 69) = false := by
                cases hh : (gat zs q == 69)
                · rfl
                · exact absurd (.inr ⟨hx, hh⟩) hexp
              have HF : Hid (false = atomP zs) := by unfold Hid; rw [HA.out, exp_not h1 hx hy]
              have hl : ((q : Int) == (zs.length : Int)) = false := by rw [beq_eq_false_iff_ne]; omega
              clear hexp
              go_wp2
              go_ret
              exact ⟨ret_bool HF.out, rfl⟩
          · have HF : Hid (true = atomP zs) := by unfold Hid; rw [HA.out, exp_far hq h1]
            have hl : ((q : Int) == (zs.length : Int)) = true := by rw [beq_iff_eq]; omega
            go_wp2
            go_ret
            exact ⟨ret_bool HF.out, rfl⟩

end Go.Proofs.Qxb6602935aMods
