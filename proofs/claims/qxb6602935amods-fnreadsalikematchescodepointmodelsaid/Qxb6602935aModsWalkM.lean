import Derived.Test.Qxb6602935aModsWalkD
namespace Go.Proofs.Qxb6602935aMods
open Go.RowKit

/-- A callee that leaves the world, met in a quiet region whose world is drawn already. -/
theorem quiet_from {P : Program} {f : FuncId} {args : Array Value} {w : World} {q n : Nat} {v : Value}
    (h : Calls P f args (w.drewN (q + n)) fun e w' => e = .returned v ∧ w' = w.drewN (q + n)) : Calls P f args (w.drewN (q + n)) fun e w'' => e = .returned v ∧ ∃ m, w'' = w.drewN (q + m) :=
  h.mono fun _ _ ⟨he, hm⟩ => ⟨he, n, hm⟩

set_option maxRecDepth 100000 in
set_option maxHeartbeats 4000000 in
/-- readsAlikeByCodePoints_b1, of a text of the domain -/
theorem mod_any (b off : Nat) (zs : List Int) (cap : Nat) (w : World) (hm : zs.length ≤ 1048576) (hb : Byt zs)
    (hc : ∀ i, i < zs.length → w.cell? ⟨b, off + i, none⟩ = some (.int .u8 (gat zs i))) (hdom : domF zs zs.length 0 = true) :
    Calls Trym.prog 19 #[.slice (some ⟨b, off, none⟩) zs.length cap] w fun e w' => e = .returned (.bool (modF zs zs.length 0)) ∧ ∃ q, w' = w.drewN q := by
  have HB : Hid (Byt zs) := hb
  have HC : Hid (∀ i, i < zs.length → w.cell? ⟨b, off + i, none⟩ = some (.int .u8 (gat zs i))) := hc
  have HCQ : Hid (∀ q i, i < zs.length → (w.drewN q).cell? ⟨b, off + i, none⟩ = some (.int .u8 (gat zs i))) := fun q i hi => by simpa using hc i hi
  have HDOM : Hid (domF zs zs.length 0 = true) := hdom
  clear hb hc hdom
  go_enter Trym.func19, Trym.ntmps19
  go_wp2
  go_loopw [3] (fun t wr => ∃ i f q : Nat, i ≤ zs.length ∧ t = .int .i64 i ∧ wr = w.drewN q ∧ Hid (zs.length - i ≤ f ∧ domF zs f i = true ∧ modF zs f i = modF zs zs.length 0)) (fun t _ => zs.length - (intOf t).toNat)
  case atStart => exact ⟨0, zs.length, 0, Nat.zero_le _, rfl, rfl, Nat.sub_le _ _, HDOM.out, rfl⟩
  case round =>
    obtain ⟨i, f, q, hi, rfl, rfl, HF⟩ := hrel
    clear HDOM
    by_cases hlt : i < zs.length
    · have hci := HC.out i hlt
      have hbi := HB.out i
      obtain ⟨j, hj, hdj⟩ := dom_inv hlt HF.out.1 HF.out.2.1
      rcases stepD_inv hj with ⟨h92, hl2, hesc, rfl⟩ | ⟨h92, h117, hl6, hx4, rfl⟩ | ⟨h92, r, s, hd, rfl⟩
      · have h92b : (gat zs i == 92) = true := by simp [h92]
        have hce := HC.out (i + 1) (by omega)
        have hbe := HB.out (i + 1)
        by_cases h47 : gat zs (i + 1) = 47
        · have HR : Hid (false = modF zs zs.length 0) := by unfold Hid; rw [← HF.out.2.2, mod_slash hlt HF.out.1 h92 h47]
          have e1 : (gat zs (i + 1) == 47) = true := by simp [h47]
          clear hj hdj h92 hesc HF h47
          go_wp2
          go_ret
          exact ⟨ret_bool3 HR.out, _, rfl⟩
        · have hne : ¬ gat zs (i + 1) = 117 := by intro h; rw [h] at hesc; exact absurd hesc (by decide)
          have HN : Hid (zs.length - (i + 2) ≤ f - 1 ∧ domF zs (f - 1) (i + 2) = true ∧ modF zs (f - 1) (i + 2) = modF zs zs.length 0) := ⟨by have := HF.out.1; omega, hdj, by rw [← HF.out.2.2, mod_e hlt HF.out.1 h92 h47 hne]⟩
          have e1 : (gat zs (i + 1) == 47) = false := by simp [h47]
          have e2 : (gat zs (i + 1) == 117) = false := by simp [hne]
          clear hj hdj h92 hesc HF h47 hne
          go_wp2
          go_roundw
          case rel => exact ⟨i + 2, f - 1, _, by omega, by go_num, rfl, HN⟩
          case measure => simp [intOf]; omega
      · have h92b : (gat zs i == 92) = true := by simp [h92]
        have hce := HC.out (i + 1) (by omega)
        have HU : Hid (gat zs (i + 1) = 117) := h117
        rw [h117] at hce
        clear h117
        have hc2 := HC.out (i + 2) (by omega)
        have hc3 := HC.out (i + 3) (by omega)
        have hc4 := HC.out (i + 4) (by omega)
        have hc5 := HC.out (i + 5) (by omega)
        obtain ⟨hb2a, hb2b⟩ := HB.out (i + 2)
        obtain ⟨hb3a, hb3b⟩ := HB.out (i + 3)
        obtain ⟨hb4a, hb4b⟩ := HB.out (i + 4)
        obtain ⟨hb5a, hb5b⟩ := HB.out (i + 5)
        have hx := hex4_out hx4
        have hy2 := hexv_bounds (gat zs (i + 2))
        have hy3 := hexv_bounds (gat zs (i + 3))
        have hy4 := hexv_bounds (gat zs (i + 4))
        have hy5 := hexv_bounds (gat zs (i + 5))
        obtain ⟨hx2, hx3, hx4', hx5⟩ := hx
        obtain ⟨hy2', hy2⟩ := hy2
        obtain ⟨hy3', hy3⟩ := hy3
        obtain ⟨hy4', hy4⟩ := hy4
        obtain ⟨hy5', hy5⟩ := hy5
        have hl2' : (i : Int) + 2 < (zs.length : Int) := by omega
        have hl3' : (i : Int) + 3 < (zs.length : Int) := by omega
        have hl4' : (i : Int) + 4 < (zs.length : Int) := by omega
        have hl5' : (i : Int) + 5 < (zs.length : Int) := by omega
        by_cases hs : 55296 ≤ uval zs i ∧ uval zs i ≤ 57343
        · have HR : Hid (false = modF zs zs.length 0) := by unfold Hid; rw [← HF.out.2.2, mod_sur hlt HF.out.1 h92 HU.out hs]
          unfold uval at hs
          obtain ⟨hs1, hs2⟩ := hs
          clear hj hdj h92 HF hx4
          go_wp2
          go_quiet ((go_at_call 23; refine quiet_from (hex_any _ _ ?_ ?_) <;> assumption))
          go_wp2
          go_ret
          exact ⟨ret_bool3 HR.out, _, rfl⟩
        · have HN : Hid (zs.length - (i + 6) ≤ f - 1 ∧ domF zs (f - 1) (i + 6) = true ∧ modF zs (f - 1) (i + 6) = modF zs zs.length 0) := ⟨by have := HF.out.1; omega, hdj, by rw [← HF.out.2.2, mod_u hlt HF.out.1 h92 HU.out hs]⟩
          unfold uval at hs
          clear hj hdj h92 HF hx4
          by_cases hs1 : 55296 ≤ hexv (gat zs (i + 2)) * 4096 + hexv (gat zs (i + 3)) * 256 + hexv (gat zs (i + 4)) * 16 + hexv (gat zs (i + 5))
          · have hs2 : ¬ hexv (gat zs (i + 2)) * 4096 + hexv (gat zs (i + 3)) * 256 + hexv (gat zs (i + 4)) * 16 + hexv (gat zs (i + 5)) ≤ 57343 := by omega
            clear hs
            go_wp2
            go_quiet ((go_at_call 23; refine quiet_from (hex_any _ _ ?_ ?_) <;> assumption))
            go_wp2
            go_roundw
            case rel => exact ⟨i + 6, f - 1, _, by omega, by go_num, rfl, HN⟩
            case measure => simp [intOf]; omega
          · clear hs
            go_wp2
            go_quiet ((go_at_call 23; refine quiet_from (hex_any _ _ ?_ ?_) <;> assumption))
            go_wp2
            go_roundw
            case rel => exact ⟨i + 6, f - 1, _, by omega, by go_num, rfl, HN⟩
            case measure => simp [intOf]; omega
      · have h92b : (gat zs i == 92) = false := by simp [h92]
        have hsz := decR_size hlt hbi.1 hd
        have HD : Hid (decR zs i = some (r, s)) := hd
        cases hr : refu r with
        | true =>
          have HR : Hid (false = modF zs zs.length 0) := by unfold Hid; rw [← HF.out.2.2, mod_refu hlt HF.out.1 h92 hd hr]
          clear hj hdj h92 HF hd
          go_wp2_with (first | (go_at_call 24; refine (dec_some b off zs cap i _ r s hm hlt HB.out (HCQ.out _) HD.out).mono ?_; rintro e w' ⟨rfl, rfl⟩) | (go_at_call 26; refine (refu_any _ _).mono ?_; rintro e w' ⟨rfl, rfl⟩))
          go_ret
          exact ⟨ret_bool3 HR.out, _, rfl⟩
        | false =>
          have HN : Hid (zs.length - (i + s) ≤ f - 1 ∧ domF zs (f - 1) (i + s) = true ∧ modF zs (f - 1) (i + s) = modF zs zs.length 0) := ⟨by have := HF.out.1; omega, hdj, by rw [← HF.out.2.2, mod_c hlt HF.out.1 h92 hd hr]⟩
          clear hj hdj h92 HF hd
          go_wp2_with (first | (go_at_call 24; refine (dec_some b off zs cap i _ r s hm hlt HB.out (HCQ.out _) HD.out).mono ?_; rintro e w' ⟨rfl, rfl⟩) | (go_at_call 26; refine (refu_any _ _).mono ?_; rintro e w' ⟨rfl, rfl⟩))
          go_roundw
          case rel => exact ⟨i + s, f - 1, _, by omega, by go_num, rfl, HN⟩
          case measure => simp [intOf]; omega
    · have HR : Hid (true = modF zs zs.length 0) := by unfold Hid; rw [← HF.out.2.2, mod_end hlt]
      clear HF
      go_wp2
      go_ret
      exact ⟨ret_bool3 HR.out, _, rfl⟩

end Go.Proofs.Qxb6602935aMods
