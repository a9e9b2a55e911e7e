import Derived.Test.Qxb6602935aModsWalkA
import Derived.Test.Qxb6602935aModsWalkN
namespace Go.Proofs.Qxb6602935aMods
open Go.RowKit

theorem auto_cons (st : Int) (zs : List Int) (k : Nat) (hk : k < zs.length) : auto st (zs.drop k) = if nstep st (gat zs k) < 0 then false else auto (nstep st (gat zs k)) (zs.drop (k + 1)) := by
  rw [drop_gat zs k hk]; rfl
theorem auto_stop (st : Int) (zs : List Int) (k : Nat) (hk : k < zs.length) (r : Bool) (h : auto st (zs.drop k) = r) (hn : nstep st (gat zs k) < 0) : false = r := by
  rw [← h, auto_cons st zs k hk, if_pos hn]
theorem auto_go (st : Int) (zs : List Int) (k : Nat) (hk : k < zs.length) (r : Bool) (h : auto st (zs.drop k) = r) (hn : ¬ nstep st (gat zs k) < 0) : auto (nstep st (gat zs k)) (zs.drop (k + 1)) = r := by
  rw [← h, auto_cons st zs k hk, if_neg hn]
theorem auto_fin (st : Int) (zs : List Int) (k : Nat) (hk : k = zs.length) (r : Bool) (h : auto st (zs.drop k) = r) : accst st = r := by
  rw [← h, hk, List.drop_length]; rfl

set_option maxHeartbeats 1000000 in
/-- jsonAtomByAutomaton_b1 -/
theorem auto_any (b off : Nat) (zs : List Int) (cap : Nat) (w : World) (hm : zs.length ≤ 1048576) (hb : Byt zs)
    (hc : ∀ i, i < zs.length → w.cell? ⟨b, off + i, none⟩ = some (.int .u8 (gat zs i))) :
    Calls Trym.prog 11 #[.slice (some ⟨b, off, none⟩) zs.length cap] w fun e w' => e = .returned (.bool (lit zs || auto 0 zs)) ∧ ∃ q, w' = w.drewN q := by
  have HC : Hid (∀ i, i < zs.length → w.cell? ⟨b, off + i, none⟩ = some (.int .u8 (gat zs i))) := hc
  clear hc
  have HB : Hid (Byt zs) := hb
  clear hb
  cases hl : lit zs
  · go_enter Trym.func11, Trym.ntmps11
    go_wp2_with (go_at_call 13; refine (lit_any b off zs cap _ hm (by exact HC.out)).mono ?_; rintro e w' ⟨rfl, q, rfl⟩)
    go_loopw [3, 4] (fun s t wr => ∃ k q : Nat, ∃ st : Int, k ≤ zs.length ∧ s = .int .i64 st ∧ t = .int .i64 k ∧ 0 ≤ st ∧ st ≤ 8 ∧ auto st (zs.drop k) = auto 0 zs ∧ wr = w.drewN q) (fun _ t _ => zs.length - (intOf t).toNat)
    case atStart => exact ⟨0, q, 0, Nat.zero_le _, rfl, rfl, by omega, by omega, rfl, rfl⟩
    case round =>
      obtain ⟨k, q, st, hk, rfl, rfl, hs0, hs8, ha, rfl⟩ := hrel
      have HA : Hid (auto st (zs.drop k) = auto 0 zs) := ha
      clear ha
      by_cases hlt : k < zs.length
      · have hck := HC.out k hlt
        have hbk := HB.out k
        have hnb := nstep_bounds st (gat zs k)
        have hgen := auto_stop st zs k hlt _ HA.out
        have hgo := auto_go st zs k hlt _ HA.out
        have HS : Hid (nstep st (gat zs k) < 0 → false = auto 0 zs) := hgen
        have HG : Hid (¬ nstep st (gat zs k) < 0 → auto (nstep st (gat zs k)) (zs.drop (k + 1)) = auto 0 zs) := hgo
        clear hgen hgo HA
        generalize hN : nstep st (gat zs k) = N at *
        have HN : Hid (nstep st (gat zs k) = N) := hN
        clear hN
        go_wp2_with (go_at_call 22; refine (nstep_any _ _ _ hs0 hs8 hbk.1 hbk.2).mono ?_; rintro e w' ⟨rfl, rfl⟩; rw [HN.out])
        · go_ret
          exact ⟨ret_bool (by rw [Bool.false_or]; exact HS.out (by assumption)), _, rfl⟩
        · go_roundw
          case rel => exact ⟨k + 1, _, N, by omega, rfl, by go_num, by omega, by omega, HG.out (by omega), rfl⟩
          case measure => simp [intOf]; omega
      · have hfin := auto_fin st zs k (by omega) _ HA.out
        have HF : Hid (accst st = auto 0 zs) := hfin
        clear hfin HA HB HC
        have hst : st = 0 ∨ st = 1 ∨ st = 2 ∨ st = 3 ∨ st = 4 ∨ st = 5 ∨ st = 6 ∨ st = 7 ∨ st = 8 := by omega
        rcases hst with rfl | rfl | rfl | rfl | rfl | rfl | rfl | rfl | rfl
        all_goals
          go_wp2
          go_ret
          exact ⟨ret_bool (by rw [← HF.out]; rfl), _, rfl⟩
  · go_enter Trym.func11, Trym.ntmps11
    go_wp2_with (go_at_call 13; refine (lit_any b off zs cap _ hm (by exact HC.out)).mono ?_; rintro e w' ⟨rfl, q, rfl⟩)
    go_ret
    exact ⟨rfl, _, rfl⟩

end Go.Proofs.Qxb6602935aMods
