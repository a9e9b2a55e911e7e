import Derived.Test.Qxb6602935aModsWalkU
import Derived.Test.Qxb6602935aModsPlainC
namespace Go.Proofs.Qxb6602935aMods
open Go.RowKit

theorem ret_bool3 {a b : Bool} (h : a = b) : Ending.returned (.bool a) = .returned (.bool b) := by rw [h]

theorem dec_none (b off : Nat) (zs : List Int) (cap i : Nat) (w : World) (hm : zs.length ≤ 1048576) (hi : i < zs.length) (hb : Byt zs)
    (hc : ∀ i, i < zs.length → w.cell? ⟨b, off + i, none⟩ = some (.int .u8 (gat zs i))) (h : decR zs i = none) :
    Calls Trym.prog 24 #[.slice (some ⟨b, off, none⟩) zs.length cap, .int .i64 i] w fun e w' => e = .returned (.tuple #[.int .i64 0, .int .i64 0, .bool false]) ∧ w' = w := by
  have := dec_any b off zs cap i w hm hi hb hc
  rw [h] at this
  exact this
theorem dec_some (b off : Nat) (zs : List Int) (cap i : Nat) (w : World) (r : Int) (s : Nat) (hm : zs.length ≤ 1048576) (hi : i < zs.length) (hb : Byt zs)
    (hc : ∀ i, i < zs.length → w.cell? ⟨b, off + i, none⟩ = some (.int .u8 (gat zs i))) (h : decR zs i = some (r, s)) :
    Calls Trym.prog 24 #[.slice (some ⟨b, off, none⟩) zs.length cap, .int .i64 i] w fun e w' => e = .returned (.tuple #[.int .i64 r, .int .i64 (s : Int), .bool true]) ∧ w' = w := by
  have := dec_any b off zs cap i w hm hi hb hc
  rw [h] at this
  exact this

set_option maxRecDepth 100000 in
set_option maxHeartbeats 4000000 in
/-- rawStringInDomain_b1 -/
theorem dom_any (b off : Nat) (zs : List Int) (cap : Nat) (w : World) (hm : zs.length ≤ 1048576) (hb : Byt zs)
    (hc : ∀ i, i < zs.length → w.cell? ⟨b, off + i, none⟩ = some (.int .u8 (gat zs i))) :
    Calls Trym.prog 17 #[.slice (some ⟨b, off, none⟩) zs.length cap] w fun e w' => e = .returned (.bool (domF zs zs.length 0)) ∧ w' = w := by
  have HB : Hid (Byt zs) := hb
  have HC : Hid (∀ i, i < zs.length → w.cell? ⟨b, off + i, none⟩ = some (.int .u8 (gat zs i))) := hc
  clear hb hc
  go_enter Trym.func17, Trym.ntmps17
  go_wp2
  go_loop [3] (fun t => ∃ i f : Nat, i ≤ zs.length ∧ t = .int .i64 i ∧ Hid (zs.length - i ≤ f ∧ domF zs f i = domF zs zs.length 0)) (fun t => zs.length - (intOf t).toNat)
  case atStart => exact ⟨0, zs.length, Nat.zero_le _, rfl, Nat.sub_le _ _, rfl⟩
  case round =>
    obtain ⟨i, f, hi, rfl, HF⟩ := hrel
    by_cases hlt : i < zs.length
    · have hci := HC.out i hlt
      have hbi := HB.out i
      have HNO : Hid (stepD zs i = none → false = domF zs zs.length 0) := fun h => by rw [← HF.out.2, dom_no hlt HF.out.1 h]
      have HGO : Hid (∀ j, i < j → stepD zs i = some j → zs.length - j ≤ f - 1 ∧ domF zs (f - 1) j = domF zs zs.length 0) := fun j hj h => ⟨by have := HF.out.1; omega, by rw [← HF.out.2, dom_go hlt HF.out.1 h]⟩
      clear HF
      by_cases h92 : gat zs i = 92
      · have h92b : (gat zs i == 92) = true := by simp [h92]
        have H92 : Hid (gat zs i = 92) := h92
        clear h92
        by_cases hcut : zs.length ≤ i + 1
        · have HR := HNO.out (stepD_cut H92.out hcut)
          have HR' : Hid (false = domF zs zs.length 0) := HR
          clear HR
          go_wp2
          go_ret
          exact ⟨ret_bool3 HR'.out, rfl⟩
        · have hce := HC.out (i + 1) (by omega)
          have hbe := HB.out (i + 1)
          have hcut' : ¬ (zs.length : Int) ≤ (i : Int) + 1 := by omega
          by_cases hesc : escD (gat zs (i + 1)) = true
          · have HS : Hid (zs.length - (i + 2) ≤ f - 1 ∧ domF zs (f - 1) (i + 2) = domF zs zs.length 0) := HGO.out (i + 2) (by omega) (stepD_esc H92.out hcut hesc)
            have hee : gat zs (i + 1) = 34 ∨ gat zs (i + 1) = 92 ∨ gat zs (i + 1) = 47 ∨ gat zs (i + 1) = 98 ∨ gat zs (i + 1) = 102 ∨ gat zs (i + 1) = 110 ∨ gat zs (i + 1) = 114 ∨ gat zs (i + 1) = 116 := by simpa [escD] using hesc
            clear hesc HNO HGO hbe
            generalize gat zs (i + 1) = e at *
            rcases hee with rfl | rfl | rfl | rfl | rfl | rfl | rfl | rfl
            all_goals
              go_wp2
              go_round
              case rel => exact ⟨i + 2, f - 1, by omega, by go_num, HS⟩
              case measure => simp [intOf]; omega
          · by_cases h117 : gat zs (i + 1) = 117
            · have H117 : Hid (gat zs (i + 1) = 117) := h117
              rw [h117] at hce
              clear h117 hbe hesc
              by_cases hu : zs.length < i + 6
              · have HR' : Hid (false = domF zs zs.length 0) := HNO.out (stepD_ucut H92.out H117.out hu)
                go_wp2
                go_ret
                exact ⟨ret_bool3 HR'.out, rfl⟩
              · have hu' : ¬ (zs.length : Int) < (i : Int) + 6 := by omega
                have HUY : Hid (hex4 zs i = true → zs.length - (i + 6) ≤ f - 1 ∧ domF zs (f - 1) (i + 6) = domF zs zs.length 0) := fun h => HGO.out (i + 6) (by omega) (stepD_uyes H92.out H117.out hu h)
                have HUN : Hid (hex4 zs i = false → false = domF zs zs.length 0) := fun h => HNO.out (stepD_uno H92.out H117.out hu h)
                clear HNO HGO
                go_wp2
                go_loop [4] (fun t => ∃ m : Nat, m ≤ 4 ∧ t = .int .i64 ((i : Int) + 2 + (m : Int)) ∧ Hid (∀ j, j < m → 0 ≤ hexv (gat zs (i + 2 + j)))) (fun t => (i + 6) - (intOf t).toNat)
                case atStart => exact ⟨0, by omega, by go_num, fun j hj => absurd hj (by omega)⟩
                case round =>
                  obtain ⟨m, hm4, rfl, HX⟩ := hrel
                  by_cases hlt4 : m < 4
                  · have hcm := HC.out (i + 2 + m) (by omega)
                    have hbm := HB.out (i + 2 + m)
                    by_cases hneg : hexv (gat zs (i + 2 + m)) < 0
                    · have HR' : Hid (false = domF zs zs.length 0) := HUN.out (hex4_no hlt4 hneg)
                      go_wp2_with (go_at_call 23; refine (hex_any _ _ hbm.1 hbm.2).mono ?_; rintro e w' ⟨rfl, rfl⟩)
                      go_ret
                      exact ⟨ret_bool3 HR'.out, rfl⟩
                    · go_wp2_with (go_at_call 23; refine (hex_any _ _ hbm.1 hbm.2).mono ?_; rintro e w' ⟨rfl, rfl⟩)
                      go_round
                      case rel =>
                        refine ⟨m + 1, by omega, by go_num, fun j hj => ?_⟩
                        by_cases e : j < m
                        · exact HX.out j e
                        · obtain rfl : j = m := by omega
                          omega
                      case measure => simp [intOf]; omega
                  · obtain rfl : m = 4 := by omega
                    have HS : Hid (zs.length - (i + 6) ≤ f - 1 ∧ domF zs (f - 1) (i + 6) = domF zs zs.length 0) := HUY.out (hex4_yes HX.out)
                    go_wp2
                    go_round
                    case rel => exact ⟨i + 6, f - 1, by omega, by go_num, HS⟩
                    case measure => simp [intOf]; omega
            · have HR' : Hid (false = domF zs zs.length 0) := HNO.out (stepD_other H92.out hcut (by simpa using hesc) h117)
              have hee : ¬ (gat zs (i + 1) = 34 ∨ gat zs (i + 1) = 92 ∨ gat zs (i + 1) = 47 ∨ gat zs (i + 1) = 98 ∨ gat zs (i + 1) = 102 ∨ gat zs (i + 1) = 110 ∨ gat zs (i + 1) = 114 ∨ gat zs (i + 1) = 116) := by simpa [escD] using hesc
              have e1 : (gat zs (i + 1) == 34) = false := beq_eq_false_iff_ne.2 (by omega)
              have e2 : (gat zs (i + 1) == 92) = false := beq_eq_false_iff_ne.2 (by omega)
              have e3 : (gat zs (i + 1) == 47) = false := beq_eq_false_iff_ne.2 (by omega)
              have e4 : (gat zs (i + 1) == 98) = false := beq_eq_false_iff_ne.2 (by omega)
              have e5 : (gat zs (i + 1) == 102) = false := beq_eq_false_iff_ne.2 (by omega)
              have e6 : (gat zs (i + 1) == 110) = false := beq_eq_false_iff_ne.2 (by omega)
              have e7 : (gat zs (i + 1) == 114) = false := beq_eq_false_iff_ne.2 (by omega)
              have e8 : (gat zs (i + 1) == 116) = false := beq_eq_false_iff_ne.2 (by omega)
              have e9 : (gat zs (i + 1) == 117) = false := beq_eq_false_iff_ne.2 (by omega)
              clear hee hesc h117
              go_wp2
              go_ret
              exact ⟨ret_bool3 HR'.out, rfl⟩
      · have h92b : (gat zs i == 92) = false := by simp [h92]
        cases hd : decR zs i with
        | none =>
          have HR' : Hid (false = domF zs zs.length 0) := HNO.out (stepD_none h92 hd)
          have HD : Hid (decR zs i = none) := hd
          clear hd h92
          go_wp2_with (go_at_call 24; refine (dec_none b off zs cap i _ hm hlt HB.out HC.out HD.out).mono ?_; rintro e w' ⟨rfl, rfl⟩)
          go_ret
          exact ⟨ret_bool3 HR'.out, rfl⟩
        | some x =>
          obtain ⟨r, s⟩ := x
          have hsz := decR_size hlt hbi.1 hd
          have HS : Hid (zs.length - (i + s) ≤ f - 1 ∧ domF zs (f - 1) (i + s) = domF zs zs.length 0) := HGO.out (i + s) (by omega) (stepD_some h92 hd)
          have HD : Hid (decR zs i = some (r, s)) := hd
          clear hd h92
          go_wp2_with (go_at_call 24; refine (dec_some b off zs cap i _ r s hm hlt HB.out HC.out HD.out).mono ?_; rintro e w' ⟨rfl, rfl⟩)
          go_round
          case rel => exact ⟨i + s, f - 1, by omega, by go_num, HS⟩
          case measure => simp [intOf]; omega
    · have HR : Hid (true = domF zs zs.length 0) := by unfold Hid; rw [← HF.out.2, dom_end hlt]
      clear HF
      go_wp2
      go_ret
      exact ⟨ret_bool3 HR.out, rfl⟩

end Go.Proofs.Qxb6602935aMods
