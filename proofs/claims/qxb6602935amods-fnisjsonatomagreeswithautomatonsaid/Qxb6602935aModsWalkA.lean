import Derived.Test.Qxb6602935aModsRows
import Derived.Test.Qxb6602935aModsPlain
import Derived.WalkKit
import Derived.WalkSpells
import Derived.WalkLawsBesides
import Derived.BigQuiet
import Derived.Deep.QuietTactic
namespace Go.Proofs.Qxb6602935aMods
open Go.RowKit

theorem ret_int {k : IntKind} {a b : Int} (h : a = b) : Ending.returned (.int k a) = .returned (.int k b) := by rw [h]
theorem ret_bool {a b : Bool} (h : a = b) : Ending.returned (.bool a) = .returned (.bool b) := by rw [h]

/-- pastDigits -/
theorem past_any (b off : Nat) (zs : List Int) (cap i : Nat) (w : World) (hm : zs.length ≤ 1048576) (hi : i ≤ zs.length) (hb : Byt zs)
    (hc : ∀ i, i < zs.length → w.cell? ⟨b, off + i, none⟩ = some (.int .u8 (gat zs i))) :
    Calls Trym.prog 27 #[.slice (some ⟨b, off, none⟩) zs.length cap, .int .i64 i] w fun e w' => e = .returned (.int .i64 (pd zs i)) ∧ w' = w := by
  go_enter Trym.func27, Trym.ntmps27
  go_wp2
  go_loop [1] (fun t => ∃ k : Nat, i ≤ k ∧ k ≤ zs.length ∧ t = .int .i64 k ∧ pd zs k = pd zs i) (fun t => zs.length - (intOf t).toNat)
  case atStart => exact ⟨i, Nat.le_refl _, hi, rfl, rfl⟩
  case round =>
    obtain ⟨k, hk, hk', rfl, hpd⟩ := hrel
    have HP : Hid (pd zs k = pd zs i) := hpd
    clear hpd
    by_cases hlt : k < zs.length
    · have hck := hc k hlt
      have hbk := hb k
      clear hc hb
      by_cases h1 : 48 ≤ gat zs k
      · by_cases h2 : gat zs k ≤ 57
        · go_wp2
          go_round
          case rel => exact ⟨k + 1, by omega, by omega, by go_num, by rw [← HP.out]; exact (pd_step zs k hlt (by simp [dig, h1, h2])).symm⟩
          case measure => simp [intOf]; omega
        · go_wp2
          go_ret
          exact ⟨ret_int (by rw [← HP.out, pd_stop zs k hlt (by simp [dig]; omega)]), rfl⟩
      · go_wp2
        go_ret
        exact ⟨ret_int (by rw [← HP.out, pd_stop zs k hlt (by simp [dig]; omega)]), rfl⟩
    · have he : k = zs.length := by omega
      clear hc hb
      go_wp2
      go_ret
      exact ⟨ret_int (by rw [← HP.out, pd_end zs k he]; omega), rfl⟩

/-- bytesAre_b1 -/
theorem are_any (b off : Nat) (zs : List Int) (cap : Nat) (s : ByteArray) (w : World) (hm : zs.length ≤ 1048576)
    (hc : ∀ i, i < zs.length → w.cell? ⟨b, off + i, none⟩ = some (.int .u8 (gat zs i))) :
    Calls Trym.prog 15 #[.slice (some ⟨b, off, none⟩) zs.length cap, .string s] w fun e w' => e = .returned (.bool (eqS zs s)) ∧ ∃ q, w' = w.drewN q := by
  by_cases hl : zs.length = s.size
  · have hl' : ((zs.length : Int) != (s.size : Int)) = false := by simp; omega
    have hs : s.size ≤ 1048576 := by omega
    have HL : Hid (zs.length = s.size) := hl
    have hle : zs.length ≤ s.size := by omega
    clear hl
    go_enter Trym.func15, Trym.ntmps15
    go_wp2
    go_loopw [5] (fun t wr => ∃ k q : Nat, k ≤ zs.length ∧ t = .int .i64 k ∧ (∀ j, j < k → gat zs j = sat s j) ∧ wr = w.drewN q) (fun t _ => zs.length - (intOf t).toNat)
    case atStart => exact ⟨0, 0, Nat.zero_le _, rfl, fun j hj => absurd hj (by omega), rfl⟩
    case round =>
      obtain ⟨k, q, hk, rfl, hall, rfl⟩ := hrel
      have HA : Hid (∀ j, j < k → gat zs j = sat s j) := hall
      clear hall
      by_cases hlt : k < zs.length
      · have hck := hc k hlt
        have hks : k < s.size := by omega
        have hlt' : (k : Int) < (zs.length : Int) := by omega
        have hks' : (k : Int) < (s.size : Int) := by omega
        clear hc
        go_wp2
        go_quiet (fail)
        go_wp2
        · go_ret
          exact ⟨ret_bool (eqS_no zs s k hks (by assumption)), _, World.drewN_drewN _ _ _⟩
        · have hne : (gat zs k != (s[k].toNat : Int)) = false := by assumption
          go_roundw
          case rel =>
            refine ⟨k + 1, _, by omega, by go_num, fun j hj => ?_, rfl⟩
            by_cases e : j < k
            · exact HA.out j e
            · obtain rfl : j = k := by omega
              rw [sat_at s j hks]
              simpa using hne
          case measure => simp [intOf]; omega
      · clear hc
        go_wp2
        go_ret
        exact ⟨ret_bool (eqS_yes zs s HL.out (fun j hj => HA.out j (by omega))), _, rfl⟩
  · have hl' : ((zs.length : Int) != (s.size : Int)) = true := by simp; omega
    go_enter Trym.func15, Trym.ntmps15
    go_wp2
    go_ret
    exact ⟨ret_bool (by simp [eqS, hl]), 0, rfl⟩

/-- isJSONLiteral_b1 -/
theorem lit_any (b off : Nat) (zs : List Int) (cap : Nat) (w : World) (hm : zs.length ≤ 1048576)
    (hc : ∀ i, i < zs.length → w.cell? ⟨b, off + i, none⟩ = some (.int .u8 (gat zs i))) :
    Calls Trym.prog 13 #[.slice (some ⟨b, off, none⟩) zs.length cap] w fun e w' => e = .returned (.bool (lit zs)) ∧ ∃ q, w' = w.drewN q := by
  have hq : ∀ q i, i < zs.length → (w.drewN q).cell? ⟨b, off + i, none⟩ = some (.int .u8 (gat zs i)) := fun q i hi => by simpa using hc i hi
  have HC : Hid (∀ i, i < zs.length → w.cell? ⟨b, off + i, none⟩ = some (.int .u8 (gat zs i))) := hc
  have HQ : Hid (∀ q i, i < zs.length → (w.drewN q).cell? ⟨b, off + i, none⟩ = some (.int .u8 (gat zs i))) := hq
  clear hc hq
  unfold lit
  cases h1 : eqS zs ⟨#[116, 114, 117, 101]⟩ <;> cases h2 : eqS zs ⟨#[102, 97, 108, 115, 101]⟩ <;> cases h3 : eqS zs ⟨#[110, 117, 108, 108]⟩
  all_goals
    go_enter Trym.func13, Trym.ntmps13
    go_wp2_with (first | (go_at_call 15; refine (are_any b off zs cap _ _ hm (by first | exact HC.out | exact HQ.out _)).mono ?_; rintro e w' ⟨rfl, q, rfl⟩))
    go_ret
    exact ⟨rfl, _, by first | rfl | exact World.drewN_drewN _ _ _⟩

end Go.Proofs.Qxb6602935aMods
