import Derived.Test.Qxb6602935aModsRows
import Derived.Test.Qxb6602935aModsPlainB
import Derived.Test.Qxb6602935aModsBits
import Derived.WalkKit
import Derived.WalkSpells
import Derived.WalkLawsBesides
import Derived.BigQuiet
import Derived.Deep.QuietTactic
namespace Go.Proofs.Qxb6602935aMods
open Go.RowKit

theorem ret_int3 {k : IntKind} {a b : Int} (h : a = b) : Ending.returned (.int k a) = .returned (.int k b) := by rw [h]

/-- hexValue_b1 -/
theorem hex_any (c : Int) (w : World) (h0 : 0 ≤ c) (h1 : c ≤ 255) :
    Calls Trym.prog 23 #[.int .u8 c] w fun e w' => e = .returned (.int .i64 (hexv c)) ∧ w' = w := by
  have hcases : (c < 48) ∨ (48 ≤ c ∧ c ≤ 57) ∨ (57 < c ∧ c < 65) ∨ (65 ≤ c ∧ c ≤ 70) ∨ (70 < c ∧ c < 97) ∨ (97 ≤ c ∧ c ≤ 102) ∨ (102 < c) := by omega
  rcases hcases with h | ⟨h, h'⟩ | ⟨h, h'⟩ | ⟨h, h'⟩ | ⟨h, h'⟩ | ⟨h, h'⟩ | h
  all_goals
    go_enter Trym.func23, Trym.ntmps23
    go_wp2
    go_ret
    exact ⟨ret_int3 (by unfold hexv; (repeat' split) <;> omega), rfl⟩

/-- yamlRefuses_b1 -/
theorem refu_any (r : Int) (w : World) :
    Calls Trym.prog 26 #[.int .i64 r] w fun e w' => e = .returned (.bool (refu r)) ∧ w' = w := by
  have hcases : r = 127 ∨ r = 8232 ∨ r = 8233 ∨ r = 65534 ∨ r = 65535 ∨ (128 ≤ r ∧ r ≤ 159) ∨ (r < 128 ∧ r ≠ 127) ∨ (159 < r ∧ r ≠ 8232 ∧ r ≠ 8233 ∧ r ≠ 65534 ∧ r ≠ 65535) := by omega
  rcases hcases with rfl | rfl | rfl | rfl | rfl | ⟨h1, h2⟩ | ⟨h1, h2⟩ | ⟨h1, h2, h3, h4, h5⟩
  all_goals try
    have e1 : (r == 127) = false := beq_eq_false_iff_ne.2 (by omega)
    have e2 : (r == 8232) = false := beq_eq_false_iff_ne.2 (by omega)
    have e3 : (r == 8233) = false := beq_eq_false_iff_ne.2 (by omega)
    have e4 : (r == 65534) = false := beq_eq_false_iff_ne.2 (by omega)
    have e5 : (r == 65535) = false := beq_eq_false_iff_ne.2 (by omega)
  all_goals
    go_enter Trym.func26, Trym.ntmps26
    go_wp2
    go_ret
    refine ⟨congrArg (fun b => Ending.returned (.bool b)) ?_, rfl⟩
    first | rfl | (rw [Bool.eq_iff_iff]; simp [refu]; omega) | (simp [refu]; omega)

/-- What decodeUTF8_b1 hands back. -/
def decE : Option (Int × Nat) → Ending
  | none => .returned (.tuple #[.int .i64 0, .int .i64 0, .bool false])
  | some (r, s) => .returned (.tuple #[.int .i64 r, .int .i64 (s : Int), .bool true])

theorem decE_none {o : Option (Int × Nat)} (h : o = none) : Ending.returned (.tuple #[.int .i64 0, .int .i64 0, .bool false]) = decE o := by rw [h]; rfl
theorem decE_some {o : Option (Int × Nat)} {r : Int} {s : Nat} {t : Int} (h : o = some (r, s)) (ht : t = (s : Int)) : Ending.returned (.tuple #[.int .i64 r, .int .i64 t, .bool true]) = decE o := by rw [h, ht]; rfl

theorem dec_small (b off : Nat) (zs : List Int) (cap i : Nat) (w : World) (_hm : zs.length ≤ 1048576) (hi : i < zs.length) (hb : Byt zs)
    (hc : ∀ i, i < zs.length → w.cell? ⟨b, off + i, none⟩ = some (.int .u8 (gat zs i))) (hr : gat zs i < 194 ∨ 244 < gat zs i) :
    Calls Trym.prog 24 #[.slice (some ⟨b, off, none⟩) zs.length cap, .int .i64 i] w fun e w' => e = decE (decR zs i) ∧ w' = w := by
  have hci := hc i hi
  have hbi := hb i
  clear hc hb
  by_cases h : gat zs i < 128
  · have HD : Hid (decR zs i = some (gat zs i, 1)) := by unfold decR Hid; rw [if_pos h]
    go_enter Trym.func24, Trym.ntmps24
    go_wp2
    go_ret3
    exact ⟨decE_some HD.out rfl, rfl⟩
  · have HD : Hid (decR zs i = none) := by unfold decR Hid; rw [if_neg h, if_neg (by omega), if_neg (by omega), if_neg (by omega)]
    rcases hr with hr | hr
    · go_enter Trym.func24, Trym.ntmps24
      go_wp2
      go_ret3
      exact ⟨decE_none HD.out, rfl⟩
    · go_enter Trym.func24, Trym.ntmps24
      go_wp2
      go_ret3
      exact ⟨decE_none HD.out, rfl⟩

set_option maxRecDepth 100000 in
set_option maxHeartbeats 1000000 in
theorem dec_2 (b off : Nat) (zs : List Int) (cap i : Nat) (w : World) (hm : zs.length ≤ 1048576) (hi : i < zs.length) (hb : Byt zs)
    (hc : ∀ i, i < zs.length → w.cell? ⟨b, off + i, none⟩ = some (.int .u8 (gat zs i))) (g1 : 194 ≤ gat zs i) (g2 : gat zs i ≤ 223) :
    Calls Trym.prog 24 #[.slice (some ⟨b, off, none⟩) zs.length cap, .int .i64 i] w fun e w' => e = decE (decR zs i) ∧ w' = w := by
  have hdec : decR zs i = decN zs i 2 (gat zs i % 32) 128 := by
    unfold decR
    rw [if_neg (by omega), if_pos ⟨g1, g2⟩]
  rw [hdec]
  clear hdec
  have hci := hc i hi
  have hbi := hb i
  have HB : Hid (Byt zs) := hb
  have HC : Hid (∀ i, i < zs.length → w.cell? ⟨b, off + i, none⟩ = some (.int .u8 (gat zs i))) := hc
  clear hb hc
  by_cases hf : zs.length < i + 2
  · have HD : Hid (decN zs i 2 (gat zs i % 32) 128 = none) := decN_cut hf
    go_enter Trym.func24, Trym.ntmps24
    go_wp2
    go_ret3
    exact ⟨decE_none HD.out, rfl⟩
  · have hf' : i + 2 ≤ zs.length := by omega
    have hr0 : 0 ≤ gat zs i % 32 ∧ gat zs i % 32 ≤ 31 := by omega
    go_enter Trym.func24, Trym.ntmps24
    go_wp2
    go_loop [9, 11, 12] (fun r k c => ∃ m : Nat, ∃ rr : Int, m + 1 ≤ 2 ∧ k = .int .i64 ((m : Int) + 1) ∧ r = .int .i64 rr ∧ contR zs i (gat zs i % 32) m = some rr) (fun _ k _ => 2 - (intOf k).toNat)
    case atStart => exact ⟨0, _, by omega, rfl, rfl, rfl⟩
    case round =>
      obtain ⟨m, rr, hm1, rfl, rfl, hcont⟩ := hrel
      have hrr := contR_small hr0.1 hr0.2 (by omega) hcont
      have HK : Hid (contR zs i (gat zs i % 32) m = some rr) := hcont
      clear hcont
      by_cases hlt : m + 1 < 2
      · have hcm := HC.out (i + (m + 1)) (by omega)
        have hbm := HB.out (i + (m + 1))
        by_cases hcc : 128 ≤ gat zs (i + (m + 1)) ∧ gat zs (i + (m + 1)) ≤ 191
        · have HN : Hid (contR zs i (gat zs i % 32) (m + 1) = some (rr * 64 + (gat zs (i + (m + 1)) - 128))) := contR_yes HK.out hcc.1 hcc.2
          have ha : (bits .and .u8 (gat zs (i + (m + 1))) 192 != 128) = false := by rw [and192 _ hbm.1 hbm.2]; simp [hcc]
          have ho : bits .or .i64 (rr * 64) (gat zs (i + (m + 1)) % 64) = rr * 64 + (gat zs (i + (m + 1)) - 128) := by rw [or_i64 _ _ hrr.1 (by omega) (by omega) (by omega)]; omega
          go_wp2
          go_round
          case rel => exact ⟨m + 1, _, by omega, by go_num, rfl, HN.out⟩
          case measure => simp [intOf]; omega
        · have HD : Hid (decN zs i 2 (gat zs i % 32) 128 = none) := decN_no hf' hlt hcc
          have ha : (bits .and .u8 (gat zs (i + (m + 1))) 192 != 128) = true := by rw [and192 _ hbm.1 hbm.2]; simp; omega
          clear hcc
          go_wp2
          go_ret3
          exact ⟨decE_none HD.out, rfl⟩
      · obtain rfl : m = 2 - 1 := by omega
        have hbad := decN_bad (low := 128) hf' HK.out
        have hgood := decN_good (low := 128) hf' HK.out
        have HBAD : Hid ((rr < 128 ∨ 1114111 < rr ∨ (55296 ≤ rr ∧ rr ≤ 57343)) → decN zs i 2 (gat zs i % 32) 128 = none) := hbad
        have HGOOD : Hid (¬ (rr < 128 ∨ 1114111 < rr ∨ (55296 ≤ rr ∧ rr ≤ 57343)) → decN zs i 2 (gat zs i % 32) 128 = some (rr, 2)) := hgood
        clear hbad hgood HK HB HC hci
        by_cases t1 : rr < 128
        · go_wp2
          go_ret3
          exact ⟨decE_none (HBAD.out (by omega)), rfl⟩
        · by_cases t2 : 1114111 < rr
          · go_wp2
            go_ret3
            exact ⟨decE_none (HBAD.out (by omega)), rfl⟩
          · by_cases t3 : 55296 ≤ rr
            · by_cases t4 : rr ≤ 57343
              · go_wp2
                go_ret3
                exact ⟨decE_none (HBAD.out (by omega)), rfl⟩
              · go_wp2
                go_ret3
                exact ⟨decE_some (HGOOD.out (by omega)) rfl, rfl⟩
            · go_wp2
              go_ret3
              exact ⟨decE_some (HGOOD.out (by omega)) rfl, rfl⟩

set_option maxRecDepth 100000 in
set_option maxHeartbeats 1000000 in
theorem dec_3 (b off : Nat) (zs : List Int) (cap i : Nat) (w : World) (hm : zs.length ≤ 1048576) (hi : i < zs.length) (hb : Byt zs)
    (hc : ∀ i, i < zs.length → w.cell? ⟨b, off + i, none⟩ = some (.int .u8 (gat zs i))) (g1 : 224 ≤ gat zs i) (g2 : gat zs i ≤ 239) :
    Calls Trym.prog 24 #[.slice (some ⟨b, off, none⟩) zs.length cap, .int .i64 i] w fun e w' => e = decE (decR zs i) ∧ w' = w := by
  have hdec : decR zs i = decN zs i 3 (gat zs i % 16) 2048 := by
    unfold decR
    rw [if_neg (by omega), if_neg (by omega), if_pos ⟨g1, g2⟩]
  rw [hdec]
  clear hdec
  have hci := hc i hi
  have hbi := hb i
  have HB : Hid (Byt zs) := hb
  have HC : Hid (∀ i, i < zs.length → w.cell? ⟨b, off + i, none⟩ = some (.int .u8 (gat zs i))) := hc
  clear hb hc
  by_cases hf : zs.length < i + 3
  · have HD : Hid (decN zs i 3 (gat zs i % 16) 2048 = none) := decN_cut hf
    go_enter Trym.func24, Trym.ntmps24
    go_wp2
    go_ret3
    exact ⟨decE_none HD.out, rfl⟩
  · have hf' : i + 3 ≤ zs.length := by omega
    have hr0 : 0 ≤ gat zs i % 16 ∧ gat zs i % 16 ≤ 31 := by omega
    go_enter Trym.func24, Trym.ntmps24
    go_wp2
    go_loop [9, 11, 12] (fun r k c => ∃ m : Nat, ∃ rr : Int, m + 1 ≤ 3 ∧ k = .int .i64 ((m : Int) + 1) ∧ r = .int .i64 rr ∧ contR zs i (gat zs i % 16) m = some rr) (fun _ k _ => 3 - (intOf k).toNat)
    case atStart => exact ⟨0, _, by omega, rfl, rfl, rfl⟩
    case round =>
      obtain ⟨m, rr, hm1, rfl, rfl, hcont⟩ := hrel
      have hrr := contR_small hr0.1 hr0.2 (by omega) hcont
      have HK : Hid (contR zs i (gat zs i % 16) m = some rr) := hcont
      clear hcont
      by_cases hlt : m + 1 < 3
      · have hcm := HC.out (i + (m + 1)) (by omega)
        have hbm := HB.out (i + (m + 1))
        by_cases hcc : 128 ≤ gat zs (i + (m + 1)) ∧ gat zs (i + (m + 1)) ≤ 191
        · have HN : Hid (contR zs i (gat zs i % 16) (m + 1) = some (rr * 64 + (gat zs (i + (m + 1)) - 128))) := contR_yes HK.out hcc.1 hcc.2
          have ha : (bits .and .u8 (gat zs (i + (m + 1))) 192 != 128) = false := by rw [and192 _ hbm.1 hbm.2]; simp [hcc]
          have ho : bits .or .i64 (rr * 64) (gat zs (i + (m + 1)) % 64) = rr * 64 + (gat zs (i + (m + 1)) - 128) := by rw [or_i64 _ _ hrr.1 (by omega) (by omega) (by omega)]; omega
          go_wp2
          go_round
          case rel => exact ⟨m + 1, _, by omega, by go_num, rfl, HN.out⟩
          case measure => simp [intOf]; omega
        · have HD : Hid (decN zs i 3 (gat zs i % 16) 2048 = none) := decN_no hf' hlt hcc
          have ha : (bits .and .u8 (gat zs (i + (m + 1))) 192 != 128) = true := by rw [and192 _ hbm.1 hbm.2]; simp; omega
          clear hcc
          go_wp2
          go_ret3
          exact ⟨decE_none HD.out, rfl⟩
      · obtain rfl : m = 3 - 1 := by omega
        have hbad := decN_bad (low := 2048) hf' HK.out
        have hgood := decN_good (low := 2048) hf' HK.out
        have HBAD : Hid ((rr < 2048 ∨ 1114111 < rr ∨ (55296 ≤ rr ∧ rr ≤ 57343)) → decN zs i 3 (gat zs i % 16) 2048 = none) := hbad
        have HGOOD : Hid (¬ (rr < 2048 ∨ 1114111 < rr ∨ (55296 ≤ rr ∧ rr ≤ 57343)) → decN zs i 3 (gat zs i % 16) 2048 = some (rr, 3)) := hgood
        clear hbad hgood HK HB HC hci
        by_cases t1 : rr < 2048
        · go_wp2
          go_ret3
          exact ⟨decE_none (HBAD.out (by omega)), rfl⟩
        · by_cases t2 : 1114111 < rr
          · go_wp2
            go_ret3
            exact ⟨decE_none (HBAD.out (by omega)), rfl⟩
          · by_cases t3 : 55296 ≤ rr
            · by_cases t4 : rr ≤ 57343
              · go_wp2
                go_ret3
                exact ⟨decE_none (HBAD.out (by omega)), rfl⟩
              · go_wp2
                go_ret3
                exact ⟨decE_some (HGOOD.out (by omega)) rfl, rfl⟩
            · go_wp2
              go_ret3
              exact ⟨decE_some (HGOOD.out (by omega)) rfl, rfl⟩

set_option maxRecDepth 100000 in
set_option maxHeartbeats 1000000 in
theorem dec_4 (b off : Nat) (zs : List Int) (cap i : Nat) (w : World) (hm : zs.length ≤ 1048576) (hi : i < zs.length) (hb : Byt zs)
    (hc : ∀ i, i < zs.length → w.cell? ⟨b, off + i, none⟩ = some (.int .u8 (gat zs i))) (g1 : 240 ≤ gat zs i) (g2 : gat zs i ≤ 244) :
    Calls Trym.prog 24 #[.slice (some ⟨b, off, none⟩) zs.length cap, .int .i64 i] w fun e w' => e = decE (decR zs i) ∧ w' = w := by
  have hdec : decR zs i = decN zs i 4 (gat zs i % 8) 65536 := by
    unfold decR
    rw [if_neg (by omega), if_neg (by omega), if_neg (by omega), if_pos ⟨g1, g2⟩]
  rw [hdec]
  clear hdec
  have hci := hc i hi
  have hbi := hb i
  have HB : Hid (Byt zs) := hb
  have HC : Hid (∀ i, i < zs.length → w.cell? ⟨b, off + i, none⟩ = some (.int .u8 (gat zs i))) := hc
  clear hb hc
  by_cases hf : zs.length < i + 4
  · have HD : Hid (decN zs i 4 (gat zs i % 8) 65536 = none) := decN_cut hf
    go_enter Trym.func24, Trym.ntmps24
    go_wp2
    go_ret3
    exact ⟨decE_none HD.out, rfl⟩
  · have hf' : i + 4 ≤ zs.length := by omega
    have hr0 : 0 ≤ gat zs i % 8 ∧ gat zs i % 8 ≤ 31 := by omega
    go_enter Trym.func24, Trym.ntmps24
    go_wp2
    go_loop [9, 11, 12] (fun r k c => ∃ m : Nat, ∃ rr : Int, m + 1 ≤ 4 ∧ k = .int .i64 ((m : Int) + 1) ∧ r = .int .i64 rr ∧ contR zs i (gat zs i % 8) m = some rr) (fun _ k _ => 4 - (intOf k).toNat)
    case atStart => exact ⟨0, _, by omega, rfl, rfl, rfl⟩
    case round =>
      obtain ⟨m, rr, hm1, rfl, rfl, hcont⟩ := hrel
      have hrr := contR_small hr0.1 hr0.2 (by omega) hcont
      have HK : Hid (contR zs i (gat zs i % 8) m = some rr) := hcont
      clear hcont
      by_cases hlt : m + 1 < 4
      · have hcm := HC.out (i + (m + 1)) (by omega)
        have hbm := HB.out (i + (m + 1))
        by_cases hcc : 128 ≤ gat zs (i + (m + 1)) ∧ gat zs (i + (m + 1)) ≤ 191
        · have HN : Hid (contR zs i (gat zs i % 8) (m + 1) = some (rr * 64 + (gat zs (i + (m + 1)) - 128))) := contR_yes HK.out hcc.1 hcc.2
          have ha : (bits .and .u8 (gat zs (i + (m + 1))) 192 != 128) = false := by rw [and192 _ hbm.1 hbm.2]; simp [hcc]
          have ho : bits .or .i64 (rr * 64) (gat zs (i + (m + 1)) % 64) = rr * 64 + (gat zs (i + (m + 1)) - 128) := by rw [or_i64 _ _ hrr.1 (by omega) (by omega) (by omega)]; omega
          go_wp2
          go_round
          case rel => exact ⟨m + 1, _, by omega, by go_num, rfl, HN.out⟩
          case measure => simp [intOf]; omega
        · have HD : Hid (decN zs i 4 (gat zs i % 8) 65536 = none) := decN_no hf' hlt hcc
          have ha : (bits .and .u8 (gat zs (i + (m + 1))) 192 != 128) = true := by rw [and192 _ hbm.1 hbm.2]; simp; omega
          clear hcc
          go_wp2
          go_ret3
          exact ⟨decE_none HD.out, rfl⟩
      · obtain rfl : m = 4 - 1 := by omega
        have hbad := decN_bad (low := 65536) hf' HK.out
        have hgood := decN_good (low := 65536) hf' HK.out
        have HBAD : Hid ((rr < 65536 ∨ 1114111 < rr ∨ (55296 ≤ rr ∧ rr ≤ 57343)) → decN zs i 4 (gat zs i % 8) 65536 = none) := hbad
        have HGOOD : Hid (¬ (rr < 65536 ∨ 1114111 < rr ∨ (55296 ≤ rr ∧ rr ≤ 57343)) → decN zs i 4 (gat zs i % 8) 65536 = some (rr, 4)) := hgood
        clear hbad hgood HK HB HC hci
        by_cases t1 : rr < 65536
        · go_wp2
          go_ret3
          exact ⟨decE_none (HBAD.out (by omega)), rfl⟩
        · by_cases t2 : 1114111 < rr
          · go_wp2
            go_ret3
            exact ⟨decE_none (HBAD.out (by omega)), rfl⟩
          · by_cases t3 : 55296 ≤ rr
            · by_cases t4 : rr ≤ 57343
              · go_wp2
                go_ret3
                exact ⟨decE_none (HBAD.out (by omega)), rfl⟩
              · go_wp2
                go_ret3
                exact ⟨decE_some (HGOOD.out (by omega)) rfl, rfl⟩
            · go_wp2
              go_ret3
              exact ⟨decE_some (HGOOD.out (by omega)) rfl, rfl⟩

/-- decodeUTF8_b1 -/
theorem dec_any (b off : Nat) (zs : List Int) (cap i : Nat) (w : World) (hm : zs.length ≤ 1048576) (hi : i < zs.length) (hb : Byt zs)
    (hc : ∀ i, i < zs.length → w.cell? ⟨b, off + i, none⟩ = some (.int .u8 (gat zs i))) :
    Calls Trym.prog 24 #[.slice (some ⟨b, off, none⟩) zs.length cap, .int .i64 i] w fun e w' => e = decE (decR zs i) ∧ w' = w := by
  by_cases h0 : gat zs i < 194 ∨ 244 < gat zs i
  · exact dec_small b off zs cap i w hm hi hb hc h0
  · by_cases h1 : gat zs i ≤ 223
    · exact dec_2 b off zs cap i w hm hi hb hc (by omega) h1
    · by_cases h2 : gat zs i ≤ 239
      · exact dec_3 b off zs cap i w hm hi hb hc (by omega) h2
      · exact dec_4 b off zs cap i w hm hi hb hc (by omega) (by omega)

end Go.Proofs.Qxb6602935aMods
