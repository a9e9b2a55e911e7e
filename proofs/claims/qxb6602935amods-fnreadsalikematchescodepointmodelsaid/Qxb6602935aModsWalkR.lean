import Derived.Test.Qxb6602935aModsWalkD
namespace Go.Proofs.Qxb6602935aMods
open Go.RowKit

/-- What holds at every head of readsAlike's loop: the bytes up to the next item j are continuation bytes; from j on the text is of the domain. -/
def Head (zs : List Int) (k j f : Nat) : Prop :=
  k ≤ j ∧ j ≤ zs.length ∧ (∀ t, k ≤ t → t < j → 128 ≤ gat zs t ∧ gat zs t ≤ 191) ∧ zs.length - j ≤ f ∧ domF zs f j = true ∧ modF zs f j = modF zs zs.length 0

theorem head_next {zs : List Int} {k j f : Nat} (h : Head zs k j f) (hk : k < j) : Head zs (k + 1) j f :=
  ⟨by omega, h.2.1, fun t h1 h2 => h.2.2.1 t (by omega) h2, h.2.2.2⟩
theorem head_item {zs : List Int} {i j f : Nat} (hj : j ≤ zs.length) (hij : i < j) (hf : zs.length - i ≤ f) (hd : domF zs (f - 1) j = true) (hm : modF zs (f - 1) j = modF zs zs.length 0)
    {k : Nat} (hk : k ≤ j) (hc : ∀ t, k ≤ t → t < j → 128 ≤ gat zs t ∧ gat zs t ≤ 191) : Head zs k j (f - 1) :=
  ⟨hk, hj, hc, by omega, hd, hm⟩

theorem hex_or {c F : Int} (hx : 0 ≤ hexv c) (eF : F = if (c / 32) % 2 = 1 then c else c + 32) :
    (48 ≤ c ∧ c ≤ 57 ∧ hexv c = c - 48 ∧ F = c) ∨ (97 ≤ c ∧ c ≤ 102 ∧ hexv c = c - 87 ∧ F = c) ∨ (65 ≤ c ∧ c ≤ 70 ∧ hexv c = c - 55 ∧ F = c + 32) := by
  by_cases h1 : 48 ≤ c ∧ c ≤ 57
  · have e : F = c := by rw [eF]; exact if_pos (by omega)
    exact .inl ⟨h1.1, h1.2, by unfold hexv; rw [if_pos h1], e⟩
  · by_cases h2 : 97 ≤ c ∧ c ≤ 102
    · have e : F = c := by rw [eF]; exact if_pos (by omega)
      exact .inr (.inl ⟨h2.1, h2.2, by unfold hexv; rw [if_neg h1, if_pos h2], e⟩)
    · by_cases h3 : 65 ≤ c ∧ c ≤ 70
      · have e : F = c + 32 := by rw [eF]; exact if_neg (by omega)
        exact .inr (.inr ⟨h3.1, h3.2, by unfold hexv; rw [if_neg h1, if_neg h2, if_pos h3], e⟩)
      · unfold hexv at hx; rw [if_neg h1, if_neg h2, if_neg h3] at hx; omega

/-- The surrogates, by the first two hex digits, as readsAlike asks it. -/
theorem sur_first {zs : List Int} {i : Nat} (hx : hex4 zs i = true) (hb : Byt zs) :
    let F := bits .or .u8 (gat zs (i + 2)) 32
    let S := bits .or .u8 (gat zs (i + 3)) 32
    (55296 ≤ uval zs i ∧ uval zs i ≤ 57343 → (F == 100) = true ∧ ((56 ≤ S ∧ S ≤ 57) ∨ (57 < S ∧ 97 ≤ S ∧ S ≤ 102))) ∧
    (¬ (55296 ≤ uval zs i ∧ uval zs i ≤ 57343) → (F == 100) = false ∨ ((F == 100) = true ∧ S < 56)) := by
  intro F S
  obtain ⟨x2, x3, x4, x5⟩ := hex4_out hx
  have b2 := hb (i + 2)
  have b3 := hb (i + 3)
  have y4 := hexv_bounds (gat zs (i + 4))
  have y5 := hexv_bounds (gat zs (i + 5))
  have eF : F = if (gat zs (i + 2) / 32) % 2 = 1 then gat zs (i + 2) else gat zs (i + 2) + 32 := or32 _ b2.1 b2.2
  have eS : S = if (gat zs (i + 3) / 32) % 2 = 1 then gat zs (i + 3) else gat zs (i + 3) + 32 := or32 _ b3.1 b3.2
  clear_value F S
  unfold uval
  generalize hexv (gat zs (i + 4)) = p4 at *
  generalize hexv (gat zs (i + 5)) = p5 at *
  generalize gat zs (i + 2) = c2 at *
  generalize gat zs (i + 3) = c3 at *
  have h2 := hex_or x2 eF
  have h3 := hex_or x3 eS
  clear eF eS
  generalize hexv c2 = p2 at *
  generalize hexv c3 = p3 at *
  rw [beq_iff_eq, beq_eq_false_iff_ne]
  constructor
  · intro h; omega
  · intro h; omega

set_option maxRecDepth 100000 in
set_option maxHeartbeats 4000000 in
/-- readsAlike, of a text of the domain -/
theorem alike_any (b off : Nat) (zs : List Int) (cap : Nat) (w : World) (hm : zs.length ≤ 1048576) (hb : Byt zs)
    (hc : ∀ i, i < zs.length → w.cell? ⟨b, off + i, none⟩ = some (.int .u8 (gat zs i))) (hdom : domF zs zs.length 0 = true) :
    Calls Trym.prog 25 #[.slice (some ⟨b, off, none⟩) zs.length cap] w fun e w' => e = .returned (.bool (modF zs zs.length 0)) ∧ ∃ q, w' = w.drewN q := by
  have HB : Hid (Byt zs) := hb
  have HC : Hid (∀ i, i < zs.length → w.cell? ⟨b, off + i, none⟩ = some (.int .u8 (gat zs i))) := hc
  have HDOM : Hid (domF zs zs.length 0 = true) := hdom
  clear hb hc hdom
  go_enter Trym.func25, Trym.ntmps25
  go_wp2
  go_loopw [3] (fun t wr => ∃ k j f q : Nat, k ≤ zs.length ∧ t = .int .i64 k ∧ wr = w.drewN q ∧ Hid (Head zs k j f)) (fun t _ => zs.length - (intOf t).toNat)
  case atStart => exact ⟨0, 0, zs.length, 0, Nat.zero_le _, rfl, rfl, Nat.le_refl _, Nat.zero_le _, fun t h1 h2 => absurd h2 (by omega), Nat.sub_le _ _, HDOM.out, rfl⟩
  case round =>
    obtain ⟨k, j, f, q, hi, rfl, rfl, HF⟩ := hrel
    clear HDOM
    by_cases hlt : k < zs.length
    · have hck := HC.out k hlt
      have hbk := HB.out k
      by_cases hkj : k < j
      · have hcont := HF.out.2.2.1 k (Nat.le_refl _) hkj
        have HN : Hid (Head zs (k + 1) j f) := head_next HF.out hkj
        have e1 : (gat zs k == 127) = false := beq_eq_false_iff_ne.2 (by omega)
        have e2 : (gat zs k == 194) = false := beq_eq_false_iff_ne.2 (by omega)
        have e3 : (gat zs k == 226) = false := beq_eq_false_iff_ne.2 (by omega)
        have e4 : (gat zs k == 239) = false := beq_eq_false_iff_ne.2 (by omega)
        have e5 : (gat zs k == 92) = false := beq_eq_false_iff_ne.2 (by omega)
        clear HF
        go_wp2
        go_roundw
        case rel => exact ⟨k + 1, j, f, _, by omega, by go_num, rfl, HN⟩
        case measure => simp [intOf]; omega
      · obtain rfl : k = j := by have := HF.out.1; omega
        obtain ⟨_, _, _, hf, hdk, hmk⟩ := HF.out
        clear HF
        obtain ⟨j, hj, hdj⟩ := dom_inv hlt hf hdk
        rcases stepD_inv hj with ⟨h92, hl2, hesc, rfl⟩ | ⟨h92, h117, hl6, hx4, rfl⟩ | ⟨h92, r, s, hd, rfl⟩
        · have hce := HC.out (k + 1) (by omega)
          have hbe := HB.out (k + 1)
          by_cases h47 : gat zs (k + 1) = 47
          · have HR : Hid (false = modF zs zs.length 0) := by unfold Hid; rw [← hmk, mod_slash hlt hf h92 h47]
            rw [h92] at hck
            rw [h47] at hce
            clear hj hdj h92 hesc h47 hdk hmk hf hbk hbe
            go_wp2
            go_ret
            exact ⟨ret_bool3 HR.out, _, rfl⟩
          · have hne : ¬ gat zs (k + 1) = 117 := by intro h; rw [h] at hesc; exact absurd hesc (by decide)
            have HN : Hid (Head zs (k + 2) (k + 2) (f - 1)) := head_item (by omega) (by omega) hf hdj (by rw [← hmk, mod_e hlt hf h92 h47 hne]) (Nat.le_refl _) (fun t h1 h2 => absurd h2 (by omega))
            have e1 : (gat zs (k + 1) == 47) = false := by simp [h47]
            have e2 : (gat zs (k + 1) == 117) = false := by simp [hne]
            rw [h92] at hck
            clear hj hdj h92 hesc h47 hne hdk hmk hf hbk
            go_wp2
            go_roundw
            case rel => exact ⟨k + 2, k + 2, f - 1, _, by omega, by go_num, rfl, HN⟩
            case measure => simp [intOf]; omega
        · have hce := HC.out (k + 1) (by omega)
          have hc2 := HC.out (k + 2) (by omega)
          have hc3 := HC.out (k + 3) (by omega)
          obtain ⟨hb2a, hb2b⟩ := HB.out (k + 2)
          obtain ⟨hb3a, hb3b⟩ := HB.out (k + 3)
          have hsur := sur_first hx4 HB.out
          have hl2' : (k : Int) + 1 + 1 < (zs.length : Int) := by omega
          have hl3' : (k : Int) + 1 + 2 < (zs.length : Int) := by omega
          by_cases hs : 55296 ≤ uval zs k ∧ uval zs k ≤ 57343
          · have HR : Hid (false = modF zs zs.length 0) := by unfold Hid; rw [← hmk, mod_sur hlt hf h92 h117 hs]
            obtain ⟨hF, hS⟩ := hsur.1 hs
            rw [h92] at hck
            rw [h117] at hce
            clear hj hdj h92 h117 hdk hmk hf hbk hsur hs hx4
            rcases hS with ⟨hS1, hS2⟩ | ⟨hS0, hS1, hS2⟩
            · go_wp2
              go_quiet (fail)
              go_wp2
              go_ret
              exact ⟨ret_bool3 HR.out, _, by first | rfl | exact World.drewN_drewN _ _ _⟩
            · go_wp2
              go_quiet (fail)
              go_wp2
              go_ret
              exact ⟨ret_bool3 HR.out, _, by first | rfl | exact World.drewN_drewN _ _ _⟩
          · have HN : Hid (Head zs (k + 6) (k + 6) (f - 1)) := head_item (by omega) (by omega) hf hdj (by rw [← hmk, mod_u hlt hf h92 h117 hs]) (Nat.le_refl _) (fun t h1 h2 => absurd h2 (by omega))
            have hFS := hsur.2 hs
            rw [h92] at hck
            rw [h117] at hce
            clear hj hdj h92 h117 hdk hmk hf hbk hsur hs hx4
            rcases hFS with hF | ⟨hF, hS1⟩
            all_goals
              go_wp2
              go_quiet (fail)
              go_wp2
              go_roundw
              case rel => exact ⟨k + 6, k + 6, f - 1, _, by omega, by go_num, by first | rfl | exact World.drewN_drewN _ _ _, HN⟩
              case measure => simp [intOf]; omega
        · have e92 : (gat zs k == 92) = false := by simp [h92]
          have hsz := decR_size hlt hbk.1 hd
          have HRT : Hid (refu r = true → false = modF zs zs.length 0) := fun hr => by rw [← hmk, mod_refu hlt hf h92 hd hr]
          have HRF : Hid (refu r = false → (∀ t, k + 1 ≤ t → t < k + s → 128 ≤ gat zs t ∧ gat zs t ≤ 191) → Head zs (k + 1) (k + s) (f - 1)) := fun hr ht =>
            head_item (by omega) (by omega) hf hdj (by rw [← hmk, mod_c hlt hf h92 hd hr]) (by omega) ht
          have hcs := decR_cases hlt hbk.1 hd
          clear hj hdj h92 hdk hmk hf hd
          rcases hcs with ⟨g1, rfl, rfl⟩ | ⟨g1, g2, rfl, hl, c1, c2, hr⟩ | ⟨g1, g2, rfl, hl, c1, c2, c3, c4, hr, hr2⟩ | ⟨g1, g2, rfl, hl, c1, c2, c3, c4, c5, c6, hr⟩
          · by_cases h127 : gat zs k = 127
            · have HR : Hid (false = modF zs zs.length 0) := HRT.out (by rw [h127]; decide)
              have e1 : (gat zs k == 127) = true := by simp [h127]
              clear h127 HRT HRF
              go_wp2
              go_ret
              exact ⟨ret_bool3 HR.out, _, rfl⟩
            · have HN : Hid (Head zs (k + 1) (k + 1) (f - 1)) := HRF.out (by unfold refu; rw [decide_eq_false_iff_not]; omega) (fun t h1 h2 => absurd h2 (by omega))
              have e1 : (gat zs k == 127) = false := by simp [h127]
              have e2 : (gat zs k == 194) = false := beq_eq_false_iff_ne.2 (by omega)
              have e3 : (gat zs k == 226) = false := beq_eq_false_iff_ne.2 (by omega)
              have e4 : (gat zs k == 239) = false := beq_eq_false_iff_ne.2 (by omega)
              clear h127 HRT HRF
              go_wp2
              go_roundw
              case rel => exact ⟨k + 1, k + 1, f - 1, _, by omega, by go_num, rfl, HN⟩
              case measure => simp [intOf]; omega
          · have hcn := HC.out (k + 1) (by omega)
            have e1 : (gat zs k == 127) = false := beq_eq_false_iff_ne.2 (by omega)
            have HCT : Hid (∀ t, k + 1 ≤ t → t < k + 2 → 128 ≤ gat zs t ∧ gat zs t ≤ 191) := fun t h1 h2 => by
              obtain rfl : t = k + 1 := by omega
              exact ⟨c1, c2⟩
            by_cases h194 : gat zs k = 194
            · have e2 : (gat zs k == 194) = true := by simp [h194]
              by_cases hlow : gat zs (k + 1) < 160
              · have HR : Hid (false = modF zs zs.length 0) := HRT.out (by unfold refu; rw [decide_eq_true_iff]; omega)
                clear h194 HRT HRF hr
                go_wp2
                go_ret
                exact ⟨ret_bool3 HR.out, _, rfl⟩
              · have HN : Hid (Head zs (k + 1) (k + 2) (f - 1)) := HRF.out (by unfold refu; rw [decide_eq_false_iff_not]; omega) HCT.out
                clear h194 HRT HRF hr
                go_wp2
                go_roundw
                case rel => exact ⟨k + 1, k + 2, f - 1, _, by omega, by go_num, rfl, HN⟩
                case measure => simp [intOf]; omega
            · have e2 : (gat zs k == 194) = false := by simp [h194]
              have e3 : (gat zs k == 226) = false := beq_eq_false_iff_ne.2 (by omega)
              have e4 : (gat zs k == 239) = false := beq_eq_false_iff_ne.2 (by omega)
              have HN : Hid (Head zs (k + 1) (k + 2) (f - 1)) := HRF.out (by unfold refu; rw [decide_eq_false_iff_not]; omega) HCT.out
              clear h194 HRT HRF hr
              go_wp2
              go_roundw
              case rel => exact ⟨k + 1, k + 2, f - 1, _, by omega, by go_num, rfl, HN⟩
              case measure => simp [intOf]; omega
          · have hcn := HC.out (k + 1) (by omega)
            have hcm := HC.out (k + 2) (by omega)
            have e1 : (gat zs k == 127) = false := beq_eq_false_iff_ne.2 (by omega)
            have e2 : (gat zs k == 194) = false := beq_eq_false_iff_ne.2 (by omega)
            have HCT : Hid (∀ t, k + 1 ≤ t → t < k + 3 → 128 ≤ gat zs t ∧ gat zs t ≤ 191) := fun t h1 h2 => by
              have ht : t = k + 1 ∨ t = k + 2 := by omega
              rcases ht with rfl | rfl
              · exact ⟨c1, c2⟩
              · exact ⟨c3, c4⟩
            by_cases h226 : gat zs k = 226
            · have e3 : (gat zs k == 226) = true := by simp [h226]
              by_cases hlow : gat zs (k + 1) = 128
              · have e5 : (gat zs (k + 1) == 128) = true := by simp [hlow]
                by_cases h168 : gat zs (k + 2) = 168
                · have e6 : (gat zs (k + 2) == 168) = true := by simp [h168]
                  have HR : Hid (false = modF zs zs.length 0) := HRT.out (by unfold refu; rw [decide_eq_true_iff]; omega)
                  clear h226 hlow h168 HRT HRF hr
                  go_wp2
                  go_ret
                  exact ⟨ret_bool3 HR.out, _, rfl⟩
                · have e6 : (gat zs (k + 2) == 168) = false := by simp [h168]
                  by_cases h169 : gat zs (k + 2) = 169
                  · have e7 : (gat zs (k + 2) == 169) = true := by simp [h169]
                    have HR : Hid (false = modF zs zs.length 0) := HRT.out (by unfold refu; rw [decide_eq_true_iff]; omega)
                    clear h226 hlow h168 h169 HRT HRF hr
                    go_wp2
                    go_ret
                    exact ⟨ret_bool3 HR.out, _, rfl⟩
                  · have e7 : (gat zs (k + 2) == 169) = false := by simp [h169]
                    have HN : Hid (Head zs (k + 1) (k + 3) (f - 1)) := HRF.out (by unfold refu; rw [decide_eq_false_iff_not]; omega) HCT.out
                    clear h226 hlow h168 h169 HRT HRF hr
                    go_wp2
                    go_roundw
                    case rel => exact ⟨k + 1, k + 3, f - 1, _, by omega, by go_num, rfl, HN⟩
                    case measure => simp [intOf]; omega
              · have e5 : (gat zs (k + 1) == 128) = false := by simp [hlow]
                have HN : Hid (Head zs (k + 1) (k + 3) (f - 1)) := HRF.out (by unfold refu; rw [decide_eq_false_iff_not]; omega) HCT.out
                clear h226 hlow HRT HRF hr
                go_wp2
                go_roundw
                case rel => exact ⟨k + 1, k + 3, f - 1, _, by omega, by go_num, rfl, HN⟩
                case measure => simp [intOf]; omega
            · have e3 : (gat zs k == 226) = false := by simp [h226]
              by_cases h239 : gat zs k = 239
              · have e4 : (gat zs k == 239) = true := by simp [h239]
                by_cases hlow : gat zs (k + 1) = 191
                · have e5 : (gat zs (k + 1) == 191) = true := by simp [hlow]
                  by_cases h190 : 190 ≤ gat zs (k + 2)
                  · have HR : Hid (false = modF zs zs.length 0) := HRT.out (by unfold refu; rw [decide_eq_true_iff]; omega)
                    clear h226 h239 hlow HRT HRF hr
                    go_wp2
                    go_ret
                    exact ⟨ret_bool3 HR.out, _, rfl⟩
                  · have HN : Hid (Head zs (k + 1) (k + 3) (f - 1)) := HRF.out (by unfold refu; rw [decide_eq_false_iff_not]; omega) HCT.out
                    clear h226 h239 hlow HRT HRF hr
                    go_wp2
                    go_roundw
                    case rel => exact ⟨k + 1, k + 3, f - 1, _, by omega, by go_num, rfl, HN⟩
                    case measure => simp [intOf]; omega
                · have e5 : (gat zs (k + 1) == 191) = false := by simp [hlow]
                  have HN : Hid (Head zs (k + 1) (k + 3) (f - 1)) := HRF.out (by unfold refu; rw [decide_eq_false_iff_not]; omega) HCT.out
                  clear h226 h239 hlow HRT HRF hr
                  go_wp2
                  go_roundw
                  case rel => exact ⟨k + 1, k + 3, f - 1, _, by omega, by go_num, rfl, HN⟩
                  case measure => simp [intOf]; omega
              · have e4 : (gat zs k == 239) = false := by simp [h239]
                have HN : Hid (Head zs (k + 1) (k + 3) (f - 1)) := HRF.out (by unfold refu; rw [decide_eq_false_iff_not]; omega) HCT.out
                clear h226 h239 HRT HRF hr
                go_wp2
                go_roundw
                case rel => exact ⟨k + 1, k + 3, f - 1, _, by omega, by go_num, rfl, HN⟩
                case measure => simp [intOf]; omega
          · have e1 : (gat zs k == 127) = false := beq_eq_false_iff_ne.2 (by omega)
            have e2 : (gat zs k == 194) = false := beq_eq_false_iff_ne.2 (by omega)
            have e3 : (gat zs k == 226) = false := beq_eq_false_iff_ne.2 (by omega)
            have e4 : (gat zs k == 239) = false := beq_eq_false_iff_ne.2 (by omega)
            have HN : Hid (Head zs (k + 1) (k + 4) (f - 1)) := HRF.out (by unfold refu; rw [decide_eq_false_iff_not]; omega) (fun t h1 h2 => by
              have ht : t = k + 1 ∨ t = k + 2 ∨ t = k + 3 := by omega
              rcases ht with rfl | rfl | rfl
              · exact ⟨c1, c2⟩
              · exact ⟨c3, c4⟩
              · exact ⟨c5, c6⟩)
            clear HRT HRF hr
            go_wp2
            go_roundw
            case rel => exact ⟨k + 1, k + 4, f - 1, _, by omega, by go_num, rfl, HN⟩
            case measure => simp [intOf]; omega
    · have HR : Hid (true = modF zs zs.length 0) := by
        unfold Hid
        obtain ⟨h1, h2, _, _, _, h3⟩ := HF.out
        rw [← h3, mod_end (by omega)]
      clear HF
      go_wp2
      go_ret
      exact ⟨ret_bool3 HR.out, _, rfl⟩

end Go.Proofs.Qxb6602935aMods
