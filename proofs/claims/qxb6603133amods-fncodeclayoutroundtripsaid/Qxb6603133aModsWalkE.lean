import Derived.Test.Qxb6603133aModsWalkD
import Derived.WalkSmall
namespace Go.Proofs.Qxb6603133aMods
open Go.RowKit

theorem same_len (a1 a2 : Option Addr) (zs : List Int) (l k1 k2 : Nat) (w : World) (hl : zs.length = l) (hm : l ≤ 1048576) (h1 : Rd .u8 w a1 zs) (h2 : Rd .u8 w a2 zs) :
    Calls Trym.prog 11 #[.slice a1 l k1, .slice a2 l k2] w fun e w' => e = .returned (.bool true) ∧ ∃ q, w' = w.drewN q := by
  subst hl
  exact same_eq a1 a2 zs k1 k2 w hm h1 h2

theorem sv_cell {V : Nat} {s : ByteArray} {w : World} (h : Sv V s w) : w.cell? ⟨V, 0, none⟩ = some (.string s) := by rw [cell_of_row w V 0 _ _ _ h]; rfl

/-- What holds at the heads of the law's second loop. -/
def Pos (zs : List Int) (w2 : World) (pos : Nat) (over : Bool) (wr : World) : Prop :=
  pos ≤ zs.length ∧ Below w2.heap.size w2 wr ∧
  ((over = false ∧ ∃ a cap, Rd .u8 w2 a (zs.drop pos) ∧ zs.length - pos ≤ cap ∧ cap ≤ 1048576 ∧ Cod 1 w2.heap.size a (zs.length - pos) cap false 0 wr) ∨
   (over = true ∧ Cod 1 w2.heap.size none 0 0 true 0 wr))

theorem pos_fit {zs : List Int} {w2 wr w4 : World} {pos K cap q : Nat} {a : Option Addr} (hpos : pos ≤ zs.length) (hra : Rd .u8 w2 a (zs.drop pos)) (hcap : zs.length - pos ≤ cap) (hcapm : cap ≤ 1048576) (hK : K ≤ zs.length - pos)
    (hbel : Below w2.heap.size w2 wr) (hb4 : Below w2.heap.size wr w4) (hcod : Cod 1 w2.heap.size (adv a cap K) (zs.length - pos - K) (cap - K) false 0 w4) : Pos zs w2 (pos + K) false (w4.drewN q) := by
  refine ⟨by omega, below_drewN (hbel.trans hb4) _, .inl ⟨rfl, adv a cap K, cap - K, ?_, by omega, by omega, ?_⟩⟩
  · have h := hra.cut cap K (by simpa using hcap)
    rwa [List.drop_drop] at h
  · rw [show zs.length - (pos + K) = zs.length - pos - K by omega]; exact hcod.drewN _

theorem pos_over {zs : List Int} {w2 wr w4 : World} {pos q : Nat} (hpos : pos ≤ zs.length) (hbel : Below w2.heap.size w2 wr) (hb4 : Below w2.heap.size wr w4) (hcod : Cod 1 w2.heap.size none 0 0 true 0 w4) : Pos zs w2 pos true (w4.drewN q) :=
  ⟨hpos, below_drewN (hbel.trans hb4) _, .inr ⟨rfl, hcod.drewN _⟩⟩

set_option maxRecDepth 100000 in
set_option maxHeartbeats 4000000 in
theorem law_main (a0 a1 : Option Addr) (zs ns : List Int) (cap0 cap1 : Nat) (w : World) (hn0 : a0 = none → zs = [] ∧ cap0 = 0) (hn1 : a1 = none → ns = [] ∧ cap1 = 0)
    (hm : zs.length + 8 * ns.length ≤ 1048576) (hr0 : Rd .u8 w a0 zs) (hr1 : Rd .i64 w a1 ns) (hb : Byt zs) (hi : ∀ i, gat ns i ≤ 9223372036854775807) :
    Calls Trym.prog 4 #[.slice a0 zs.length cap0, .slice a1 ns.length cap1] w fun e w' => e = .returned (.bool true) ∧ Below w.heap.size w w' := by
  have hnil := fun wx a l c => run_neq_slice_nil_any (P := Trym.prog) wx 24 5 a l c 0 0 Trym.underlying24
  have HN0 : Hid (a0 = none → zs = [] ∧ cap0 = 0) := hn0
  have HN1 : Hid (a1 = none → ns = [] ∧ cap1 = 0) := hn1
  have HR0 : Hid (Rd .u8 w a0 zs) := hr0
  have HR1 : Hid (Rd .i64 w a1 ns) := hr1
  have HB : Hid (Byt zs) := hb
  have HI : Hid (∀ i, gat ns i ≤ 9223372036854775807) := hi
  clear hn0 hn1 hr0 hr1 hb hi
  have hmz : zs.length ≤ 1048576 := by omega
  have hmn : ns.length ≤ 131072 := by omega
  have q1 : decide ((1048576 : Int) < (zs.length : Int)) = false := by simp; omega
  have q2 : decide ((131072 : Int) < (ns.length : Int)) = false := by simp; omega
  have q3 : decide ((1048576 : Int) < (zs.length : Int) + 8 * (ns.length : Int)) = false := by simp; omega
  go_enter Trym.func4, Trym.ntmps4
  go_wp2
  go_loop [5] (fun t => ∃ k : Nat, k ≤ ns.length ∧ t = .int .i64 k ∧ Hid (∀ j, j < k → 0 ≤ gat ns j)) (fun t => ns.length - (intOf t).toNat)
  case atStart => exact ⟨0, Nat.zero_le _, rfl, fun j hj => absurd hj (by omega)⟩
  case round =>
    obtain ⟨k, hk, rfl, HPOS⟩ := hrel
    by_cases hlt : k < ns.length
    · obtain ⟨b, off, rfl, hbw, hc⟩ := HR1.out (by omega)
      have hck := hc k hlt
      clear hc
      by_cases hneg : gat ns k < 0
      · go_wp2
        go_ret
        exact ⟨rfl, Below.refl _ _⟩
      · go_wp2
        go_round
        case rel =>
          refine ⟨k + 1, by omega, by go_num, fun j hj => ?_⟩
          by_cases e : j < k
          · exact HPOS.out j e
          · obtain rfl : j = k := by omega
            omega
        case measure => simp [intOf]; omega
    · have HNN : Hid (∀ j, j < ns.length → 0 ≤ gat ns j) := fun j hj => HPOS.out j (by omega)
      clear HPOS
      go_wp2_with (first
        | (go_at_call 13; refine (cloneB_any a0 zs cap0 _ HN0.out hmz HR0.out).mono ?_; rintro e w1 ⟨pa, rfl, hb1, hrp⟩; have HRP1 : Hid (Rd .u8 w1 pa zs) := hrp; clear hrp)
        | (go_at_call 14; refine (cloneI_any a1 ns cap1 _ HN1.out (by omega) (HR1.out.below hb1 (Nat.le_refl _))).mono ?_; rintro e w2 ⟨na, rfl, hb2, hrn⟩; have HRN : Hid (Rd .i64 w2 na ns) := hrn; have HRP : Hid (Rd .u8 w2 pa zs) := HRP1.out.below hb2 (Nat.le_refl _); clear hrn HRP1)
        | (go_at_call 7; refine (new_any _ _ _ _ _ _ _).mono ?_; rintro e w3 ⟨rfl, rfl⟩))
      go_loopw [7, 8, 9] (fun p o t wr => ∃ (i pos : Nat) (over : Bool), i ≤ ns.length ∧ p = .int .i64 pos ∧ o = .bool over ∧ t = .int .i64 i ∧ Hid (Pos zs w2 pos over wr)) (fun _ _ t _ => ns.length - (intOf t).toNat)
      case atStart => exact ⟨0, 0, false, Nat.zero_le _, rfl, rfl, rfl, Nat.zero_le _, (Below.refl _ _).alloc (Nat.le_refl _) _, .inl ⟨rfl, pa, zs.length, HRP.out, Nat.le_refl _, hmz, Cod.new _ _ _ _ _ _ _⟩⟩
      case round =>
        obtain ⟨i, pos, over, hi, rfl, rfl, rfl, HP⟩ := hrel
        by_cases hlti : i < ns.length
        · obtain ⟨b, off, rfl, hbw, hc⟩ := HRN.out (by omega)
          have hpos := HP.out.1
          have hbel := HP.out.2.1
          have hci := (hbel.cell (p := ⟨b, off + i, none⟩) (by exact hbw)).trans (hc i hlti)
          have hg0 := HNN.out i hlti
          have hgi := HI.out i
          obtain ⟨K, hK⟩ : ∃ K : Nat, gat ns i = (K : Int) := ⟨(gat ns i).toNat, by omega⟩
          rw [hK] at hci hgi
          clear hc hg0 hK
          rcases HP.out.2.2 with ⟨rfl, a, cap, hra, hcap, hcapm, hcod⟩ | ⟨rfl, hcod⟩
          · have HRA : Hid (Rd .u8 w2 a (zs.drop pos)) := hra
            have HCod : Hid (Cod 1 w2.heap.size a (zs.length - pos) cap false 0 wr) := hcod
            have HBel : Hid (Below w2.heap.size w2 wr) := hbel
            clear hra hcod HP hbel
            by_cases hfit : (K : Int) ≤ (zs.length : Int) - (pos : Int)
            · by_cases hnp : zs.length = pos
              · obtain rfl : pos = zs.length := hnp.symm
                obtain rfl : K = 0 := by omega
                have hlz : zs.length - zs.length = 0 := Nat.sub_self _
                rw [hlz] at hcap
                have HCod0 : Hid (Cod 1 w2.heap.size a 0 cap false 0 wr) := by have h := HCod.out; rw [hlz] at h; exact h
                clear hnp hlz HCod
                go_wp2_with (first
                  | (go_at_call 8; refine (zfield_fit w2.heap.size a 0 cap false 0 _ _ (by simp) (by simp) hcap (by omega) HCod0.out).mono ?_; rintro e w4 ⟨rfl, hcod4, hb4⟩; have HCod4 : Hid (Cod 1 w2.heap.size (adv a cap 0) 0 cap false 0 w4) := hcod4; have HBel4 : Hid (Below w2.heap.size wr w4) := hb4; clear hcod4 hb4)
                  | (go_at_call 11; refine (same_len a pa [] 0 cap 0 _ rfl (by omega) (fun h => absurd h (by simp)) (fun h => absurd h (by simp))).mono ?_; rintro e w5 ⟨rfl, q5, rfl⟩)
                  | (go_at_call 10; refine (zstate 1 w2.heap.size _ _ _ _ _ _ (HCod4.out.drewN _)).mono ?_; rintro e w6 ⟨rfl, q6, rfl⟩))
                go_roundw
                case rel => exact ⟨i + 1, zs.length, false, by omega, by go_num, rfl, by go_num, pos_fit (K := 0) hpos HRA.out (by omega) hcapm (by omega) HBel.out HBel4.out (by rw [Nat.sub_self]; exact HCod4.out)⟩
                case measure => simp [intOf]; omega
              · have HADV : Hid (adv pa zs.length pos = pa.map (·.add pos)) := by unfold adv Hid; rw [if_neg hnp]
                go_wp2_with (first
                  | (go_at_call 8; refine (zfield_fit w2.heap.size a (zs.length - pos) cap false 0 _ _ (by omega) (by omega) hcap (by omega) HCod.out).mono ?_; rintro e w4 ⟨rfl, hcod4, hb4⟩; rw [Int.toNat_natCast] at hcod4 ⊢; have HCod4 : Hid (Cod 1 w2.heap.size (adv a cap K) (zs.length - pos - K) (cap - K) false 0 w4) := hcod4; have HBel4 : Hid (Below w2.heap.size wr w4) := hb4; clear hcod4 hb4)
                  | (go_at_call 11; refine (same_len a (pa.map (·.add pos)) ((zs.drop pos).take K) K cap (zs.length - pos) _ (by simp; omega) (by omega) ((HRA.out.below (HBel.out.trans HBel4.out) (Nat.le_refl _)).pre K) (by have h := ((HRP.out.below (HBel.out.trans HBel4.out) (Nat.le_refl _)).cut zs.length pos (Nat.le_refl _)).pre K; rwa [HADV.out] at h)).mono ?_; rintro e w5 ⟨rfl, q5, rfl⟩)
                  | (go_at_call 10; refine (zstate 1 w2.heap.size _ _ _ _ _ _ (HCod4.out.drewN _)).mono ?_; rintro e w6 ⟨rfl, q6, rfl⟩))
                go_roundw
                case rel => exact ⟨i + 1, pos + K, false, by omega, by go_num, rfl, by go_num, pos_fit hpos HRA.out hcap hcapm (by omega) HBel.out HBel4.out HCod4.out⟩
                case measure => simp [intOf]; omega
            · go_wp2_with (first
                | (go_at_call 8; refine (zfield_over w2.heap.size a (zs.length - pos) cap false 0 _ _ (by omega) HCod.out).mono ?_; rintro e w4 ⟨rfl, hcod4, hb4⟩; have HCod4 : Hid (Cod 1 w2.heap.size none 0 0 true 0 w4) := hcod4; have HBel4 : Hid (Below w2.heap.size wr w4) := hb4; clear hcod4 hb4)
                | (go_at_call 10; refine (zstate 1 w2.heap.size _ _ _ _ _ _ HCod4.out).mono ?_; rintro e w6 ⟨rfl, q6, rfl⟩))
              go_roundw
              case rel => exact ⟨i + 1, pos, true, by omega, rfl, rfl, by go_num, pos_over hpos HBel.out HBel4.out HCod4.out⟩
              case measure => simp [intOf]; omega
          · have HCod : Hid (Cod 1 w2.heap.size none 0 0 true 0 wr) := hcod
            have HBel : Hid (Below w2.heap.size w2 wr) := hbel
            clear hcod HP hbel
            by_cases hz : K = 0
            · subst hz
              go_wp2_with (first
                | (go_at_call 8; refine (zfield_fit w2.heap.size none 0 0 true 0 _ _ (by simp) (by simp) (Nat.le_refl _) (by omega) HCod.out).mono ?_; rintro e w4 ⟨rfl, hcod4, hb4⟩; have HCod4 : Hid (Cod 1 w2.heap.size none 0 0 true 0 w4) := hcod4; have HBel4 : Hid (Below w2.heap.size wr w4) := hb4; clear hcod4 hb4)
                | (go_at_call 10; refine (zstate 1 w2.heap.size _ _ _ _ _ _ HCod4.out).mono ?_; rintro e w6 ⟨rfl, q6, rfl⟩))
              go_roundw
              case rel => exact ⟨i + 1, pos, true, by omega, rfl, rfl, by go_num, pos_over hpos HBel.out HBel4.out HCod4.out⟩
              case measure => simp [intOf]; omega
            · go_wp2_with (first
                | (go_at_call 8; refine (zfield_over w2.heap.size none 0 0 true 0 _ _ (by simp; omega) HCod.out).mono ?_; rintro e w4 ⟨rfl, hcod4, hb4⟩; have HCod4 : Hid (Cod 1 w2.heap.size none 0 0 true 0 w4) := hcod4; have HBel4 : Hid (Below w2.heap.size wr w4) := hb4; clear hcod4 hb4)
                | (go_at_call 10; refine (zstate 1 w2.heap.size _ _ _ _ _ _ HCod4.out).mono ?_; rintro e w6 ⟨rfl, q6, rfl⟩))
              go_roundw
              case rel => exact ⟨i + 1, pos, true, by omega, rfl, rfl, by go_num, pos_over hpos HBel.out HBel4.out HCod4.out⟩
              case measure => simp [intOf]; omega
        · have hpos := HP.out.1
          have hbel := HP.out.2.1
          have hz := hbel.size
          rcases HP.out.2.2 with ⟨rfl, a, cap, hra, hcap, hcapm, hcod⟩ | ⟨rfl, hcod⟩
          · have HRA : Hid (Rd .u8 w2 a (zs.drop pos)) := hra
            have HCod : Hid (Cod 1 w2.heap.size a (zs.length - pos) cap false 0 wr) := hcod
            have HBel : Hid (Below w2.heap.size w2 wr) := hbel
            clear hra hcod HP hbel
            obtain ⟨S, hS⟩ : ∃ S, S = strOfNums (zs.drop pos) := ⟨_, rfl⟩
            have hSz : S.size = zs.length - pos := by rw [hS, strOfNums_size]; simp
            have hSi : ∀ j (h : j < S.size), (S[j].toNat : Int) = gat zs (pos + j) := by
              subst hS
              intro j h
              rw [str_at (zs.drop pos) (fun j => by rw [gat_drop]; exact HB.out _) j h, gat_drop]
            have HS : Hid (S = strOfNums (zs.drop pos)) := hS
            have HSI : Hid (∀ j (h : j < S.size), (S[j].toNat : Int) = gat zs (pos + j)) := hSi
            have HSZ : Hid (S.size = zs.length - pos) := hSz
            have hsl : ((S.size : Int) != (zs.length : Int) - (pos : Int)) = false := by rw [bne_eq_false_iff_eq]; omega
            have hsm : S.size ≤ 1048576 := by omega
            have HCodA : Hid (Cod 1 w2.heap.size a (zs.drop pos).length cap false 0 (wr.alloc (.cells #[.string ⟨#[117, 110, 115, 101, 116]⟩] 9))) := by
              unfold Hid; rw [List.length_drop]; exact HCod.out.above ((Below.refl wr.heap.size _).alloc (Nat.le_refl _) _) HCod.out.lt
            have hDV := HCod.out.lt
            have HBA : Hid (Below w2.heap.size w2 (wr.alloc (.cells #[.string ⟨#[117, 110, 115, 101, 116]⟩] 9))) := HBel.out.alloc hz _
            clear hS hSi hSz
            go_wp2_with (first
              | (go_at_call 9; refine (zrest_dec w2.heap.size wr.heap.size a (zs.drop pos) cap false 0 _ _ hDV (HRA.out.below HBA.out (Nat.le_refl _)) HCodA.out (heap_alloc_new wr _)).mono ?_; rintro e w5 ⟨rfl, hcod5, hsv5, hb5⟩; rw [← HS.out] at hsv5; have hcv := sv_cell hsv5; have HCod5 : Hid (Cod 1 w2.heap.size none 0 0 false 0 w5) := hcod5; have HB5 : Hid (Below w2.heap.size (wr.alloc (.cells #[.string ⟨#[117, 110, 115, 101, 116]⟩] 9)) w5) := hb5; clear hsv5 hcod5 hb5)
              | (go_at_call 10; refine (zstate 1 w2.heap.size _ _ _ _ _ _ HCod5.out).mono ?_; rintro e w6 ⟨rfl, q6, rfl⟩))
            have HTOT : Hid (Below w.heap.size w w5) := (hb1.trans (hb2.mono hb1.size)).trans ((HBA.out.trans HB5.out).mono (Nat.le_trans hb1.size hb2.size))
            go_loopw [19] (fun t wx => ∃ k q : Nat, k ≤ S.size ∧ t = .int .i64 k ∧ wx = w5.drewN q) (fun t _ => S.size - (intOf t).toNat)
            case atStart => exact ⟨0, q6, Nat.zero_le _, rfl, rfl⟩
            case round =>
              obtain ⟨j, q, hj, rfl, rfl⟩ := hrel
              by_cases hltj : j < S.size
              · have hpj : pos + j < zs.length := by have := HSZ.out; omega
                obtain ⟨b, off, rfl, hbw, hc⟩ := HRP.out (by omega)
                have hcj := ((HBA.out.trans HB5.out).cell (p := ⟨b, off + (pos + j), none⟩) (by exact hbw)).trans (hc (pos + j) hpj)
                have hpj' : (pos : Int) + (j : Int) < (zs.length : Int) := by omega
                have hltj' : (j : Int) < (S.size : Int) := by omega
                have hsj : ((S[j].toNat : Int) != gat zs (pos + j)) = false := by rw [HSI.out j hltj]; simp
                clear hc
                go_wp2
                go_quiet (fail)
                go_wp2
                go_roundw
                case rel => exact ⟨j + 1, _, by omega, by go_num, by first | rfl | exact World.drewN_drewN _ _ _⟩
                case measure => simp [intOf]; omega
              · go_wp2
                go_ret
                exact ⟨rfl, below_drewN HTOT.out _⟩
          · have HCod : Hid (Cod 1 w2.heap.size none 0 0 true 0 wr) := hcod
            have HBel : Hid (Below w2.heap.size w2 wr) := hbel
            clear hcod HP hbel
            have HCodA : Hid (Cod 1 w2.heap.size none ([] : List Int).length 0 true 0 (wr.alloc (.cells #[.string ⟨#[117, 110, 115, 101, 116]⟩] 9))) := HCod.out.above ((Below.refl wr.heap.size _).alloc (Nat.le_refl _) _) HCod.out.lt
            have hDV := HCod.out.lt
            have HBA : Hid (Below w2.heap.size w2 (wr.alloc (.cells #[.string ⟨#[117, 110, 115, 101, 116]⟩] 9))) := HBel.out.alloc hz _
            go_wp2_with (first
              | (go_at_call 9; refine (zrest_dec w2.heap.size wr.heap.size none [] 0 true 0 _ _ hDV (fun h => absurd h (by simp)) HCodA.out (heap_alloc_new wr _)).mono ?_; rintro e w5 ⟨rfl, hcod5, hsv5, hb5⟩; have hcv : w5.cell? ⟨wr.heap.size, 0, none⟩ = some (.string ⟨#[]⟩) := sv_cell hsv5; have HCod5 : Hid (Cod 1 w2.heap.size none 0 0 true 0 w5) := hcod5; have HB5 : Hid (Below w2.heap.size (wr.alloc (.cells #[.string ⟨#[117, 110, 115, 101, 116]⟩] 9)) w5) := hb5; clear hsv5 hcod5 hb5)
              | (go_at_call 10; refine (zstate 1 w2.heap.size _ _ _ _ _ _ HCod5.out).mono ?_; rintro e w6 ⟨rfl, q6, rfl⟩))
            have HTOT : Hid (Below w.heap.size w w5) := (hb1.trans (hb2.mono hb1.size)).trans ((HBA.out.trans HB5.out).mono (Nat.le_trans hb1.size hb2.size))
            go_ret
            exact ⟨rfl, below_drewN HTOT.out _⟩

end Go.Proofs.Qxb6603133aMods
