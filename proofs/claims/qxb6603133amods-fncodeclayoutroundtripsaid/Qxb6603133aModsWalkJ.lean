import Derived.Test.Qxb6603133aModsWalkI
import Derived.Deep.CutBlock
namespace Go.Proofs.Qxb6603133aMods
open Go.RowKit

set_option maxRecDepth 100000 in
set_option maxHeartbeats 4000000 in
theorem rt_main (a0 : Option Addr) (fs : List (List Int)) (cap0 : Nat) (s : ByteArray) (w : World) (hn : a0 = none → fs = [] ∧ cap0 = 0) (hm : fs.length ≤ 9223372036854775807) (hl : ∀ i, i < fs.length → (fat fs i).length ≤ 9223372036854775807) (hs : s.size ≤ 9223372036854775807) (hr : RdF w a0 fs) :
    Calls Trym.prog 3 #[.slice a0 fs.length cap0, .string s] w fun e w' => e = .returned (.bool true) ∧ Below w.heap.size w w' := by
  have hnil := fun wx a l c => run_neq_slice_nil_any (P := Trym.prog) wx 24 5 a l c 0 0 Trym.underlying24
  have hnil2 := fun wx a l c => Lib.run_eql_slice_nil (P := Trym.prog) wx 24 5 a l c 0 0 Trym.underlying24
  have HN : Hid (a0 = none → fs = [] ∧ cap0 = 0) := hn
  have HR : Hid (RdF w a0 fs) := hr
  have HZC := zz_any a0 fs cap0 s w hm hl hs hr
  have HZC' : Hid (Calls Trym.prog 5 #[.slice a0 fs.length cap0, .string s] w (fun e w' => ZZ fs s w e w')) := HZC
  clear hn hr HZC hl
  go_enter Trym.func3, Trym.ntmps3
  go_wp2_with fail
  refine HZC'.out.mono ?_
  rintro e w' ⟨b, rfl, hw', hzz⟩
  have hw := hw'.symm
  clear hw'
  subst hw
  cases b
  · clear hzz
    go_wp2
    go_ret
    exact ⟨rfl, Below.refl _ _⟩
  · obtain ⟨hz1, hz2, hz3⟩ := hzz rfl
    have HZ3 : Hid (∀ i, i < fs.length → (fat fs i).length ≤ 1048576) := hz3
    clear hz3 hzz hm hs
    have q1 : decide ((1048576 : Int) < (s.size : Int)) = false := by simp; omega
    go_wp2
    go_loop [5, 6] (fun z t => ∃ k T : Nat, k ≤ fs.length ∧ T ≤ 1048576 ∧ z = .int .i64 T ∧ t = .int .i64 k ∧ Hid (T = s.size + tot fs k)) (fun _ t => fs.length - (intOf t).toNat)
    case atStart => exact ⟨0, s.size, Nat.zero_le _, by omega, rfl, rfl, by unfold Hid tot; rw [clen_zero]; omega⟩
    case round =>
      obtain ⟨k, T, hk, hT, rfl, rfl, HT⟩ := hrel
      by_cases hlt : k < fs.length
      · obtain ⟨b, off, rfl, hbw, hc⟩ := HR.out (by omega)
        obtain ⟨ai, ci, hcell, _, _⟩ := hc k hlt
        have hlk := HZ3.out k hlt
        have HT1 : Hid (T + (24 + (fat fs k).length) = s.size + tot fs (k + 1)) := by unfold Hid; rw [tot_succ, HT.out]; omega
        clear hc HT
        generalize (fat fs k).length = lk at *
        by_cases h3 : 1048576 < T + (24 + lk)
        · go_wp2
          go_ret
          exact ⟨rfl, Below.refl _ _⟩
        · go_wp2
          go_round
          case rel => exact ⟨k + 1, T + (24 + lk), by omega, by omega, by go_num, by go_num, HT1⟩
          case measure => simp [intOf]; omega
      · have htot : s.size + tot fs fs.length ≤ 1048576 := by
          have := HT.out
          obtain rfl : k = fs.length := by omega
          omega
        have hcl : 24 * fs.length + clen fs fs.length + s.size ≤ 1048576 := by unfold tot at htot; omega
        clear HT htot
        go_wp2_with (first
          | (go_at_call 6; refine (cloneF_any a0 fs cap0 _ HN.out hz1 HZ3.out HR.out).mono ?_; rintro e wF ⟨pa, rfl, hbF, hgF⟩; have HG : Hid (RdG wF pa fs) := hgF; have HBF : Hid (Below w.heap.size w wF) := hbF; clear hgF hbF)
          | (go_at_call 7; refine (new_any _ _ _ _ _ _ _).mono ?_; rintro e w3 ⟨rfl, rfl⟩))
        go_loopw [8, 9] (fun t f wr => ∃ k : Nat, k ≤ fs.length ∧ t = .int .i64 k ∧ Hid (Enc wF fs k wr)) (fun t _ _ => fs.length - (intOf t).toNat)
        case atStart => exact ⟨0, Nat.zero_le _, rfl, enc_zero wF fs⟩
        case round =>
          obtain ⟨j, hj, rfl, HE⟩ := hrel
          by_cases hltj : j < fs.length
          · obtain ⟨b', off', rfl, hbw', hc⟩ := HG.out (by omega)
            obtain ⟨ai, ci, hcell0, hrd⟩ := hc j hltj
            have hcell : wr.cell? ⟨b', off' + j, none⟩ = some (.slice ai (fat fs j).length ci) := (HE.out.1.cell (by exact hbw')).trans hcell0
            have HRD : Hid (Rd .u8 wF ai (fat fs j)) := hrd
            clear hc hcell0 hrd
            obtain ⟨hBel, a, cap, hcapl, hcod, hown⟩ := HE.out
            have HBel : Hid (Below wF.heap.size wF wr) := hBel
            have HCod : Hid (Cod 0 wF.heap.size a (clen fs j) cap false 0 wr) := hcod
            have HOwn : Hid (wr.ownsRow (wF.heap.size + 1) 5 1 (.slice a (clen fs j) cap) (clen fs j) ((cat fs j).map (Value.int .u8))) := hown
            clear hBel hcod hown HE
            have hcj : clen fs j + (fat fs j).length ≤ clen fs fs.length := by
              rw [← clen_succ]
              have := clen_mono fs (j + 1) (fs.length - (j + 1))
              rwa [show j + 1 + (fs.length - (j + 1)) = fs.length by omega] at this
            by_cases hzero : (fat fs j).length = 0
            · have HZ : Hid ((fat fs j).length = 0) := hzero
              clear hzero
              go_upto_region 20 with (go_at_call 8; refine (zfield_enc wF.heap.size a (clen fs j) cap (fat fs j).length _ _ HCod.out HOwn.out (by omega)).mono ?_; rintro e w4 ⟨a', cap', rfl, h1, h2, h3, h4⟩; have HCod4 : Hid (Cod 0 wF.heap.size a' (clen fs j + (fat fs j).length) cap' false 0 w4) := h2; have HOwn4 : Hid (w4.ownsRow (wF.heap.size + 1) 5 1 (.slice a' (clen fs j + (fat fs j).length) cap') (clen fs j + (fat fs j).length) ((cat fs j).map (Value.int .u8) ++ List.replicate (fat fs j).length (.int .u8 0))) := h3; have HB4 : Hid (Below wF.heap.size wr w4) := h4; have hcell4 : w4.cell? ⟨b', off' + j, none⟩ = some (.slice ai (fat fs j).length ci) := (h4.cell (by exact hbw')).trans hcell; clear h2 h3 h4)
              go_wp2_with (refine wpList_copy_nothing rfl (.tmp 77) (.tmp 81) 24 24 rfl 5 Trym.underlying24 Trym.size5 (adv a' cap' (clen fs j)) ai (fat fs j).length (cap' - clen fs j) (fat fs j).length ci rfl rfl (by rw [HZ.out]; rfl) ?_)
              go_roundw
              case rel => exact ⟨j + 1, by omega, by go_num, enc_step0 HBel.out HZ.out h1 HCod4.out HOwn4.out HB4.out⟩
              case measure => simp [intOf]; omega
            · go_upto_region 20 with (go_at_call 8; refine (zfield_enc wF.heap.size a (clen fs j) cap (fat fs j).length _ _ HCod.out HOwn.out (by omega)).mono ?_; rintro e w4 ⟨a', cap', rfl, h1, h2, h3, h4⟩; have HCod4 : Hid (Cod 0 wF.heap.size a' (clen fs j + (fat fs j).length) cap' false 0 w4) := h2; have HOwn4 : Hid (w4.ownsRow (wF.heap.size + 1) 5 1 (.slice a' (clen fs j + (fat fs j).length) cap') (clen fs j + (fat fs j).length) ((cat fs j).map (Value.int .u8) ++ List.replicate (fat fs j).length (.int .u8 0))) := h3; have HB4 : Hid (Below wF.heap.size wr w4) := h4; have hcell4 : w4.cell? ⟨b', off' + j, none⟩ = some (.slice ai (fat fs j).length ci) := (h4.cell (by exact hbw')).trans hcell; clear h2 h3 h4)
              obtain ⟨g, cur, rfl, hgl, hrow, _, hc2, hcurl, htk⟩ := own_open HOwn4.out (by omega)
              have HROW : Hid (w4.heap[g]? = some (.cells (List.toArray cur) 5 (0, 0))) := hrow
              have HTK : Hid (cur.take (clen fs j + (fat fs j).length) = (cat fs j).map (Value.int .u8) ++ List.replicate (fat fs j).length (.int .u8 0)) := htk
              have HCL : Hid (cur.length = cap') := hcurl
              obtain ⟨X, hX⟩ : ∃ X, X = (fat fs j).map (Value.int .u8) := ⟨_, rfl⟩
              have hXl : X.length = (fat fs j).length := by rw [hX]; simp
              have HX : Hid (X = (fat fs j).map (Value.int .u8)) := hX
              have HXL : Hid (X.length = (fat fs j).length) := hXl
              have hpos : 0 < X.length → adv (some ⟨g, 0, none⟩) cap' (clen fs j) = some ⟨g, clen fs j, none⟩ ∧ ∃ ad, ai = some ad ∧ ∀ t v, X[t]? = some v → w4.cell? (ad.add t) = some v := by
                intro _
                refine ⟨by rw [adv_some _ _ _ _ (by omega), Nat.zero_add], ?_⟩
                obtain ⟨b2, o2, rfl, hb2, hc2⟩ := (HRD.out.below (HBel.out.trans HB4.out) (Nat.le_refl _)) (by omega)
                refine ⟨_, rfl, fun t v ht => ?_⟩
                have htl : t < (fat fs j).length := by have := (List.getElem?_eq_some_iff.1 ht).1; omega
                rw [WideShapes.add_plain, hc2 t htl]
                rw [hX] at ht
                simp [htl] at ht
                rw [← ht, gat_at _ _ htl]
              have HPOS : Hid (0 < X.length → adv (some ⟨g, 0, none⟩) cap' (clen fs j) = some ⟨g, clen fs j, none⟩ ∧ ∃ ad, ai = some ad ∧ ∀ t v, X[t]? = some v → w4.cell? (ad.add t) = some v) := hpos
              clear hrow htk hcurl hX hXl hpos
              go_wp2_with (refine wpList_copy_splice rfl (.tmp 77) (.tmp 81) 24 24 rfl 5 Trym.underlying24 Trym.size5 (adv (some ⟨g, 0, none⟩) cap' (clen fs j)) ai (fat fs j).length (cap' - clen fs j) (fat fs j).length ci rfl rfl g (clen fs j) cur 5 HROW.out X (by rw [HXL.out]; exact (Nat.min_self _).symm) HPOS.out (by rw [HXL.out, HCL.out]; exact h1) (by rw [HX.out]; exact ints_one _ _) g w4 (Below.refl _ _) (Nat.le_refl _) ?_; intro w5 HG5 hb5)
              have HG5' : Hid (w5.heap[g]? = some (.cells (splice cur (clen fs j) ((fat fs j).map (Value.int .u8))).toArray 5 (0, 0))) := by have h := HG5.out; rw [HX.out] at h; exact h
              clear HG5
              go_roundw
              case rel => exact ⟨j + 1, by omega, by go_num, enc_step HBel.out h1 HCod4.out HTK.out HCL.out hc2 hgl HB4.out HG5'.out hb5⟩
              case measure => simp [intOf]; omega
          · obtain rfl : j = fs.length := by omega
            obtain ⟨hBel, a, cap, hcapl, hcod, hown⟩ := HE.out
            have hDl := hcod.lt
            have HBA : Hid (Below wF.heap.size wF (wr.alloc (.cells #[.string s] 9))) := hBel.alloc (by omega) _
            have HCodA : Hid (Cod 0 wF.heap.size a (clen fs fs.length) cap false 0 (wr.alloc (.cells #[.string s] 9))) := hcod.above ((Below.refl wr.heap.size _).alloc (Nat.le_refl _) _) hDl
            have HOwnA : Hid ((wr.alloc (.cells #[.string s] 9)).ownsRow (wF.heap.size + 1) 5 1 (.slice a (clen fs fs.length) cap) (clen fs fs.length) ((cat fs fs.length).map (Value.int .u8))) := hown.alloc _
            have HNV : Hid (some wr.heap.size ≠ Value.ownBlock (.slice a (clen fs fs.length) cap)) := fun h => by have := (hown.lt _ h.symm).2; omega
            clear hBel hcod hown HE hj hltj
            go_upto_region 26 with (first
              | (go_at_call 9; refine (zrest_enc wF.heap.size wr.heap.size a (clen fs fs.length) cap s _ _ hDl HCodA.out (heap_alloc_new wr _) HOwnA.out HNV.out (by omega)).mono ?_; rintro e w6 ⟨a2, cap2, rfl, h1, h2, h3, h4, h5, h6⟩; have hcv1 := sv_cell h4; have HCod6 : Hid (Cod 0 wF.heap.size a2 (clen fs fs.length + s.size) cap2 false 0 w6) := h3; have HOwn6 : Hid (w6.ownsRow (wF.heap.size + 1) 5 1 (.slice a2 (clen fs fs.length + s.size) cap2) (clen fs fs.length + s.size) ((cat fs fs.length).map (Value.int .u8) ++ Lib.strCells s)) := h5; have HB6 : Hid (Below wF.heap.size wF w6) := HBA.out.trans h6; clear h3 h4 h5 h6)
              | (go_at_call 10; refine (zstate 0 wF.heap.size _ _ _ _ _ _ HCod6.out).mono ?_; rintro e w7 ⟨rfl, q7, rfl⟩))
            have hz6 := HB6.out.size
            clear HCodA HOwnA HNV HBA HCod6 hcv1
            go_wp2_with (go_at_call 7; refine (new_any _ _ _ _ _ _ _).mono ?_; rintro e w3 ⟨rfl, rfl⟩)
            go_loopw [15, 16] (fun z t wr2 => ∃ i : Nat, i ≤ fs.length ∧ z = .int .i64 (clen fs i : Int) ∧ t = .int .i64 i ∧ Hid (Below w6.heap.size (w6.drewN q7) wr2 ∧ Cod 2 w6.heap.size none 0 0 false (clen fs i : Int) wr2)) (fun _ t _ => fs.length - (intOf t).toNat)
            case atStart => exact ⟨0, Nat.zero_le _, by rw [clen_zero]; rfl, rfl, (Below.refl w6.heap.size (w6.drewN q7)).alloc (Nat.le_refl _) _, Cod.new _ _ _ _ _ _ _⟩
            case round =>
              obtain ⟨i, hi, rfl, rfl, HM⟩ := hrel
              by_cases hlti : i < fs.length
              · obtain ⟨b', off', rfl, hbw', hc⟩ := HG.out (by omega)
                obtain ⟨ai, ci, hcell0, _⟩ := hc i hlti
                have hcell : wr.cell? ⟨b', off' + i, none⟩ = some (.slice ai (fat fs i).length ci) := (HM.out.1.cell (by show b' < w6.heap.size; omega)).trans ((HB6.out.cell (by exact hbw')).trans hcell0)
                have hci : clen fs i + (fat fs i).length ≤ clen fs fs.length := by
                  rw [← clen_succ]
                  have := clen_mono fs (i + 1) (fs.length - (i + 1))
                  rwa [show i + 1 + (fs.length - (i + 1)) = fs.length by omega] at this
                clear hc hcell0
                go_wp2_with (go_at_call 8; refine (zfield_meas w6.heap.size none 0 0 false (clen fs i) (fat fs i).length _ (by omega) HM.out.2).mono ?_; rintro e w8 ⟨rfl, h2, h3⟩; have HCod8 : Hid (Cod 2 w6.heap.size none 0 0 false ((clen fs i + (fat fs i).length : Nat) : Int) w8) := h2; have HB8 : Hid (Below w6.heap.size wr w8) := h3; clear h2 h3)
                go_roundw
                case rel => exact ⟨i + 1, by omega, by rw [clen_succ]; go_num, by go_num, HM.out.1.trans HB8.out, by rw [clen_succ]; exact HCod8.out⟩
                case measure => simp [intOf]; omega
              · obtain rfl : i = fs.length := by omega
                have hD2 := HM.out.2.lt
                have HCodB : Hid (Cod 2 w6.heap.size none 0 0 false (clen fs fs.length : Int) (wr.alloc (.cells #[.string s] 9))) := HM.out.2.above ((Below.refl wr.heap.size _).alloc (Nat.le_refl _) _) hD2
                have HBB : Hid (Below w6.heap.size (w6.drewN q7) (wr.alloc (.cells #[.string s] 9))) := HM.out.1.alloc (by omega) _
                have q5 : (((clen fs fs.length + s.size : Nat) : Int) != (clen fs fs.length : Int) + (s.size : Int)) = false := by rw [bne_eq_false_iff_eq]; omega
                clear HM hi hlti
                go_upto_region 40 with (first
                  | (go_at_call 9; refine (zrest_meas w6.heap.size _ _ HCodB.out.c0).mono ?_; rintro e w9 ⟨rfl, hw9⟩; have hw9' := hw9.symm; clear hw9; subst hw9')
                  | (go_at_call 10; refine (zstate 2 w6.heap.size _ _ _ _ _ _ HCodB.out).mono ?_; rintro e w7 ⟨rfl, q8, rfl⟩)
                  | (go_at_call 7; refine (new_any _ _ _ _ _ _ _).mono ?_; rintro e w3 ⟨rfl, rfl⟩))
                generalize hwP : (wr.alloc (.cells #[.string s] 9)).drewN q8 = wP
                have hszP : wP.heap.size = wr.heap.size + 1 := by rw [← hwP]; simp
                rw [← hszP]
                obtain ⟨pz, hpz⟩ : ∃ pz, pz = cat fs fs.length ++ tz s := ⟨_, rfl⟩
                have hpl : pz.length = clen fs fs.length + s.size := by rw [hpz, List.length_append, tz_length]; rfl
                have HPZ : Hid (pz = cat fs fs.length ++ tz s) := hpz
                have HPL : Hid (pz.length = clen fs fs.length + s.size) := hpl
                have hplm : pz.length ≤ 1048576 := by omega
                have HB6P : Hid (Below w6.heap.size (w6.drewN q7) wP) := by unfold Hid; rw [← hwP]; exact below_drewN HBB.out _
                have HBP : Hid (Below wF.heap.size wF wP) := (below_drewN HB6.out q7).trans (HB6P.out.mono hz6)
                have HRP : Hid (Rd .u8 wP a2 pz) := by
                  have h := HOwn6.out
                  rw [tz_cells, ← List.map_append, ← hpz] at h
                  exact ((own_rd h).drewN q7).below HB6P.out (Nat.le_refl _)
                have HZP : Hid (wF.heap.size ≤ wP.heap.size) := HBP.out.size
                have HSTART : Hid (PosB pz wP (clen fs 0) (wP.alloc (.cells #[.int .i64 1, .slice a2 (clen fs fs.length + s.size) cap2, .bool false, .int .i64 0] 40))) := by
                  refine ⟨Nat.zero_le _, (Below.refl _ _).alloc (Nat.le_refl _) _, a2, cap2, HRP.out, by rw [clen_zero, HPL.out]; exact h1, ?_⟩
                  rw [clen_zero, Nat.sub_zero, HPL.out]
                  exact Cod.new _ _ _ _ _ _ _
                clear hwP hszP hpz hpl HBB HCodB q5
                go_wp2
                go_loopw [22, 23] (fun t g wx => ∃ i : Nat, i ≤ fs.length ∧ t = .int .i64 i ∧ Hid (PosB pz wP (clen fs i) wx)) (fun t _ _ => fs.length - (intOf t).toNat)
                case atStart => exact ⟨0, Nat.zero_le _, rfl, HSTART⟩
                case round =>
                  obtain ⟨i, hi, rfl, HM⟩ := hrel
                  clear HSTART
                  obtain ⟨hpos, hBel, a, cap, hra, hcap, hcod⟩ := HM.out
                  have HBel : Hid (Below wP.heap.size wP wr) := hBel
                  have HRA : Hid (Rd .u8 wP a (pz.drop (clen fs i))) := hra
                  have HCod : Hid (Cod 1 wP.heap.size a (pz.length - clen fs i) cap false 0 wr) := hcod
                  clear hBel hra hcod HM
                  by_cases hlti : i < fs.length
                  · obtain ⟨b', off', rfl, hbw', hc⟩ := HG.out (by omega)
                    obtain ⟨ai, ci, hcell0, hrd⟩ := hc i hlti
                    have hbP : b' < wP.heap.size := by have := HZP.out; omega
                    have hcell : wr.cell? ⟨b', off' + i, none⟩ = some (.slice ai (fat fs i).length ci) := (HBel.out.cell (by exact hbP)).trans ((HBP.out.cell (by exact hbw')).trans hcell0)
                    have HRD : Hid (Rd .u8 wP ai (fat fs i)) := hrd.below HBP.out (Nat.le_refl _)
                    have hci : clen fs i + (fat fs i).length ≤ clen fs fs.length := by
                      rw [← clen_succ]
                      have := clen_mono fs (i + 1) (fs.length - (i + 1))
                      rwa [show i + 1 + (fs.length - (i + 1)) = fs.length by omega] at this
                    have hcp : (fat fs i).length ≤ pz.length - clen fs i := by have := HPL.out; omega
                    have HTK : Hid ((pz.drop (clen fs i)).take (fat fs i).length = fat fs i) := by unfold Hid; rw [HPZ.out]; exact cat_at fs (tz s) i fs.length hlti
                    clear hc hcell0 hrd
                    go_wp2_with (first
                      | (go_at_call 8; refine (zfield_fit2 wP.heap.size a (pz.length - clen fs i) cap (fat fs i).length false 0 _ hcp hcap HCod.out).mono ?_; rintro e w4 ⟨rfl, h2, h3⟩; have HCod4 : Hid (Cod 1 wP.heap.size (adv a cap (fat fs i).length) (pz.length - clen fs i - (fat fs i).length) (cap - (fat fs i).length) false 0 w4) := h2; have HB4 : Hid (Below wP.heap.size wr w4) := h3; have hcell4 : w4.cell? ⟨b', off' + i, none⟩ = some (.slice ai (fat fs i).length ci) := (h3.cell (by exact hbP)).trans hcell; clear h2 h3)
                      | (go_at_call 11; refine (same_len a ai (fat fs i) (fat fs i).length cap ci _ rfl (by omega) (by have h := (HRA.out.below (HBel.out.trans HB4.out) (Nat.le_refl _)).pre (fat fs i).length; rwa [HTK.out] at h) (HRD.out.below (HBel.out.trans HB4.out) (Nat.le_refl _))).mono ?_; rintro e w5 ⟨rfl, q5, rfl⟩))
                    go_roundw
                    case rel => exact ⟨i + 1, by omega, by go_num, by unfold Hid; rw [clen_succ]; exact posB_fit hpos HRA.out hcap hcp HBel.out HB4.out HCod4.out⟩
                    case measure => simp [intOf]; omega
                  · obtain rfl : i = fs.length := by omega
                    have hD3 := HCod.out.lt
                    have HEND : Hid (pz.drop (clen fs fs.length) = tz s) := by unfold Hid; rw [HPZ.out]; exact cat_end fs (tz s) fs.length
                    have HCodC : Hid (Cod 1 wP.heap.size a (tz s).length cap false 0 (wr.alloc (.cells #[.string ⟨#[117, 110, 115, 101, 116]⟩] 9))) := by
                      have h := HCod.out.above ((Below.refl wr.heap.size _).alloc (Nat.le_refl _) (.cells #[.string ⟨#[117, 110, 115, 101, 116]⟩] 9)) hD3
                      rw [tz_length]
                      rwa [show pz.length - clen fs fs.length = s.size by have := HPL.out; omega] at h
                    have HBC : Hid (Below wP.heap.size wP (wr.alloc (.cells #[.string ⟨#[117, 110, 115, 101, 116]⟩] 9))) := HBel.out.alloc (by omega) _
                    have HRT : Hid (Rd .u8 wP a (tz s)) := by have h := HRA.out; rw [HEND.out] at h; exact h
                    clear HCod HRA hlti hcap hpos
                    go_wp2_with (first
                      | (go_at_call 9; refine (zrest_dec wP.heap.size wr.heap.size a (tz s) cap false 0 _ _ hD3 (HRT.out.below HBC.out (Nat.le_refl _)) HCodC.out (heap_alloc_new wr _)).mono ?_; rintro e w5 ⟨rfl, hcod5, hsv5, hb5⟩; rw [tz_back] at hsv5; have hcv := sv_cell hsv5; have HCod5 : Hid (Cod 1 wP.heap.size none 0 0 false 0 w5) := hcod5; have HB5 : Hid (Below wP.heap.size wP w5) := HBC.out.trans hb5; clear hsv5 hcod5 hb5)
                      | (go_at_call 10; refine (zstate 1 wP.heap.size _ _ _ _ _ _ HCod5.out).mono ?_; rintro e w6' ⟨rfl, q6, rfl⟩))
                    go_ret
                    exact ⟨rfl, below_drewN (HBF.out.trans ((HBP.out.trans (HB5.out.mono HZP.out)).mono HBF.out.size)) _⟩

end Go.Proofs.Qxb6603133aMods
