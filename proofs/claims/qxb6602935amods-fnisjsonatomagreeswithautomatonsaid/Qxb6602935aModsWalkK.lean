import Derived.Test.Qxb6602935aModsWalkJ
import Derived.Test.Qxb6602935aModsWalkT
import Derived.Test.Qxb6602935aModsWalkC
import Derived.Test.Qxb6602935aModsLawA
import Derived.Lib.Strings
namespace Go.Proofs.Qxb6602935aMods
open Go.RowKit

theorem byte_back (n : Int) (h0 : 0 ≤ n) (h1 : n ≤ 255) : ((UInt8.ofNat n.toNat).toNat : Int) = n := by
  rw [UInt8.toNat_ofNat']; omega

theorem str_eq (zs : List Int) (hb : Byt zs) (l : List UInt8) : ((strOfNums zs).toList == l) = eqS zs ⟨l.toArray⟩ := by
  rw [Lib.toList_data, strOfNums_data]
  unfold eqS
  rw [Bool.eq_iff_iff]
  simp only [beq_iff_eq, decide_eq_true_eq]
  have hsz : (⟨l.toArray⟩ : ByteArray).size = l.length := by simp [ByteArray.size]
  have hsat : ∀ j (h : j < l.length), sat ⟨l.toArray⟩ j = (l[j].toNat : Int) := fun j h => by simp [sat, h]
  have hgat : ∀ j (h : j < zs.length), gat zs j = zs[j] := fun j h => by simp [gat, h]
  rw [hsz]
  constructor
  · intro h
    have hl : zs.length = l.length := by rw [← h]; simp
    refine ⟨hl, fun j hj => ?_⟩
    rw [hsat j hj]
    have hj' : j < zs.length := by omega
    have hbj := hb j
    have : l[j] = UInt8.ofNat (gat zs j).toNat := by simp [← h, hgat j hj']
    rw [this, byte_back _ hbj.1 hbj.2]
  · rintro ⟨hl, h⟩
    apply List.ext_getElem (by simpa using hl)
    intro j h1 h2
    have hj' : j < zs.length := by simpa using h1
    have e := h j h2
    rw [hsat j h2, hgat j hj'] at e
    rw [List.getElem_map, e]
    simp

set_option maxRecDepth 100000 in
set_option maxHeartbeats 1000000 in
/-- isJSONAtom, of a literal -/
theorem atom_lit (b off : Nat) (zs : List Int) (cap : Nat) (w : World) (S : ByteArray)
    (hconv : (convert 22 9 (.slice (some ⟨b, off, none⟩) zs.length cap)).run Trym.prog w = .ok (.string S) w)
    (h : (S.toList == [116, 114, 117, 101]) = true ∨ ((S.toList == [116, 114, 117, 101]) = false ∧ (S.toList == [102, 97, 108, 115, 101]) = true) ∨
      ((S.toList == [116, 114, 117, 101]) = false ∧ (S.toList == [102, 97, 108, 115, 101]) = false ∧ (S.toList == [110, 117, 108, 108]) = true)) :
    Calls Trym.prog 21 #[.slice (some ⟨b, off, none⟩) zs.length cap] w fun e w' => e = .returned (.bool true) ∧ w' = w := by
  rcases h with e1 | ⟨e1, e2⟩ | ⟨e1, e2, e3⟩
  all_goals
    go_enter Trym.func21, Trym.ntmps21
    go_wp2
    go_ret
    exact ⟨rfl, rfl⟩

/-- isJSONAtom, of every slice that is not nil -/
theorem atom_full (b off : Nat) (zs : List Int) (cap : Nat) (w : World) (hm : zs.length ≤ 1048576) (hb : Byt zs)
    (hc : ∀ i, i < zs.length → w.cell? ⟨b, off + i, none⟩ = some (.int .u8 (gat zs i))) :
    Calls Trym.prog 21 #[.slice (some ⟨b, off, none⟩) zs.length cap] w fun e w' => e = .returned (.bool (lit zs || auto 0 zs)) ∧ w' = w := by
  have hconv := run_convert_bytes_arg (P := Trym.prog) w 22 5 Trym.underlying22 Trym.underlying5 b off zs.length cap zs rfl hc 9 Trym.underlying9
  have s1 := str_eq zs hb [116, 114, 117, 101]
  have s2 := str_eq zs hb [102, 97, 108, 115, 101]
  have s3 := str_eq zs hb [110, 117, 108, 108]
  rw [← atom_auto]
  unfold lit
  rw [← s1, ← s2, ← s3]
  cases e1 : ((strOfNums zs).toList == [116, 114, 117, 101])
  · cases e2 : ((strOfNums zs).toList == [102, 97, 108, 115, 101])
    · cases e3 : ((strOfNums zs).toList == [110, 117, 108, 108])
      · exact atom_any b off zs cap w _ hm hb hc hconv e1 e2 e3
      · exact atom_lit b off zs cap w _ hconv (.inr (.inr ⟨e1, e2, e3⟩))
    · exact atom_lit b off zs cap w _ hconv (.inr (.inl ⟨e1, e2⟩))
  · exact atom_lit b off zs cap w _ hconv (.inl e1)

set_option maxRecDepth 100000 in
/-- isJSONAtom, of nil -/
theorem atom_nil (w : World) : Calls Trym.prog 21 #[.slice none 0 0] w fun e w' => e = .returned (.bool false) ∧ w' = w := by
  have hconv := fun wx => run_convert_bytes_nil (P := Trym.prog) wx 22 5 Trym.underlying22 Trym.underlying5 0 0 9 Trym.underlying9
  go_enter Trym.func21, Trym.ntmps21
  go_wp2
  go_ret
  exact ⟨rfl, rfl⟩

set_option maxRecDepth 100000 in
/-- the automaton, of nil -/
theorem auto_nil (w : World) : Calls Trym.prog 11 #[.slice none 0 0] w fun e w' => e = .returned (.bool false) ∧ w' = w := by
  go_enter Trym.func11, Trym.ntmps11
  go_wp2
  go_loop [3, 4] (fun s t => s = .int .i64 0 ∧ t = .int .i64 0) (fun _ _ => 0)
  case atStart => exact ⟨rfl, rfl⟩
  case round =>
    obtain ⟨rfl, rfl⟩ := hrel
    go_wp2
    go_ret
    exact ⟨rfl, rfl⟩

/-- cloneBytes_b1, of nil -/
theorem clone_nil (w : World) : Calls Trym.prog 9 #[.slice none 0 0] w fun e w' => e = .returned (.slice none 0 0) ∧ w' = w := by
  have hnil := fun wx a l c => Lib.run_eql_slice_nil (P := Trym.prog) wx 22 5 a l c 0 0 Trym.underlying22
  go_enter Trym.func9, Trym.ntmps9
  go_wp2
  go_ret
  exact ⟨rfl, rfl⟩

/-- cloneBytes_b1, of an empty slice that is not nil -/
theorem clone_empty (x : Addr) (cap : Nat) (w : World) :
    Calls Trym.prog 9 #[.slice (some x) 0 cap] w fun e w' => e = .returned (.slice (some ⟨w.heap.size, 0, none⟩) 0 0) ∧ Below w.heap.size w w' ∧ w.heap.size < w'.heap.size := by
  obtain ⟨i0, hi, hz0, hz1, hz2⟩ := info_parts Trym.info5
  have hnil := fun wx a l c => Lib.run_eql_slice_nil (P := Trym.prog) wx 22 5 a l c 0 0 Trym.underlying22
  go_enter Trym.func9, Trym.ntmps9
  go_wp2_with (at_make; refine wpList_make_full _ rfl _ _ 22 rfl w.heap.size 5 i0 (.int .u8 0) 1 Trym.underlying22 hi hz0 hz1 .i64 .i64 _ _ 0 rfl rfl (by omega) (by omega) (by rw [hz2]; omega) (by unfold maxLen; omega) (Nat.le_refl _) ?_; intro w0 hown0 hgrow0)
  have hbel := (Below.refl w.heap.size w).grown hgrow0 (Nat.le_refl _) (fun k hk => by cases hk)
  have hsz := (hown0.lt w.heap.size rfl).2
  clear hown0 hgrow0 hi hz0 hz1 hz2 hnil
  go_wp2
  go_loop [4] (fun t => t = .int .i64 0) (fun _ => 0)
  case atStart => rfl
  case round =>
    subst hrel
    go_wp2
    go_ret
    exact ⟨rfl, hbel, hsz⟩

end Go.Proofs.Qxb6602935aMods
