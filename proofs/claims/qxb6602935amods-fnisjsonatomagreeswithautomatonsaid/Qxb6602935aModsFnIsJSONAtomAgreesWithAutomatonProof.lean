/-
  THE SHELL OF A PROOF OF 'Rows.FnIsJSONAtomAgreesWithAutomatonSaid' ('example.com/ripener/ripener/zzlaws_internal_manifest_b1.FnIsJSONAtomAgreesWithAutomaton'), WRITTEN BY PROGRAM (proof-skeleton.mjs, third state) off the guide's own print for that function. Not trusted: Lean checks it.
  The hole is filled. ALL ELSE IS THE GUIDE's OWN WAY (howto/template/XProofs.lean; Derived/Test/ChunkProofs.lean for 'Below') at this function's number and types: leave it.
-/
import Derived.Test.Qxb6602935aModsRows
import Derived.WalkKit
import Derived.ProofKit
import Derived.OpenShut
import Derived.ShutString
import Derived.ChangeOld
import Derived.Below
import Derived.WalkSmall
import Derived.Test.Qxb6602935aModsWalkK
namespace Go.Proofs.Qxb6602935aMods.fnIsJSONAtomAgreesWithAutomaton
open Go.ChangeShapes Go.WideShapes Go.ChangeAt Go.RowKit
open Go.ChangeMaps (open_string shut_string)
set_option linter.unusedVariables false

theorem own : ownKnob Trym.prog.godebug = none := by kernel_rfl
theorem laidOut : laidOutB Trym.prog = true := by kernel_rfl

/-- WHAT THE WALK IS TOLD OF A SLICE OF INTEGERS THAT CAME IN: it is nil; or it leads to a row of 'cap' cells, the numbers 'zs' (the first 'len' are its elements, the rest its spare room), each fitting its kind. -/
def IsRow (k : IntKind) (w : World) (a : Option Addr) (len cap : Nat) (zs : List Int) : Prop :=
  (a = none ∧ len = 0 ∧ cap = 0 ∧ zs = []) ∨
  ∃ x, a = some x ∧ len ≤ cap ∧ cap ≤ maxLen ∧ zs.length = cap ∧ (∀ i, i < zs.length → w.cell? (x.add i) = some (.int k (zs.getD i 0))) ∧ ∀ n ∈ zs, (Lit.int k n).wf = true

/-! ### STEP 1: THE WALK -/
set_option maxRecDepth 100000 in
theorem walk_nil (w : World) :
    Calls Trym.prog 3 #[.slice none 0 0] w fun e w' => e = .returned (.bool true) ∧ Below w.heap.size w w' := by
  go_enter Trym.func3, Trym.ntmps3
  go_wp2_with (first
    | (go_at_call 9; refine (clone_nil _).mono ?_; rintro e w' ⟨rfl, rfl⟩)
    | (go_at_call 21; refine (atom_nil _).mono ?_; rintro e w' ⟨rfl, rfl⟩)
    | (go_at_call 11; refine (auto_nil _).mono ?_; rintro e w' ⟨rfl, rfl⟩)
    | go_in)
  go_ret
  exact ⟨rfl, Below.refl _ _⟩

set_option maxRecDepth 100000 in
theorem walk_long (a : Option Addr) (len cap : Nat) (w : World) (h : 1048576 < len) (hm : len ≤ maxLen) :
    Calls Trym.prog 3 #[.slice a len cap] w fun e w' => e = .returned (.bool true) ∧ Below w.heap.size w w' := by
  unfold maxLen at hm
  go_enter Trym.func3, Trym.ntmps3
  go_wp2
  go_ret
  exact ⟨rfl, Below.refl _ _⟩

set_option maxRecDepth 100000 in
theorem walk_zero (x : Addr) (cap : Nat) (w : World) :
    Calls Trym.prog 3 #[.slice (some x) 0 cap] w fun e w' => e = .returned (.bool true) ∧ Below w.heap.size w w' := by
  have hB : Byt [] := fun i => by simp [gat]
  have HB : Hid (Byt []) := hB
  clear hB
  go_enter Trym.func3, Trym.ntmps3
  go_wp2_with (first
    | (go_at_call 9; refine (clone_empty x cap _).mono ?_; rintro e w1 ⟨rfl, hbel, hsz⟩)
    | (go_at_call 21; refine (atom_full w.heap.size 0 [] 0 _ (by simp) HB.out (fun i hi => absurd hi (by simp))).mono ?_; rintro e w' ⟨rfl, rfl⟩)
    | (go_at_call 11; refine (auto_any w.heap.size 0 [] 0 _ (by simp) HB.out (fun i hi => absurd hi (by simp))).mono ?_; rintro e w' ⟨rfl, q, rfl⟩)
    | go_in)
  go_ret
  exact ⟨ret_bool (by simp), below_drewN hbel _⟩

set_option maxRecDepth 100000 in
theorem walk_some (b off : Nat) (zs : List Int) (cap : Nat) (w : World) (hm : zs.length ≤ 1048576) (hbw : b < w.heap.size) (hb : Byt zs)
    (hc : ∀ i, i < zs.length → w.cell? ⟨b, off + i, none⟩ = some (.int .u8 (gat zs i))) :
    Calls Trym.prog 3 #[.slice (some ⟨b, off, none⟩) zs.length cap] w fun e w' => e = .returned (.bool true) ∧ Below w.heap.size w w' := by
  have HB : Hid (Byt zs) := hb
  clear hb
  have HC : Hid (∀ i, i < zs.length → w.cell? ⟨b, off + i, none⟩ = some (.int .u8 (gat zs i))) := hc
  clear hc
  go_enter Trym.func3, Trym.ntmps3
  go_wp2_with (first
    | (go_at_call 9; refine (clone_any b off zs cap _ hm hbw HB.out HC.out).mono ?_; rintro e w1 ⟨rfl, hbel, hsz, hc1⟩; have HC1 : Hid (∀ j, j < zs.length → w1.cell? ⟨w.heap.size, 0 + j, none⟩ = some (.int .u8 (gat zs j))) := hc1; clear hc1)
    | (go_at_call 21; refine (atom_full w.heap.size 0 zs zs.length _ hm HB.out HC1.out).mono ?_; rintro e w' ⟨rfl, rfl⟩)
    | (go_at_call 11; refine (auto_any w.heap.size 0 zs zs.length _ hm HB.out HC1.out).mono ?_; rintro e w' ⟨rfl, q, rfl⟩)
    | go_in)
  go_ret
  exact ⟨ret_bool (by simp), below_drewN hbel _⟩

theorem walk (a0 : Option Addr) (len0 cap0 : Nat) (z0 : List Int) (w : World) (w0 : IsRow .u8 w a0 len0 cap0 z0) :
    Calls Trym.prog 3 #[.slice a0 len0 cap0] w fun e w' => e = .returned (.bool true) ∧ Below w.heap.size w w' := by
  rcases w0 with ⟨rfl, rfl, rfl, rfl⟩ | ⟨x, rfl, hle, hcm, hz, hcell, hwf⟩
  · exact walk_nil w
  · by_cases hlong : 1048576 < len0
    · exact walk_long _ _ _ w hlong (by omega)
    · by_cases hzero : len0 = 0
      · subst hzero
        exact walk_zero x cap0 w
      · obtain ⟨b, off, rfl, hc⟩ := ints_at hcell (by omega)
        have hlen : (z0.take len0).length = len0 := by simp; omega
        have hg : ∀ i, i < len0 → gat (z0.take len0) i = z0.getD i 0 := fun i hi => by simp [gat, hi]
        have hby : Byt (z0.take len0) := by
          intro i
          by_cases hi : i < len0
          · rw [hg i hi]
            have hi' : i < z0.length := by omega
            have hmem : z0.getD i 0 ∈ z0 := by simp [hi']
            exact bounds_u8 (hwf _ hmem)
          · simp [gat, List.getElem?_take, hi]
        have hbw : b < w.heap.size := by
          have h0 := hc 0 (by omega)
          exact World.block_lt_of_cell? w ⟨b, off + 0, none⟩ h0
        have h := walk_some b off (z0.take len0) cap0 w (by omega) hbw hby (fun i hi => by
          rw [hlen] at hi
          rw [hg i hi]
          exact hc i (by omega))
        rw [hlen] at h
        exact h

/-! ### THE ROW's STEP: WRITTEN OUT: LEAVE IT -/
set_option maxRecDepth 100000 in
theorem lifted (os : Os) (started : os.Started) (H : Type) (enc : TypeId × Value → H) :
    ReturnsInHanded {} Trym.checked os 3 .any (Rows.fnIsJSONAtomAgreesWithAutomatonSpec.pre6 enc Trym.prog Trym.f3 Rows.fnIsJSONAtomAgreesWithAutomatonRow.domain false) (Rows.fnIsJSONAtomAgreesWithAutomatonSpec.post enc Trym.prog Trym.f3 false true false false) := by
  refine returnsInHanded_of_change (C := Trym.checked) own started (by kernel_rfl) Trym.func3
    (ChangeSpec.witness6 (enc := enc) (C := Trym.checked) false ⟨#[], #[.slice none 0 0], []⟩ 8 (by kernel_rfl) (by kernel_rfl) (by kernel_rfl) (by kernel_rfl)) ?_
  intro W base args ds gs before hval0 hW hcnd _
  have hval : ∀ (j : Nat) t v, Trym.f3.params[j]? = some t → args[j]? = some v → Value.okWide Trym.prog W .any base t v := hval0
  have hW' := hW
  obtain ⟨p, q, hA0, hV, rfl, hfz, hnd⟩ := hW
  have hA : DataW.TrodAll enc Trym.prog W 0 (fun _ => true) true Trym.f3.params.toList args.toList ds p := hA0
  rw [Trym.params3] at hA hval
  obtain ⟨v0, vs0, d0, ds0, p0, q0, hargs, rfl, rfl, h0, r0⟩ := trodAll_cons hA
  obtain ⟨rfl, rfl, rfl⟩ := trodAll_nil r0
  obtain rfl : args = #[v0] := by cases args; simp_all
  obtain ⟨rfl, rfl⟩ := trodVars_none hV
  obtain ⟨a0, len0, cap0, rfl⟩ := okWide_slice Trym.underlying22 (hval 0 22 v0 rfl rfl)
  have k0 := h0
  have lt0 : ∀ x ∈ p0, x.block < W.heap.size := by obtain ⟨m, hm⟩ := k0; exact DataW.trod_lt m _ _ _ hm
  obtain ⟨z0, w0⟩ : ∃ zs, IsRow .u8 W a0 len0 cap0 zs := by
    obtain ⟨fuel, hf⟩ := h0
    rcases open_ints Trym.underlying22 Trym.underlying5 (by kernel_rfl) hf with ⟨hcs, _⟩ | ⟨x, l, c, zs, hcs, _, hl, hm, hz, _, hcell, hwz⟩
    · simp [Value.cells] at hcs
      obtain ⟨rfl, rfl, rfl⟩ := hcs
      exact ⟨[], .inl ⟨rfl, rfl, rfl, rfl⟩⟩
    · simp [Value.cells] at hcs
      obtain ⟨rfl, rfl, rfl⟩ := hcs
      exact ⟨zs, .inr ⟨_, rfl, hl, hm, by simpa using hz, hcell, hwz⟩⟩
  clear hA0 hval0
  refine (walk a0 len0 cap0 z0 W w0).mono fun e W' ⟨he, bel⟩ => ?_
  subst he
  exact ⟨_, rfl, _, _, _, [], _, [], hW', trodAll_mk1 (shut_bool Trym.underlying4 _), (trodAll_cons_mk (Below.trod laidOut (by kernel_rfl) (of_decide_eq_true (by kernel_rfl)) k0 bel lt0) trodAll_mk0), rfl, bel.frame _, fun h => by cases h⟩

theorem over : Rows.fnIsJSONAtomAgreesWithAutomatonRow.holds Trym.pinned (OpenSpec.ofChange Rows.fnIsJSONAtomAgreesWithAutomatonSpec) :=
  OpenClaim.holds_of_wide 3 Trym.f3 rfl rfl rfl rfl rfl rfl rfl ⟨rfl, rfl, rfl, rfl, rfl⟩ rfl rfl rfl rfl rfl (by kernel_rfl) Trym.func3 (by kernel_rfl)
    (of_decide_eq_true (by kernel_rfl)) (by unfold Func.isWrapper; first | (rw [if_pos (by decide +kernel)]; kernel_rfl) | (rw [if_neg (by decide +kernel)]; exact ⟨rfl, rfl⟩))
    (fun os started H enc _ => lifted os started H enc)

/-- ████ THE STATEMENT ████ -/
theorem proved : Rows.FnIsJSONAtomAgreesWithAutomatonSaid := over
end Go.Proofs.Qxb6602935aMods.fnIsJSONAtomAgreesWithAutomaton
