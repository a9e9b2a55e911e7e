/-
  THE SHELL OF A PROOF OF 'Rows.FnReadsAlikeMatchesCodePointModelSaid' ('example.com/ripener/ripener/zzlaws_internal_manifest_b1.FnReadsAlikeMatchesCodePointModel'), WRITTEN BY PROGRAM (proof-skeleton.mjs, third state) off the guide's own print for that function. Not trusted: Lean checks it.
  The hole is filled. ALL ELSE IS THE GUIDE's OWN WAY (howto/template/XProofs.lean; Derived/Test/ChunkProofs.lean for 'Below') at this function's number and types: leave it.
-/
import Derived.Test.Qxb6602935aModsRows
import Derived.WalkKit
import Derived.ProofKit
import Derived.OpenShut
import Derived.ShutString
import Derived.ChangeOld
import Derived.Below
import Derived.WalkSmall
import Derived.Test.Qxb6602935aModsWalkC
import Derived.Test.Qxb6602935aModsWalkM
import Derived.Test.Qxb6602935aModsWalkR
namespace Go.Proofs.Qxb6602935aMods.fnReadsAlikeMatchesCodePointModel
open Go.ChangeShapes Go.WideShapes Go.ChangeAt Go.RowKit
open Go.ChangeMaps (open_string shut_string)
set_option linter.unusedVariables false

theorem own : ownKnob Trym.prog.godebug = none := by kernel_rfl
theorem laidOut : laidOutB Trym.prog = true := by kernel_rfl

/-- WHAT THE WALK IS TOLD OF A SLICE OF INTEGERS THAT CAME IN: it is nil; or it leads to a row of 'cap' cells, the numbers 'zs' (the first 'len' are its elements, the rest its spare room), each fitting its kind. -/
def IsRow (k : IntKind) (w : World) (a : Option Addr) (len cap : Nat) (zs : List Int) : Prop :=
  (a = none ∧ len = 0 ∧ cap = 0 ∧ zs = []) ∨
  ∃ x, a = some x ∧ len ≤ cap ∧ cap ≤ maxLen ∧ zs.length = cap ∧ (∀ i, i < zs.length → w.cell? (x.add i) = some (.int k (zs.getD i 0))) ∧ ∀ n ∈ zs, (Lit.int k n).wf = true

/-! ### STEP 1: THE WALK -/
theorem clone_nil (w : World) : Calls Trym.prog 9 #[.slice none 0 0] w fun e w' => e = .returned (.slice none 0 0) ∧ w' = w := by
  have hnil := fun wx a l c => Lib.run_eql_slice_nil (P := Trym.prog) wx 22 5 a l c 0 0 Trym.underlying22
  go_enter Trym.func9, Trym.ntmps9
  go_wp2
  go_ret
  exact ⟨rfl, rfl⟩

/-- cloneBytes_b1, of an empty slice that is not nil -/
theorem clone_empty (x : Addr) (cap : Nat) (w : World) :
    Calls Trym.prog 9 #[.slice (some x) 0 cap] w fun e w' => e = .returned (.slice (some ⟨w.heap.size, 0, none⟩) 0 0) ∧ Below w.heap.size w w' ∧ w.heap.size < w'.heap.size := by
  obtain ⟨i0, hi, hz0, hz1, hz2⟩ := info_parts Trym.info5
  have hnil := fun wx a l c => Lib.run_eql_slice_nil (P := Trym.prog) wx 22 5 a l c 0 0 Trym.underlying22
  go_enter Trym.func9, Trym.ntmps9
  go_wp2_with (at_make; refine wpList_make_full _ rfl _ _ 22 rfl w.heap.size 5 i0 (.int .u8 0) 1 Trym.underlying22 hi hz0 hz1 .i64 .i64 _ _ 0 rfl rfl (by omega) (by omega) (by rw [hz2]; omega) (by unfold maxLen; omega) (Nat.le_refl _) ?_; intro w0 hown0 hgrow0)
  have hbel := (Below.refl w.heap.size w).grown hgrow0 (Nat.le_refl _) (fun k hk => by cases hk)
  have hsz := (hown0.lt w.heap.size rfl).2
  clear hown0 hgrow0 hi hz0 hz1 hz2 hnil
  go_wp2
  go_loop [4] (fun t => t = .int .i64 0) (fun _ => 0)
  case atStart => rfl
  case round =>
    subst hrel
    go_wp2
    go_ret
    exact ⟨rfl, hbel, hsz⟩

set_option maxRecDepth 100000 in
theorem dom_nil (w : World) : Calls Trym.prog 17 #[.slice none 0 0] w fun e w' => e = .returned (.bool true) ∧ w' = w := by
  go_enter Trym.func17, Trym.ntmps17
  go_wp2
  go_loop [3] (fun t => t = .int .i64 0) (fun _ => 0)
  case atStart => rfl
  case round =>
    subst hrel
    go_wp2
    go_ret
    exact ⟨rfl, rfl⟩

set_option maxRecDepth 100000 in
theorem alike_nil (w : World) : Calls Trym.prog 25 #[.slice none 0 0] w fun e w' => e = .returned (.bool true) ∧ w' = w := by
  go_enter Trym.func25, Trym.ntmps25
  go_wp2
  go_loop [3] (fun t => t = .int .i64 0) (fun _ => 0)
  case atStart => rfl
  case round =>
    subst hrel
    go_wp2
    go_ret
    exact ⟨rfl, rfl⟩

set_option maxRecDepth 100000 in
theorem mod_nil (w : World) : Calls Trym.prog 19 #[.slice none 0 0] w fun e w' => e = .returned (.bool true) ∧ w' = w := by
  go_enter Trym.func19, Trym.ntmps19
  go_wp2
  go_loop [3] (fun t => t = .int .i64 0) (fun _ => 0)
  case atStart => rfl
  case round =>
    subst hrel
    go_wp2
    go_ret
    exact ⟨rfl, rfl⟩

set_option maxRecDepth 100000 in
theorem walk_nil (w : World) :
    Calls Trym.prog 6 #[.slice none 0 0] w fun e w' => e = .returned (.bool true) ∧ Below w.heap.size w w' := by
  go_enter Trym.func6, Trym.ntmps6
  go_wp2_with (first
    | (go_at_call 9; refine (clone_nil _).mono ?_; rintro e w' ⟨rfl, rfl⟩)
    | (go_at_call 17; refine (dom_nil _).mono ?_; rintro e w' ⟨rfl, rfl⟩)
    | (go_at_call 25; refine (alike_nil _).mono ?_; rintro e w' ⟨rfl, rfl⟩)
    | (go_at_call 19; refine (mod_nil _).mono ?_; rintro e w' ⟨rfl, rfl⟩)
    | go_in)
  go_ret
  exact ⟨rfl, Below.refl _ _⟩

set_option maxRecDepth 100000 in
theorem walk_long (a : Option Addr) (len cap : Nat) (w : World) (h : 1048576 < len) (hm : len ≤ maxLen) :
    Calls Trym.prog 6 #[.slice a len cap] w fun e w' => e = .returned (.bool true) ∧ Below w.heap.size w w' := by
  unfold maxLen at hm
  go_enter Trym.func6, Trym.ntmps6
  go_wp2
  go_ret
  exact ⟨rfl, Below.refl _ _⟩

set_option maxRecDepth 100000 in
theorem walk_zero (x : Addr) (cap : Nat) (w : World) :
    Calls Trym.prog 6 #[.slice (some x) 0 cap] w fun e w' => e = .returned (.bool true) ∧ Below w.heap.size w w' := by
  have hB : Byt [] := fun i => by simp [gat]
  have HB : Hid (Byt []) := hB
  clear hB
  go_enter Trym.func6, Trym.ntmps6
  go_wp2_with (first
    | (go_at_call 9; refine (clone_empty x cap _).mono ?_; rintro e w1 ⟨rfl, hbel, hsz⟩)
    | (go_at_call 17; refine (dom_any w.heap.size 0 [] 0 _ (by simp) HB.out (fun i hi => absurd hi (by simp))).mono ?_; rintro e w' ⟨rfl, rfl⟩; rw [show domF [] ([] : List Int).length 0 = true from rfl])
    | (go_at_call 25; refine (alike_any w.heap.size 0 [] 0 _ (by simp) HB.out (fun i hi => absurd hi (by simp)) rfl).mono ?_; rintro e w' ⟨rfl, q, rfl⟩)
    | (go_at_call 19; refine (mod_any w.heap.size 0 [] 0 _ (by simp) HB.out (fun i hi => absurd hi (by simp)) rfl).mono ?_; rintro e w' ⟨rfl, q2, rfl⟩)
    | go_in)
  go_ret
  exact ⟨congrArg (fun b => Ending.returned (.bool b)) (by simp), below_drewN hbel _⟩

set_option maxRecDepth 100000 in
theorem walk_some (b off : Nat) (zs : List Int) (cap : Nat) (w : World) (hm : zs.length ≤ 1048576) (hbw : b < w.heap.size) (hb : Byt zs)
    (hc : ∀ i, i < zs.length → w.cell? ⟨b, off + i, none⟩ = some (.int .u8 (gat zs i))) :
    Calls Trym.prog 6 #[.slice (some ⟨b, off, none⟩) zs.length cap] w fun e w' => e = .returned (.bool true) ∧ Below w.heap.size w w' := by
  have HB : Hid (Byt zs) := hb
  clear hb
  have HC : Hid (∀ i, i < zs.length → w.cell? ⟨b, off + i, none⟩ = some (.int .u8 (gat zs i))) := hc
  clear hc
  cases hd : domF zs zs.length 0 with
  | false =>
    have HD : Hid (domF zs zs.length 0 = false) := hd
    clear hd
    go_enter Trym.func6, Trym.ntmps6
    go_wp2_with (first
      | (go_at_call 9; refine (clone_any b off zs cap _ hm hbw HB.out HC.out).mono ?_; rintro e w1 ⟨rfl, hbel, hsz, hc1⟩; have HC1 : Hid (∀ j, j < zs.length → w1.cell? ⟨w.heap.size, 0 + j, none⟩ = some (.int .u8 (gat zs j))) := hc1; clear hc1)
      | (go_at_call 17; refine (dom_any w.heap.size 0 zs zs.length _ hm HB.out HC1.out).mono ?_; rintro e w' ⟨rfl, rfl⟩; rw [HD.out])
      | go_in)
    go_ret
    exact ⟨rfl, hbel⟩
  | true =>
    have HD : Hid (domF zs zs.length 0 = true) := hd
    clear hd
    go_enter Trym.func6, Trym.ntmps6
    go_wp2_with (first
      | (go_at_call 9; refine (clone_any b off zs cap _ hm hbw HB.out HC.out).mono ?_; rintro e w1 ⟨rfl, hbel, hsz, hc1⟩; have HC1 : Hid (∀ j, j < zs.length → w1.cell? ⟨w.heap.size, 0 + j, none⟩ = some (.int .u8 (gat zs j))) := hc1; have HC2 : Hid (∀ q j, j < zs.length → (w1.drewN q).cell? ⟨w.heap.size, 0 + j, none⟩ = some (.int .u8 (gat zs j))) := (fun q j hj => by simpa using hc1 j hj); clear hc1)
      | (go_at_call 17; refine (dom_any w.heap.size 0 zs zs.length _ hm HB.out HC1.out).mono ?_; rintro e w' ⟨rfl, rfl⟩; rw [HD.out])
      | (go_at_call 25; refine (alike_any w.heap.size 0 zs zs.length _ hm HB.out HC1.out HD.out).mono ?_; rintro e w' ⟨rfl, q, rfl⟩)
      | (go_at_call 19; refine (mod_any w.heap.size 0 zs zs.length _ hm HB.out (HC2.out _) HD.out).mono ?_; rintro e w' ⟨rfl, q2, rfl⟩)
      | go_in)
    go_ret
    exact ⟨congrArg (fun b => Ending.returned (.bool b)) (by simp), below_drewN hbel _⟩

theorem walk (a0 : Option Addr) (len0 cap0 : Nat) (z0 : List Int) (w : World) (w0 : IsRow .u8 w a0 len0 cap0 z0) :
    Calls Trym.prog 6 #[.slice a0 len0 cap0] w fun e w' => e = .returned (.bool true) ∧ Below w.heap.size w w' := by
  rcases w0 with ⟨rfl, rfl, rfl, rfl⟩ | ⟨x, rfl, hle, hcm, hz, hcell, hwf⟩
  · exact walk_nil w
  · by_cases hlong : 1048576 < len0
    · exact walk_long _ _ _ w hlong (by omega)
    · by_cases hzero : len0 = 0
      · subst hzero
        exact walk_zero x cap0 w
      · obtain ⟨b, off, rfl, hc⟩ := ints_at hcell (by omega)
        have hlen : (z0.take len0).length = len0 := by simp; omega
        have hg : ∀ i, i < len0 → gat (z0.take len0) i = z0.getD i 0 := fun i hi => by simp [gat, hi]
        have hby : Byt (z0.take len0) := by
          intro i
          by_cases hi : i < len0
          · rw [hg i hi]
            have hi' : i < z0.length := by omega
            have hmem : z0.getD i 0 ∈ z0 := by simp [hi']
            exact bounds_u8 (hwf _ hmem)
          · simp [gat, List.getElem?_take, hi]
        have hbw : b < w.heap.size := by
          have h0 := hc 0 (by omega)
          exact World.block_lt_of_cell? w ⟨b, off + 0, none⟩ h0
        have h := walk_some b off (z0.take len0) cap0 w (by omega) hbw hby (fun i hi => by
          rw [hlen] at hi
          rw [hg i hi]
          exact hc i (by omega))
        rw [hlen] at h
        exact h

/-! ### THE ROW's STEP: WRITTEN OUT: LEAVE IT -/
set_option maxRecDepth 100000 in
theorem lifted (os : Os) (started : os.Started) (H : Type) (enc : TypeId × Value → H) :
    ReturnsInHanded {} Trym.checked os 6 .any (Rows.fnReadsAlikeMatchesCodePointModelSpec.pre6 enc Trym.prog Trym.f6 Rows.fnReadsAlikeMatchesCodePointModelRow.domain false) (Rows.fnReadsAlikeMatchesCodePointModelSpec.post enc Trym.prog Trym.f6 false true false false) := by
  refine returnsInHanded_of_change (C := Trym.checked) own started (by kernel_rfl) Trym.func6
    (ChangeSpec.witness6 (enc := enc) (C := Trym.checked) false ⟨#[], #[.slice none 0 0], []⟩ 8 (by kernel_rfl) (by kernel_rfl) (by kernel_rfl) (by kernel_rfl)) ?_
  intro W base args ds gs before hval0 hW hcnd _
  have hval : ∀ (j : Nat) t v, Trym.f6.params[j]? = some t → args[j]? = some v → Value.okWide Trym.prog W .any base t v := hval0
  have hW' := hW
  obtain ⟨p, q, hA0, hV, rfl, hfz, hnd⟩ := hW
  have hA : DataW.TrodAll enc Trym.prog W 0 (fun _ => true) true Trym.f6.params.toList args.toList ds p := hA0
  rw [Trym.params6] at hA hval
  obtain ⟨v0, vs0, d0, ds0, p0, q0, hargs, rfl, rfl, h0, r0⟩ := trodAll_cons hA
  obtain ⟨rfl, rfl, rfl⟩ := trodAll_nil r0
  obtain rfl : args = #[v0] := by cases args; simp_all
  obtain ⟨rfl, rfl⟩ := trodVars_none hV
  obtain ⟨a0, len0, cap0, rfl⟩ := okWide_slice Trym.underlying22 (hval 0 22 v0 rfl rfl)
  have k0 := h0
  have lt0 : ∀ x ∈ p0, x.block < W.heap.size := by obtain ⟨m, hm⟩ := k0; exact DataW.trod_lt m _ _ _ hm
  obtain ⟨z0, w0⟩ : ∃ zs, IsRow .u8 W a0 len0 cap0 zs := by
    obtain ⟨fuel, hf⟩ := h0
    rcases open_ints Trym.underlying22 Trym.underlying5 (by kernel_rfl) hf with ⟨hcs, _⟩ | ⟨x, l, c, zs, hcs, _, hl, hm, hz, _, hcell, hwz⟩
    · simp [Value.cells] at hcs
      obtain ⟨rfl, rfl, rfl⟩ := hcs
      exact ⟨[], .inl ⟨rfl, rfl, rfl, rfl⟩⟩
    · simp [Value.cells] at hcs
      obtain ⟨rfl, rfl, rfl⟩ := hcs
      exact ⟨zs, .inr ⟨_, rfl, hl, hm, by simpa using hz, hcell, hwz⟩⟩
  clear hA0 hval0
  refine (walk a0 len0 cap0 z0 W w0).mono fun e W' ⟨he, bel⟩ => ?_
  subst he
  exact ⟨_, rfl, _, _, _, [], _, [], hW', trodAll_mk1 (shut_bool Trym.underlying4 _), (trodAll_cons_mk (Below.trod laidOut (by kernel_rfl) (of_decide_eq_true (by kernel_rfl)) k0 bel lt0) trodAll_mk0), rfl, bel.frame _, fun h => by cases h⟩

theorem over : Rows.fnReadsAlikeMatchesCodePointModelRow.holds Trym.pinned (OpenSpec.ofChange Rows.fnReadsAlikeMatchesCodePointModelSpec) :=
  OpenClaim.holds_of_wide 6 Trym.f6 rfl rfl rfl rfl rfl rfl rfl ⟨rfl, rfl, rfl, rfl, rfl⟩ rfl rfl rfl rfl rfl (by kernel_rfl) Trym.func6 (by kernel_rfl)
    (of_decide_eq_true (by kernel_rfl)) (by unfold Func.isWrapper; first | (rw [if_pos (by decide +kernel)]; kernel_rfl) | (rw [if_neg (by decide +kernel)]; exact ⟨rfl, rfl⟩))
    (fun os started H enc _ => lifted os started H enc)

/-- ████ THE STATEMENT ████ -/
theorem proved : Rows.FnReadsAlikeMatchesCodePointModelSaid := over
end Go.Proofs.Qxb6602935aMods.fnReadsAlikeMatchesCodePointModel
