/-
  THE SHELL OF A PROOF OF 'Rows.FnCodecDecodeShortExactlyOnOverrunSaid' ('example.com/quorumlog/quorumlog/zzlaws_replication_b1.FnCodecDecodeShortExactlyOnOverrun'), WRITTEN BY PROGRAM (proof-skeleton.mjs, third state) off the guide's own print for that function. Not trusted: Lean checks it.
  The hole is filled. ALL ELSE IS THE GUIDE's OWN WAY (howto/template/XProofs.lean; Derived/Test/ChunkProofs.lean for 'Below') at this function's number and types: leave it.
-/
import Derived.Test.Qxb6603133aModsRows
import Derived.WalkKit
import Derived.ProofKit
import Derived.OpenShut
import Derived.ShutString
import Derived.ChangeOld
import Derived.Below
import Derived.WalkSmall
import Derived.Test.Qxb6603133aModsWalkE
namespace Go.Proofs.Qxb6603133aMods.fnCodecDecodeShortExactlyOnOverrun
open Go.ChangeShapes Go.WideShapes Go.ChangeAt Go.RowKit
open Go.ChangeMaps (open_string shut_string)
set_option linter.unusedVariables false

theorem own : ownKnob Trym.prog.godebug = none := by kernel_rfl
theorem laidOut : laidOutB Trym.prog = true := by kernel_rfl

/-- WHAT THE WALK IS TOLD OF A SLICE OF INTEGERS THAT CAME IN: it is nil; or it leads to a row of 'cap' cells, the numbers 'zs' (the first 'len' are its elements, the rest its spare room), each fitting its kind. -/
def IsRow (k : IntKind) (w : World) (a : Option Addr) (len cap : Nat) (zs : List Int) : Prop :=
  (a = none ∧ len = 0 ∧ cap = 0 ∧ zs = []) ∨
  ∃ x, a = some x ∧ len ≤ cap ∧ cap ≤ maxLen ∧ zs.length = cap ∧ (∀ i, i < zs.length → w.cell? (x.add i) = some (.int k (zs.getD i 0))) ∧ ∀ n ∈ zs, (Lit.int k n).wf = true

/-! ### STEP 1: THE WALK -/
set_option maxRecDepth 100000 in
set_option maxHeartbeats 1000000 in
theorem walk_long (a0 a1 : Option Addr) (len0 cap0 len1 cap1 : Nat) (w : World) (h : 1048576 < len0 + 8 * len1) (h0 : len0 ≤ maxLen) (h1 : len1 ≤ maxLen) :
    Calls Trym.prog 4 #[.slice a0 len0 cap0, .slice a1 len1 cap1] w fun e w' => e = .returned (.bool true) ∧ Below w.heap.size w w' := by
  unfold maxLen at h0 h1
  by_cases c1 : 1048576 < len0
  · go_enter Trym.func4, Trym.ntmps4
    go_wp2
    go_ret
    exact ⟨rfl, Below.refl _ _⟩
  · by_cases c2 : 1048576 < len1
    · go_enter Trym.func4, Trym.ntmps4
      go_wp2
      go_ret
      exact ⟨rfl, Below.refl _ _⟩
    · by_cases c3 : 1048576 < len0 + len1
      · go_enter Trym.func4, Trym.ntmps4
        go_wp2
        go_ret
        exact ⟨rfl, Below.refl _ _⟩
      · by_cases c4 : 131072 < len1
        · go_enter Trym.func4, Trym.ntmps4
          go_wp2
          go_ret
          exact ⟨rfl, Below.refl _ _⟩
        · go_enter Trym.func4, Trym.ntmps4
          go_wp2
          go_ret
          exact ⟨rfl, Below.refl _ _⟩

theorem take_rd {k : IntKind} {w : World} {a : Option Addr} {len cap : Nat} {z : List Int} (h : IsRow k w a len cap z) :
    (z.take len).length = len ∧ (a = none → z.take len = [] ∧ cap = 0) ∧ Rd k w a (z.take len) ∧ (∀ n ∈ z, (Lit.int k n).wf = true) := by
  rcases h with ⟨rfl, rfl, rfl, rfl⟩ | ⟨x, rfl, hle, hcm, hz, hcell, hwf⟩
  · exact ⟨rfl, fun _ => ⟨rfl, rfl⟩, fun h => absurd h (by simp), fun n hn => absurd hn (by simp)⟩
  · have hlen : (z.take len).length = len := by simp; omega
    refine ⟨hlen, (fun h => by cases h), ?_, hwf⟩
    intro h0
    obtain ⟨b, off, rfl, hc⟩ := ints_at hcell (by omega)
    refine ⟨b, off, rfl, World.block_lt_of_cell? w ⟨b, off + 0, none⟩ (hc 0 (by omega)), fun i hi => ?_⟩
    rw [hlen] at hi
    rw [gat_take _ _ _ hi]
    exact hc i (by omega)

theorem row_len {k : IntKind} {w : World} {a : Option Addr} {len cap : Nat} {z : List Int} (h : IsRow k w a len cap z) : len ≤ maxLen := by
  rcases h with ⟨_, rfl, _, _⟩ | ⟨x, _, hle, hcm, _⟩
  · exact Nat.zero_le _
  · omega

theorem gat_mem {z : List Int} {len : Nat} {P : Int → Prop} (h0 : P 0) (h : ∀ n ∈ z, P n) (i : Nat) : P (gat (z.take len) i) := by
  by_cases hi : i < (z.take len).length
  · rw [gat_at _ _ hi]
    exact h _ (List.mem_of_mem_take (List.getElem_mem hi))
  · have : gat (z.take len) i = 0 := by unfold gat; rw [List.getD_eq_getElem?_getD, List.getElem?_eq_none (by omega)]; rfl
    rw [this]; exact h0

theorem walk (a0 : Option Addr) (len0 cap0 : Nat) (z0 : List Int) (a1 : Option Addr) (len1 cap1 : Nat) (z1 : List Int) (w : World) (w0 : IsRow .u8 w a0 len0 cap0 z0) (w1 : IsRow .i64 w a1 len1 cap1 z1) :
    Calls Trym.prog 4 #[.slice a0 len0 cap0, .slice a1 len1 cap1] w fun e w' => e = .returned (.bool true) ∧ Below w.heap.size w w' := by
  by_cases hlong : 1048576 < len0 + 8 * len1
  · exact walk_long a0 a1 len0 cap0 len1 cap1 w hlong (row_len w0) (row_len w1)
  · obtain ⟨l0, n0, r0, f0⟩ := take_rd w0
    obtain ⟨l1, n1, r1, f1⟩ := take_rd w1
    have hB : Byt (z0.take len0) := fun i => gat_mem (P := fun n => 0 ≤ n ∧ n ≤ 255) (by omega) (fun n hn => bounds_u8 (f0 n hn)) i
    have hI : ∀ i, gat (z1.take len1) i ≤ 9223372036854775807 := fun i => gat_mem (P := fun n => n ≤ 9223372036854775807) (by omega) (fun n hn => (bounds_i64 (f1 n hn)).2) i
    have h := law_main a0 a1 (z0.take len0) (z1.take len1) cap0 cap1 w n0 n1 (by omega) r0 r1 hB hI
    rw [l0, l1] at h
    exact h

/-! ### THE ROW's STEP: WRITTEN OUT: LEAVE IT -/
set_option maxRecDepth 100000 in
theorem lifted (os : Os) (started : os.Started) (H : Type) (enc : TypeId × Value → H) :
    ReturnsInHanded {} Trym.checked os 4 .any (Rows.fnCodecDecodeShortExactlyOnOverrunSpec.pre6 enc Trym.prog Trym.f4 Rows.fnCodecDecodeShortExactlyOnOverrunRow.domain false) (Rows.fnCodecDecodeShortExactlyOnOverrunSpec.post enc Trym.prog Trym.f4 false true false false) := by
  refine returnsInHanded_of_change (C := Trym.checked) own started (by kernel_rfl) Trym.func4
    (ChangeSpec.witness6 (enc := enc) (C := Trym.checked) false ⟨#[], #[.slice none 0 0, .slice none 0 0], []⟩ 8 (by kernel_rfl) (by kernel_rfl) (by kernel_rfl) (by kernel_rfl)) ?_
  intro W base args ds gs before hval0 hW hcnd _
  have hval : ∀ (j : Nat) t v, Trym.f4.params[j]? = some t → args[j]? = some v → Value.okWide Trym.prog W .any base t v := hval0
  have hW' := hW
  obtain ⟨p, q, hA0, hV, rfl, hfz, hnd⟩ := hW
  have hA : DataW.TrodAll enc Trym.prog W 0 (fun _ => true) true Trym.f4.params.toList args.toList ds p := hA0
  rw [Trym.params4] at hA hval
  obtain ⟨v0, vs0, d0, ds0, p0, q0, hargs, rfl, rfl, h0, r0⟩ := trodAll_cons hA
  obtain ⟨v1, vs1, d1, ds1, p1, q1, rfl, rfl, rfl, h1, r1⟩ := trodAll_cons r0
  obtain ⟨rfl, rfl, rfl⟩ := trodAll_nil r1
  obtain rfl : args = #[v0, v1] := by cases args; simp_all
  obtain ⟨rfl, rfl⟩ := trodVars_none hV
  obtain ⟨a0, len0, cap0, rfl⟩ := okWide_slice Trym.underlying24 (hval 0 24 v0 rfl rfl)
  have k0 := h0
  have lt0 : ∀ x ∈ p0, x.block < W.heap.size := by obtain ⟨m, hm⟩ := k0; exact DataW.trod_lt m _ _ _ hm
  obtain ⟨z0, w0⟩ : ∃ zs, IsRow .u8 W a0 len0 cap0 zs := by
    obtain ⟨fuel, hf⟩ := h0
    rcases open_ints Trym.underlying24 Trym.underlying5 (by kernel_rfl) hf with ⟨hcs, _⟩ | ⟨x, l, c, zs, hcs, _, hl, hm, hz, _, hcell, hwz⟩
    · simp [Value.cells] at hcs
      obtain ⟨rfl, rfl, rfl⟩ := hcs
      exact ⟨[], .inl ⟨rfl, rfl, rfl, rfl⟩⟩
    · simp [Value.cells] at hcs
      obtain ⟨rfl, rfl, rfl⟩ := hcs
      exact ⟨zs, .inr ⟨_, rfl, hl, hm, by simpa using hz, hcell, hwz⟩⟩
  obtain ⟨a1, len1, cap1, rfl⟩ := okWide_slice Trym.underlying34 (hval 1 34 v1 rfl rfl)
  have k1 := h1
  have lt1 : ∀ x ∈ p1, x.block < W.heap.size := by obtain ⟨m, hm⟩ := k1; exact DataW.trod_lt m _ _ _ hm
  obtain ⟨z1, w1⟩ : ∃ zs, IsRow .i64 W a1 len1 cap1 zs := by
    obtain ⟨fuel, hf⟩ := h1
    rcases open_ints Trym.underlying34 Trym.underlying3 (by kernel_rfl) hf with ⟨hcs, _⟩ | ⟨x, l, c, zs, hcs, _, hl, hm, hz, _, hcell, hwz⟩
    · simp [Value.cells] at hcs
      obtain ⟨rfl, rfl, rfl⟩ := hcs
      exact ⟨[], .inl ⟨rfl, rfl, rfl, rfl⟩⟩
    · simp [Value.cells] at hcs
      obtain ⟨rfl, rfl, rfl⟩ := hcs
      exact ⟨zs, .inr ⟨_, rfl, hl, hm, by simpa using hz, hcell, hwz⟩⟩
  clear hA0 hval0
  refine (walk a0 len0 cap0 z0 a1 len1 cap1 z1 W w0 w1).mono fun e W' ⟨he, bel⟩ => ?_
  subst he
  exact ⟨_, rfl, _, _, _, [], _, [], hW', trodAll_mk1 (shut_bool Trym.underlying4 _), (trodAll_cons_mk (Below.trod laidOut (by kernel_rfl) (of_decide_eq_true (by kernel_rfl)) k0 bel lt0) (trodAll_cons_mk (Below.trod laidOut (by kernel_rfl) (of_decide_eq_true (by kernel_rfl)) k1 bel lt1) trodAll_mk0)), rfl, bel.frame _, fun h => by cases h⟩

theorem over : Rows.fnCodecDecodeShortExactlyOnOverrunRow.holds Trym.pinned (OpenSpec.ofChange Rows.fnCodecDecodeShortExactlyOnOverrunSpec) :=
  OpenClaim.holds_of_wide 4 Trym.f4 rfl rfl rfl rfl rfl rfl rfl ⟨rfl, rfl, rfl, rfl, rfl⟩ rfl rfl rfl rfl rfl (by kernel_rfl) Trym.func4 (by kernel_rfl)
    (of_decide_eq_true (by kernel_rfl)) (by unfold Func.isWrapper; first | (rw [if_pos (by decide +kernel)]; kernel_rfl) | (rw [if_neg (by decide +kernel)]; exact ⟨rfl, rfl⟩))
    (fun os started H enc _ => lifted os started H enc)

/-- ████ THE STATEMENT ████ -/
theorem proved : Rows.FnCodecDecodeShortExactlyOnOverrunSaid := over
end Go.Proofs.Qxb6603133aMods.fnCodecDecodeShortExactlyOnOverrun
