/-
  A PROOF OF 'Rows.FnCodecLayoutRoundTripSaid'. The frame after the shell of this seat's other statement; the first argument ([][]byte) opened by the kit's 'open_int_rows'.
-/
import Derived.Test.Qxb6603133aModsRows
import Derived.WalkKit
import Derived.ProofKit
import Derived.OpenShut
import Derived.ShutString
import Derived.ChangeOld
import Derived.Below
import Derived.Deep.Matrix
import Derived.Test.Qxb6603133aModsWalkJ
namespace Go.Proofs.Qxb6603133aMods.fnCodecLayoutRoundTrip
open Go.ChangeShapes Go.WideShapes Go.ChangeAt Go.RowKit
open Go.ChangeMaps (open_string shut_string)
set_option linter.unusedVariables false

theorem own : ownKnob Trym.prog.godebug = none := by kernel_rfl
theorem laidOut : laidOutB Trym.prog = true := by kernel_rfl
theorem cells24 : Trym.prog.cellsOf 24 = 1 := by kernel_rfl
theorem cells5 : Trym.prog.cellsOf 5 = 1 := by kernel_rfl

/-- What the walk is told of the [][]byte that came in. -/
def IsRows (w : World) (a : Option Addr) (len cap : Nat) : Prop :=
  ∃ fs : List (List Int), fs.length = len ∧ len ≤ maxLen ∧ (a = none → fs = [] ∧ cap = 0) ∧ (∀ i, i < fs.length → (fat fs i).length ≤ maxLen) ∧ RdF w a fs

theorem rows_of {w : World} {x : Addr} {len cap : Nat} {A : Nat → Option Addr} {L C : Nat → Nat} {Z : Nat → List Int} (hl : len ≤ cap) (hm : cap ≤ maxLen)
    (h : ∀ r, r < cap → w.cell? (x.add r) = some (.slice (A r) (L r) (C r)) ∧ L r ≤ C r ∧ C r ≤ maxLen ∧ (Z r).length = C r ∧ (∀ n ∈ Z r, (Lit.int .u8 n).wf = true) ∧ (A r = none → C r = 0) ∧
      ∀ a', A r = some a' → 0 ≤ a'.block ∧ ∀ c, c < C r → w.cell? (a'.add c) = some (.int .u8 ((Z r).getD c 0))) : IsRows w (some x) len cap := by
  have hfl : ((List.range len).map fun r => (Z r).take (L r)).length = len := by simp
  have hfat : ∀ i, i < len → fat ((List.range len).map fun r => (Z r).take (L r)) i = (Z i).take (L i) := fun i hi => by simp [fat, hi]
  have hfatl : ∀ i, i < len → (fat ((List.range len).map fun r => (Z r).take (L r)) i).length = L i := fun i hi => by
    rw [hfat i hi, List.length_take]
    obtain ⟨_, h2, _, h4, _⟩ := h i (by omega)
    omega
  refine ⟨(List.range len).map fun r => (Z r).take (L r), hfl, by omega, (fun e => by cases e), fun i hi => ?_, fun h0 => ?_⟩
  · rw [hfl] at hi
    rw [hfatl i hi]
    obtain ⟨_, h2, h3, _⟩ := h i (by omega)
    omega
  · rw [hfl] at h0
    obtain ⟨b, off, spot⟩ := x
    have hspot : spot = none := by simpa [Addr.add] using World.cell?_spot (h 0 (by omega)).1
    subst hspot
    have hcell : ∀ r, r < cap → w.cell? ⟨b, off + r, none⟩ = some (.slice (A r) (L r) (C r)) := fun r hr => by rw [← add_plain]; exact (h r hr).1
    refine ⟨b, off, rfl, World.block_lt_of_cell? w ⟨b, off + 0, none⟩ (hcell 0 (by omega)), fun i hi => ?_⟩
    rw [hfl] at hi
    obtain ⟨_, h2, h3, h4, h5, h6, h7⟩ := h i (by omega)
    refine ⟨A i, C i, by rw [hfatl i hi]; exact hcell i (by omega), fun e => ⟨?_, h6 e⟩, fun hp => ?_⟩
    · rw [hfat i hi]
      have : L i = 0 := by have := h6 e; omega
      rw [this, List.take_zero]
    · rw [hfatl i hi] at hp
      cases ha : A i with
      | none => have := h6 ha; omega
      | some a' =>
        obtain ⟨_, hc⟩ := h7 a' ha
        obtain ⟨b2, o2, rfl, hc2⟩ := ints_at (w := w) (a := a') (k := .u8) (zs := Z i) (fun j hj => hc j (by omega)) (by omega)
        refine ⟨b2, o2, rfl, World.block_lt_of_cell? w ⟨b2, o2 + 0, none⟩ (hc2 0 (by omega)), fun j hj => ?_⟩
        rw [hfatl i hi] at hj
        rw [hfat i hi, gat_take _ _ _ hj]
        exact hc2 j (by omega)

theorem walk (a0 : Option Addr) (len0 cap0 : Nat) (s : ByteArray) (w : World) (w0 : IsRows w a0 len0 cap0) (hs : s.size ≤ maxLen) :
    Calls Trym.prog 3 #[.slice a0 len0 cap0, .string s] w fun e w' => e = .returned (.bool true) ∧ Below w.heap.size w w' := by
  obtain ⟨fs, rfl, hm, hn, hl, hr⟩ := w0
  unfold maxLen at hm hl hs
  exact rt_main a0 fs cap0 s w hn (by omega) (fun i hi => by have := hl i hi; omega) (by omega) hr

set_option maxRecDepth 100000 in
theorem lifted (os : Os) (started : os.Started) (H : Type) (enc : TypeId × Value → H) :
    ReturnsInHanded {} Trym.checked os 3 .any (Rows.fnCodecLayoutRoundTripSpec.pre6 enc Trym.prog Trym.f3 Rows.fnCodecLayoutRoundTripRow.domain false) (Rows.fnCodecLayoutRoundTripSpec.post enc Trym.prog Trym.f3 false true false false) := by
  refine returnsInHanded_of_change (C := Trym.checked) own started (by kernel_rfl) Trym.func3
    (ChangeSpec.witness6 (enc := enc) (C := Trym.checked) false ⟨#[], #[.slice none 0 0, .string ByteArray.empty], []⟩ 8 (by kernel_rfl) (by kernel_rfl) (by kernel_rfl) (by kernel_rfl)) ?_
  intro W base args ds gs before hval0 hW hcnd _
  have hval : ∀ (j : Nat) t v, Trym.f3.params[j]? = some t → args[j]? = some v → Value.okWide Trym.prog W .any base t v := hval0
  have hW' := hW
  obtain ⟨p, q, hA0, hV, rfl, hfz, hnd⟩ := hW
  have hA : DataW.TrodAll enc Trym.prog W 0 (fun _ => true) true Trym.f3.params.toList args.toList ds p := hA0
  rw [Trym.params3] at hA hval
  obtain ⟨v0, vs0, d0, ds0, p0, q0, hargs, rfl, rfl, h0, r0⟩ := trodAll_cons hA
  obtain ⟨v1, vs1, d1, ds1, p1, q1, rfl, rfl, rfl, h1, r1⟩ := trodAll_cons r0
  obtain ⟨rfl, rfl, rfl⟩ := trodAll_nil r1
  obtain rfl : args = #[v0, v1] := by cases args; simp_all
  obtain ⟨rfl, rfl⟩ := trodVars_none hV
  obtain ⟨a0, len0, cap0, rfl⟩ := okWide_slice Trym.underlying22 (hval 0 22 v0 rfl rfl)
  have k0 := h0
  have lt0 : ∀ x ∈ p0, x.block < W.heap.size := by obtain ⟨m, hm⟩ := k0; exact DataW.trod_lt m _ _ _ hm
  have w0 : IsRows W a0 len0 cap0 := by
    obtain ⟨fuel, hf⟩ := h0
    rcases Deep.open_int_rows Trym.underlying22 Trym.underlying24 Trym.underlying5 cells24 cells5 hf with ⟨hcs, _⟩ | ⟨x, l, c, A, L, C, Z, hcs, _, hl, hm, _, hrows⟩
    · simp [Value.cells] at hcs
      obtain ⟨rfl, rfl, rfl⟩ := hcs
      exact ⟨[], rfl, Nat.zero_le _, fun _ => ⟨rfl, rfl⟩, fun i hi => absurd hi (by simp), fun h => absurd h (by simp)⟩
    · simp [Value.cells] at hcs
      obtain ⟨rfl, rfl, rfl⟩ := hcs
      exact rows_of hl hm hrows
  obtain ⟨s, rfl, rfl, rfl, hs⟩ := open_string Trym.underlying9 (hval 1 9 v1 rfl rfl) h1
  clear hA0 hval0
  refine (walk a0 len0 cap0 s W w0 hs).mono fun e W' ⟨he, bel⟩ => ?_
  subst he
  exact ⟨_, rfl, _, _, _, [], _, [], hW', trodAll_mk1 (shut_bool Trym.underlying4 _), (trodAll_cons_mk (Below.trod laidOut (by kernel_rfl) (of_decide_eq_true (by kernel_rfl)) k0 bel lt0) (trodAll_cons_mk (shut_string Trym.underlying9 hs) trodAll_mk0)), rfl, bel.frame _, fun h => by cases h⟩

theorem over : Rows.fnCodecLayoutRoundTripRow.holds Trym.pinned (OpenSpec.ofChange Rows.fnCodecLayoutRoundTripSpec) :=
  OpenClaim.holds_of_wide 3 Trym.f3 rfl rfl rfl rfl rfl rfl rfl ⟨rfl, rfl, rfl, rfl, rfl⟩ rfl rfl rfl rfl rfl (by kernel_rfl) Trym.func3 (by kernel_rfl)
    (of_decide_eq_true (by kernel_rfl)) (by unfold Func.isWrapper; first | (rw [if_pos (by decide +kernel)]; kernel_rfl) | (rw [if_neg (by decide +kernel)]; exact ⟨rfl, rfl⟩))
    (fun os started H enc _ => lifted os started H enc)

/-- THE STATEMENT -/
theorem proved : Rows.FnCodecLayoutRoundTripSaid := over
end Go.Proofs.Qxb6603133aMods.fnCodecLayoutRoundTrip
