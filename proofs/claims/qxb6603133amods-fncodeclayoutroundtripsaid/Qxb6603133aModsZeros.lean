/- 'append(b, make([]byte, m)...)' OF A VALUE THAT THE CALL OWNS: after the kit's law for a string's bytes. -/
import Derived.Lib.AppendZeros
import Derived.Lib.AppendStr
namespace Go.Proofs.Qxb6603133aMods
open Go

theorem zeroCells_one (n : Nat) : Builtin.zeroCells (Value.int .u8 0).cells n = (List.replicate n (Value.int .u8 0)).toArray := by
  apply Array.ext'
  apply List.ext_getElem
  · simp [Builtin.zeroCells, Value.cells]
  · intro i h1 h2
    simp [Builtin.zeroCells, Value.cells, Nat.mod_one]

theorem zeros_one (n : Nat) : ∀ v ∈ List.replicate n (Value.int .u8 0), v.oneCell' = true := by
  intro v hv
  rw [List.eq_of_mem_replicate hv]
  rfl

section
variable {P : Program} (w : World)

theorem run_append_room_zeros (t tn ty e : TypeId) (i : TypeInfo) (kn : IntKind) (ht : P.underlying t = some (.slice e)) (htn : P.underlying tn = some (.int kn)) (hi : P.info? e = some i) (hz : i.zero = some (.int .u8 0)) (hs1 : i.size = 1) (hby : i.bytes = 1)
    (g sLen sCap : Nat) (cur : Array Value) (hg : w.heap[g]? = some (.cells cur e (0, 0))) (m : Nat) (hm : m ≤ 140737488355328)
    (hroom : sLen + m ≤ sCap) (hfit : sLen + m ≤ cur.size) :
    (Builtin.append_ #[t, tn] ty #[.slice (some ⟨g, 0, none⟩) sLen sCap, .int .i64 m]).run P w =
      .ok (.slice (some ⟨g, 0, none⟩) (sLen + m) sCap) (w.setRow g (cur.toList.take sLen ++ List.replicate m (Value.int .u8 0) ++ cur.toList.drop (sLen + m)).toArray) := by
  have hst := run_storeCells_at P g sLen e (List.replicate m (Value.int .u8 0)) 0 cur w hg (by simpa using hfit) (zeros_one m)
  simp only [Nat.add_zero, List.length_replicate] at hst
  have hw : IntKind.i64.wrap (m : Int) = m := by rw [IntKind.wrap_i64]; omega
  have h48i : ¬ (281474976710656 < (m : Int)) := by omega
  have hneg : ¬ ((m : Int) < 0) := by omega
  by_cases h0 : m = 0
  · subst h0
    have hw0 : IntKind.i64.wrap 0 = 0 := by decide
    have hroom' : sLen ≤ sCap := by omega
    have hself : w.setRow g cur = w := setRow_self w g cur e (0, 0) hg
    have hst' : (storeCells ⟨g, sLen, none⟩ []).run P w = .ok () w := rfl
    simp [Builtin.append_, run_underlying ht, run_underlying htn, sizeOf, typeInfo, hi, hs1, hby, asInt, asIntOf, hw0, hroom', Addr.add_lit, hself, hst']
  · simp [Builtin.append_, run_underlying ht, run_underlying htn, sizeOf, typeInfo, zeroValue, hi, hz, hs1, hby, asInt, asIntOf, hw, h0, hneg, h48i, hroom, Addr.add_lit, zeroCells_one, hst]

theorem run_append_grow_zeros (t tn ty e : TypeId) (i : TypeInfo) (kn : IntKind) (ht : P.underlying t = some (.slice e)) (htn : P.underlying tn = some (.int kn)) (hi : P.info? e = some i) (hz : i.zero = some (.int .u8 0)) (hs1 : i.size = 1) (hby : i.bytes = 1)
    (b : Addr) (sLen sCap : Nat) (olds : List Value) (hlo : olds.length = sLen) (holds : ∀ j v, olds[j]? = some v → w.cell? (b.add j) = some v) (m : Nat)
    (hg : sCap < sLen + m) (h0 : 0 < m) (hbd : sLen + m ≤ 140737488355328) :
    (Builtin.append_ #[t, tn] ty #[.slice (some b) sLen sCap, .int .i64 m]).run P w =
      .ok (.slice (some ⟨w.heap.size, 0, none⟩) (sLen + m) (grownCap w (sLen + m) sCap e))
        (w.drew.alloc (.cells (olds.toArray ++ (List.replicate m (Value.int .u8 0)).toArray ++ Builtin.zeroCells (Value.int .u8 0).cells (grownCap w (sLen + m) sCap e - (sLen + m))) e)) := by
  have hn : ¬ (sLen + m ≤ sCap) := by omega
  have h63' : ¬ (9223372036854775807 < ((sLen : Int) + (m : Int))) := by omega
  have h48' : ¬ (281474976710656 < Builtin.nextslicecap (sLen + m) sCap) := by
    have := growslice_fits (need := sLen + m) (old := sCap) (bytes := 1) (by omega) (by omega)
    omega
  have hfo := run_firstCells_some (P := P) w.drew 1 sLen b sLen sCap olds (by simpa using hlo) (by simpa using holds)
  have hw : IntKind.i64.wrap (m : Int) = m := by rw [IntKind.wrap_i64]; omega
  have h48i : ¬ (281474976710656 < (m : Int)) := by omega
  have hneg : ¬ ((m : Int) < 0) := by omega
  have hm0 : m ≠ 0 := by omega
  simp [Builtin.append_, run_underlying ht, run_underlying htn, sizeOf, typeInfo, zeroValue, hi, hz, hs1, hby, asInt, asIntOf, hw, hm0, hneg, h48i, hn, h63', h48', Question.forced, hfo, newRow, grownCap, zeroCells_one]

/-- THE LAW: appending m zero bytes to a value that owns xs. -/
theorem run_append_own_zeros (base : Nat) (t tn ty e : TypeId) (i : TypeInfo) (kn : IntKind) (ht : P.underlying t = some (.slice e)) (htn : P.underlying tn = some (.int kn)) (hi : P.info? e = some i) (hz : i.zero = some (.int .u8 0)) (hs1 : i.size = 1) (hby : i.bytes = 1)
    (v : Value) (n : Nat) (xs : List Value) (hown : w.ownsRow base e 1 v n xs) (m : Nat) (hbd : n + m ≤ 140737488355328) (hbase : base ≤ w.heap.size) :
    ∃ v' w', (Builtin.append_ #[t, tn] ty #[v, .int .i64 m]).run P w = .ok v' w' ∧ w'.ownsRow base e 1 v' (n + m) (xs ++ List.replicate m (Value.int .u8 0)) ∧ w.grownBy w' v.ownBlock := by
  have h63 : n + m ≤ maxLen := by unfold maxLen; omega
  have hxl : xs.length = n := by simpa using hown.1
  have hlen : (xs ++ List.replicate m (Value.int .u8 0)).length = (n + m) * 1 := by rw [List.length_append, hxl, List.length_replicate, Nat.mul_one]
  have grown : ∀ (old : Nat), old < n + m → ∀ (row : Option Nat),
      (w.drew.alloc (.cells (xs.toArray ++ (List.replicate m (Value.int .u8 0)).toArray ++ Builtin.zeroCells (Value.int .u8 0).cells (grownCap w (n + m) old e - (n + m))) e)).ownsRow base e 1
        (.slice (some ⟨w.heap.size, 0, none⟩) (n + m) (grownCap w (n + m) old e)) (n + m) (xs ++ List.replicate m (Value.int .u8 0)) ∧
      w.grownBy (w.drew.alloc (.cells (xs.toArray ++ (List.replicate m (Value.int .u8 0)).toArray ++ Builtin.zeroCells (Value.int .u8 0).cells (grownCap w (n + m) old e - (n + m))) e)) row := by
    intro old ho row
    have hge := grownCap_ge w (n + m) old e
    have hcm : grownCap w (n + m) old e ≤ maxLen := grownCap_le_maxLen w (n + m) old e h63
    refine ⟨⟨hlen, .inr ⟨w.heap.size, _, _, rfl, hbase, heap_alloc_new w.drew _, hge, hcm, ?_, ?_⟩⟩, ⟨rfl, rfl, rfl, by simp, fun k hk _ => heap_alloc_old w.drew _ k hk⟩⟩
    · have hz1 : (Value.int IntKind.u8 0).cells.size = 1 := rfl
      simp only [Array.size_append, List.size_toArray, size_zeroCells, hz1, hxl, List.length_replicate]
      omega
    · simp only [Array.toList_append, List.append_assoc]
      rw [← List.append_assoc, ← hlen]
      exact List.take_left
  rcases hown.2 with ⟨rfl, rfl⟩ | ⟨g, cap, cur, rfl, hbg, hg, hnc, hcm, hcs, htake⟩
  · have hx : xs = [] := List.eq_nil_of_length_eq_zero hxl
    subst hx
    by_cases hm : m = 0
    · subst hm
      refine ⟨.slice none 0 0, w, ?_, World.ownsRow_nil w base e 1, ⟨rfl, rfl, rfl, Nat.le_refl _, fun _ _ _ => rfl⟩⟩
      have hw0 : IntKind.i64.wrap 0 = 0 := by decide
      simp [Builtin.append_, run_underlying ht, run_underlying htn, sizeOf, typeInfo, hi, hby, asInt, asIntOf, hw0]
    · have hr := Lib.run_append_nil_zeros (P := P) w t tn ty e i (.int .u8 0) .i64 kn ht htn hi hz m (by omega) (by omega) (by omega) (by rw [hby]; omega)
      have hgr := grown 0 (by omega) (Value.ownBlock (.slice none 0 0))
      simp only [Nat.zero_add, List.nil_append, Array.empty_append] at hgr ⊢
      rw [zeroCells_one] at hr
      exact ⟨_, _, hr, hgr.1, hgr.2⟩
  · by_cases hroom : n + m ≤ cap
    · have hcs' : cur.size = cap := by simpa using hcs
      have hr := run_append_room_zeros (P := P) w t tn ty e i kn ht htn hi hz hs1 hby g n cap cur hg m (by omega) hroom (by omega)
      refine ⟨_, _, hr, ⟨hlen, .inr ⟨g, cap, _, rfl, hbg, setRow_heap w g cur _ e _ hg, hroom, hcm, ?_, ?_⟩⟩, ⟨rfl, rfl, rfl, by simp, fun k _ hk => setRow_other w g k _ (fun e => hk (by simp [Value.ownBlock, e]))⟩⟩
      · simp only [List.size_toArray, List.length_append, List.length_take, List.length_drop, Array.length_toList, List.length_replicate]
        omega
      · have ht' : cur.toList.take n = xs := by simpa using htake
        rw [ht', ← hlen]
        exact List.take_left
    · have holds : ∀ j u, xs[j]? = some u → w.cell? ((⟨g, 0, none⟩ : Addr).add j) = some u := hown.cells (g := g) rfl
      have hr := run_append_grow_zeros (P := P) w t tn ty e i kn ht htn hi hz hs1 hby ⟨g, 0, none⟩ n cap xs hxl holds m (by omega) (by omega) (by omega)
      have hgr := grown cap (by omega) (Value.ownBlock (.slice (some ⟨g, 0, none⟩) n cap))
      exact ⟨_, _, hr, hgr.1, hgr.2⟩

end
end Go.Proofs.Qxb6603133aMods
