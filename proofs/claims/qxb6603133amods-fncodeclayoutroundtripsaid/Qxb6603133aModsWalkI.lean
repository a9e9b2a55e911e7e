import Derived.Test.Qxb6603133aModsWalkE
import Derived.Test.Qxb6603133aModsWalkG
import Derived.Test.Qxb6603133aModsWalkH
namespace Go.Proofs.Qxb6603133aMods
open Go.RowKit

/-- What the encoder holds after k fields. -/
def Enc (wF : World) (fs : List (List Int)) (k : Nat) (wr : World) : Prop :=
  Below wF.heap.size wF wr ∧ ∃ a cap, clen fs k ≤ cap ∧ Cod 0 wF.heap.size a (clen fs k) cap false 0 wr ∧ wr.ownsRow (wF.heap.size + 1) 5 1 (.slice a (clen fs k) cap) (clen fs k) ((cat fs k).map (Value.int .u8))

theorem enc_zero (wF : World) (fs : List (List Int)) : Enc wF fs 0 (wF.alloc (.cells #[.int .i64 0, .slice none 0 0, .bool false, .int .i64 0] 40)) :=
  ⟨(Below.refl _ _).alloc (Nat.le_refl _) _, none, 0, Nat.le_refl _, Cod.new _ _ _ _ _ _ _, World.ownsRow_nil _ _ _ _⟩

/-- A field without bytes: nothing is copied. -/
theorem enc_step0 {wF wr w4 : World} {fs : List (List Int)} {k : Nat} {a' : Option Addr} {cap' : Nat} (hB : Below wF.heap.size wF wr) (hl : (fat fs k).length = 0) (hcap : clen fs k + (fat fs k).length ≤ cap')
    (hcod : Cod 0 wF.heap.size a' (clen fs k + (fat fs k).length) cap' false 0 w4) (hown : w4.ownsRow (wF.heap.size + 1) 5 1 (.slice a' (clen fs k + (fat fs k).length) cap') (clen fs k + (fat fs k).length) ((cat fs k).map (Value.int .u8) ++ List.replicate (fat fs k).length (.int .u8 0)))
    (hb : Below wF.heap.size wr w4) : Enc wF fs (k + 1) w4 := by
  refine ⟨hB.trans hb, a', cap', by rw [clen_succ]; exact hcap, by rw [clen_succ]; exact hcod, ?_⟩
  have he : fat fs k = [] := List.eq_nil_of_length_eq_zero hl
  rw [clen_succ, cat, he, List.append_nil]
  rw [he] at hown
  simpa using hown

/-- A row that is owned, laid open. -/
theorem own_open {w : World} {base e : Nat} {a : Option Addr} {n cap : Nat} {xs : List Value} (h : w.ownsRow base e 1 (.slice a n cap) n xs) (h0 : 0 < n) :
    ∃ g cur, a = some ⟨g, 0, none⟩ ∧ base ≤ g ∧ w.heap[g]? = some (.cells (List.toArray cur) e (0, 0)) ∧ n ≤ cap ∧ cap ≤ maxLen ∧ cur.length = cap ∧ cur.take n = xs := by
  rcases h.2 with ⟨h', hz⟩ | ⟨g, cp, cur, h', hb, hg, h1, h2, h3, h4⟩
  · omega
  · simp only [Value.slice.injEq, true_and] at h'
    obtain ⟨rfl, rfl⟩ := h'
    exact ⟨g, cur.toList, rfl, hb, by simpa using hg, h1, h2, by simpa using h3, by simpa using h4⟩

/-- A field with bytes: behind the copy. -/
theorem enc_step {wF wr w4 w5 : World} {fs : List (List Int)} {k g : Nat} {cap' : Nat} {cur : List Value} (hB : Below wF.heap.size wF wr) (hcap : clen fs k + (fat fs k).length ≤ cap')
    (hcod : Cod 0 wF.heap.size (some ⟨g, 0, none⟩) (clen fs k + (fat fs k).length) cap' false 0 w4)
    (hcur : cur.take (clen fs k + (fat fs k).length) = (cat fs k).map (Value.int .u8) ++ List.replicate (fat fs k).length (.int .u8 0)) (hcl : cur.length = cap') (hcm : cap' ≤ maxLen) (hg : wF.heap.size + 1 ≤ g)
    (hb : Below wF.heap.size wr w4) (h5 : w5.heap[g]? = some (.cells (splice cur (clen fs k) ((fat fs k).map (Value.int .u8))).toArray 5 (0, 0))) (hb5 : Below g w4 w5) : Enc wF fs (k + 1) w5 := by
  have hcodk := hcod.above hb5 (by omega)
  refine ⟨(hB.trans hb).trans (hb5.mono (by omega)), some ⟨g, 0, none⟩, cap', by rw [clen_succ]; exact hcap, by rw [clen_succ]; exact hcodk, ?_⟩
  rw [clen_succ]
  have hl : ((fat fs k).map (Value.int .u8)).length = (fat fs k).length := by simp
  have hck : (cat fs k).length = clen fs k := rfl
  refine ⟨by rw [List.length_map, cat, List.length_append, hck, Nat.mul_one], .inr ⟨g, cap', _, rfl, by omega, h5, hcap, hcm, ?_, ?_⟩⟩
  · rw [List.size_toArray, length_splice _ _ _ (by rw [hl, hcl]; exact hcap), hcl, Nat.mul_one]
  · have htk : cur.take (clen fs k) = (cat fs k).map (Value.int .u8) := by
      have := congrArg (List.take (clen fs k)) hcur
      rw [List.take_take, Nat.min_eq_left (by omega)] at this
      rw [this, List.take_append_of_le_length (by simp [hck])]
      exact List.take_of_length_le (by simp [hck])
    rw [Nat.mul_one]
    show (splice cur (clen fs k) ((fat fs k).map (Value.int .u8))).take _ = _
    unfold splice
    rw [htk, ← List.append_assoc, cat, List.map_append]
    exact List.take_left' (by simp [hck])

/-- A string's bytes as numbers. -/
def tz (s : ByteArray) : List Int := s.data.toList.map fun b => (b.toNat : Int)
theorem tz_length (s : ByteArray) : (tz s).length = s.size := by
  unfold tz; rw [List.length_map, Array.length_toList]; rfl
theorem tz_cells (s : ByteArray) : Lib.strCells s = (tz s).map (Value.int .u8) := by
  unfold Lib.strCells tz; rw [List.map_map]; rfl
theorem tz_back (s : ByteArray) : strOfNums (tz s) = s := by
  apply ByteArray.ext
  apply Array.toList_inj.1
  rw [strOfNums_data]
  unfold tz
  rw [List.map_map]
  conv => rhs; rw [← List.map_id s.data.toList]
  apply List.map_congr_left
  intro x _
  simp

theorem own_rd {w : World} {base : Nat} {a : Option Addr} {n cap : Nat} {zs : List Int} (h : w.ownsRow base 5 1 (.slice a n cap) n (zs.map (Value.int .u8))) : Rd .u8 w a zs := fun h0 => by
  have hn : zs.length = n := by simpa using h.1
  obtain ⟨g, cur, rfl, _, hrow, _, _, hl, htk⟩ := own_open h (by omega)
  refine ⟨g, 0, rfl, (Array.getElem?_eq_some_iff.1 hrow).1, fun i hi => ?_⟩
  rw [Nat.zero_add, h.cellAt i (by omega)]
  simp [hi, gat_at]

theorem field_fit2 (D : Nat) (a : Option Addr) (len cap : Nat) (k : Int) (w : World) (hk0 : 0 ≤ k) (hk : k ≤ len) (hlc : len ≤ cap)
    (c0 : w.cell? ⟨D, 0, none⟩ = some (.int .i64 1)) (c1 : w.cell? ⟨D, 1, none⟩ = some (.slice a len cap))
    (fz : ∀ j, w.frozen? ⟨D, j, none⟩ = false) :
    Calls Trym.prog 15 #[.pointer (some ⟨D, 0, none⟩), .int .i64 k] w fun e w' => e = .returned (.slice a k.toNat cap) ∧ w' = w.setCell ⟨D, 1, none⟩ (.slice (adv a cap k.toNat) (len - k.toNat) (cap - k.toNat)) := by
  by_cases hc : cap = k.toNat
  · have ha : adv a cap k.toNat = a := by unfold adv; rw [if_pos hc]
    rw [ha]
    go_enter Trym.func15, Trym.ntmps15
    go_wp2
    go_ret
    exact ⟨by rw [hc]; rfl, by rw [show cap - k.toNat = 0 by omega]⟩
  · have ha : adv a cap k.toNat = a.map (·.add k.toNat) := by unfold adv; rw [if_neg hc]
    rw [ha]
    go_enter Trym.func15, Trym.ntmps15
    go_wp2
    go_ret
    exact ⟨rfl, rfl⟩

/-- ZZField, decoding, a field that fits, whatever the capacity -/
theorem zfield_fit2 (D : Nat) (a : Option Addr) (len cap k : Nat) (sh : Bool) (sz : Int) (w : World) (hk : k ≤ len) (hlc : len ≤ cap) (h : Cod 1 D a len cap sh sz w) :
    Calls Trym.prog 8 #[.pointer (some ⟨D, 0, none⟩), .int .i64 (k : Int)] w fun e w' => e = .returned (.slice a k cap) ∧ Cod 1 D (adv a cap k) (len - k) (cap - k) sh sz w' ∧ Below D w w' := by
  have HC := field_fit2 D a len cap (k : Int) w (by omega) (by omega) hlc h.c0 h.c1 h.fz
  rw [Int.toNat_natCast] at HC
  have HC' : Hid (Calls Trym.prog 15 #[.pointer (some ⟨D, 0, none⟩), .int .i64 (k : Int)] w fun e w' => e = .returned (.slice a k cap) ∧ w' = w.setCell ⟨D, 1, none⟩ (.slice (adv a cap k) (len - k) (cap - k))) := HC
  have HCod : Hid (Cod 1 D a len cap sh sz w) := h
  clear h HC
  go_enter Trym.func8, Trym.ntmps8
  go_wp2_with (go_at_call 15; refine (HC'.out).mono ?_; rintro e w' ⟨rfl, rfl⟩)
  go_ret
  exact ⟨rfl, HCod.out.set1 _ _ _, (Below.refl D w).setCell (Nat.le_refl _) _⟩

/-- What the decoder holds at place pos. -/
def PosB (pz : List Int) (wP : World) (pos : Nat) (wr : World) : Prop :=
  pos ≤ pz.length ∧ Below wP.heap.size wP wr ∧ ∃ a cap, Rd .u8 wP a (pz.drop pos) ∧ pz.length - pos ≤ cap ∧ Cod 1 wP.heap.size a (pz.length - pos) cap false 0 wr

theorem posB_fit {pz : List Int} {wP wr w4 : World} {pos K cap q : Nat} {a : Option Addr} (hpos : pos ≤ pz.length) (hra : Rd .u8 wP a (pz.drop pos)) (hcap : pz.length - pos ≤ cap) (hK : K ≤ pz.length - pos)
    (hbel : Below wP.heap.size wP wr) (hb4 : Below wP.heap.size wr w4) (hcod : Cod 1 wP.heap.size (adv a cap K) (pz.length - pos - K) (cap - K) false 0 w4) : PosB pz wP (pos + K) (w4.drewN q) := by
  refine ⟨by omega, below_drewN (hbel.trans hb4) _, adv a cap K, cap - K, ?_, by omega, ?_⟩
  · have h := hra.cut cap K (by simpa using hcap)
    rwa [List.drop_drop] at h
  · rw [show pz.length - (pos + K) = pz.length - pos - K by omega]; exact hcod.drewN _

end Go.Proofs.Qxb6603133aMods
