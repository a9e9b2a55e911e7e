/- Where character n starts; cutting again. -/
import Derived.Test.Qxb6603348aModsPlain
namespace Go.Proofs.Qxb6603348aMods
open Go

/-- The place at which the n-th character from place pos on starts; none: there is none. -/
def offF (s : ByteArray) : Nat → Nat → Nat → Option Nat
  | 0, _, _ => none
  | f + 1, pos, n => if pos < s.size then (if n = 0 then some pos else offF s f (pos + wd s pos) (n - 1)) else none
def fc (s : ByteArray) (n : Nat) : Option Nat := offF s s.size 0 n

theorem off_end {s : ByteArray} {f pos n : Nat} (h : ¬ pos < s.size) : offF s f pos n = none := by
  cases f with
  | zero => rfl
  | succ f => simp [offF, h]
theorem off_here {s : ByteArray} {f pos : Nat} (h : pos < s.size) (hf : s.size - pos ≤ f) : offF s f pos 0 = some pos := by
  obtain ⟨f', rfl⟩ : ∃ f', f = f' + 1 := ⟨f - 1, by omega⟩
  simp [offF, h]
theorem off_go {s : ByteArray} {f pos n : Nat} (h : pos < s.size) (hf : s.size - pos ≤ f) (hn : n ≠ 0) : offF s f pos n = offF s (f - 1) (pos + wd s pos) (n - 1) := by
  obtain ⟨f', rfl⟩ : ∃ f', f = f' + 1 := ⟨f - 1, by omega⟩
  simp [offF, h, hn]

/-- What is found lies in the string, at least n places on. -/
theorem off_bounds {s : ByteArray} : ∀ f pos n off, offF s f pos n = some off → pos + n ≤ off ∧ off < s.size := by
  intro f
  induction f with
  | zero => intro pos n off h; simp [offF] at h
  | succ f ih =>
    intro pos n off h
    unfold offF at h
    split at h
    · rename_i hp
      split at h
      · simp at h; omega
      · have hw := wd_bounds s pos hp
        have := ih _ _ _ h
        omega
    · simp at h

/-- One character more: further on, or none. -/
theorem off_next {s : ByteArray} : ∀ f pos n off, s.size - pos ≤ f → offF s f pos n = some off → ∀ off', offF s f pos (n + 1) = some off' → off < off' := by
  intro f
  induction f with
  | zero => intro pos n off _ h; simp [offF] at h
  | succ f ih =>
    intro pos n off hf h off' h'
    by_cases hp : pos < s.size
    · have hw := wd_bounds s pos hp
      by_cases hn : n = 0
      · subst hn
        rw [off_here hp hf] at h
        rw [off_go hp hf (by omega)] at h'
        have := (off_bounds _ _ _ _ h').1
        simp at h
        omega
      · rw [off_go hp hf hn] at h
        rw [off_go hp hf (by omega)] at h'
        have e : n + 1 - 1 = (n - 1) + 1 := by omega
        rw [e] at h'
        exact ih _ _ _ (by omega) h _ h'
    · rw [off_end hp] at h; simp at h

/-- Where there is no n-th character there is no later one. -/
theorem off_more {s : ByteArray} : ∀ f pos n, s.size - pos ≤ f → offF s f pos n = none → offF s f pos (n + 1) = none := by
  intro f
  induction f with
  | zero => intro pos n _ _; rfl
  | succ f ih =>
    intro pos n hf h
    by_cases hp : pos < s.size
    · have hw := wd_bounds s pos hp
      by_cases hn : n = 0
      · subst hn; rw [off_here hp hf] at h; simp at h
      · rw [off_go hp hf hn] at h
        rw [off_go hp hf (by omega), show n + 1 - 1 = (n - 1) + 1 by omega]
        exact ih _ _ (by omega) h
    · exact off_end hp

theorem extract_size (s : ByteArray) (o : Nat) (h : o ≤ s.size) : (s.extract 0 o).size = o := by
  rw [ByteArray.size_extract]; omega

theorem extract_bt (s : ByteArray) (o j : Nat) (h : o ≤ s.size) (hj : j < o) : bt (s.extract 0 o) j = bt s j := by
  have h1 : j < (s.extract 0 o).size := by rw [extract_size s o h]; exact hj
  have h2 : j < s.size := by omega
  rw [← bt_at _ _ h1, ← bt_at _ _ h2]
  have e : (s.extract 0 o)[j]'h1 = s[j]'h2 := by
    rw [ByteArray.getElem_extract]
    simp
  rw [e]

theorem wS_cut (n m : Nat) (b0 b1 b2 b3 c1 c2 c3 : Int) (hm : m ≤ n) (h1 : 1 < m → c1 = b1) (h2 : 2 < m → c2 = b2) (h3 : 3 < m → c3 = b3) (hw : wS n b0 b1 b2 b3 ≤ m) : wS m b0 c1 c2 c3 = wS n b0 b1 b2 b3 := by
  unfold wS at hw ⊢
  by_cases d0 : b0 < 128
  · rw [if_pos d0, if_pos d0]
  · rw [if_neg d0] at hw ⊢
    rw [if_neg d0]
    by_cases d1 : 194 ≤ b0 ∧ b0 ≤ 223
    · rw [if_pos d1] at hw ⊢
      rw [if_pos d1]
      repeat' split at hw
      all_goals (repeat' split) <;> first | rfl | (exfalso; omega)
    · rw [if_neg d1] at hw ⊢
      rw [if_neg d1]
      by_cases d2 : b0 = 224
      · rw [if_pos d2] at hw ⊢
        rw [if_pos d2]
        repeat' split at hw
        all_goals (repeat' split) <;> first | rfl | (exfalso; omega)
      · rw [if_neg d2] at hw ⊢
        rw [if_neg d2]
        by_cases d3 : b0 = 237
        · rw [if_pos d3] at hw ⊢
          rw [if_pos d3]
          repeat' split at hw
          all_goals (repeat' split) <;> first | rfl | (exfalso; omega)
        · rw [if_neg d3] at hw ⊢
          rw [if_neg d3]
          by_cases d4 : 224 ≤ b0 ∧ b0 ≤ 239
          · rw [if_pos d4] at hw ⊢
            rw [if_pos d4]
            repeat' split at hw
            all_goals (repeat' split) <;> first | rfl | (exfalso; omega)
          · rw [if_neg d4] at hw ⊢
            rw [if_neg d4]
            by_cases d5 : b0 = 240
            · rw [if_pos d5] at hw ⊢
              rw [if_pos d5]
              repeat' split at hw
              all_goals (repeat' split) <;> first | rfl | (exfalso; omega)
            · rw [if_neg d5] at hw ⊢
              rw [if_neg d5]
              by_cases d6 : b0 = 244
              · rw [if_pos d6] at hw ⊢
                rw [if_pos d6]
                repeat' split at hw
                all_goals (repeat' split) <;> first | rfl | (exfalso; omega)
              · rw [if_neg d6] at hw ⊢
                rw [if_neg d6]
                by_cases d7 : 240 ≤ b0 ∧ b0 ≤ 244
                · rw [if_pos d7] at hw ⊢
                  rw [if_pos d7]
                  repeat' split at hw
                  all_goals (repeat' split) <;> first | rfl | (exfalso; omega)
                · rw [if_neg d7, if_neg d7]

/-- Behind a cut at o the characters that end before o are what they were. -/
theorem wd_cut (s : ByteArray) (o i : Nat) (ho : o ≤ s.size) (hi : i < o) (hw : i + wd s i ≤ o) : wd (s.extract 0 o) i = wd s i := by
  unfold wd at hw ⊢
  rw [extract_size s o ho, extract_bt s o i ho hi]
  exact wS_cut (s.size - i) (o - i) _ _ _ _ _ _ _ (by omega) (fun h => extract_bt s o (i + 1) ho (by omega)) (fun h => extract_bt s o (i + 2) ho (by omega)) (fun h => extract_bt s o (i + 3) ho (by omega)) (by omega)

/-- Cutting again cuts nothing. -/
theorem off_again {s : ByteArray} : ∀ f g pos n off, s.size - pos ≤ f → offF s f pos n = some off → offF (s.extract 0 off) g pos n = none := by
  intro f
  induction f with
  | zero => intro g pos n off _ h; simp [offF] at h
  | succ f ih =>
    intro g pos n off hf h
    have hb := off_bounds _ _ _ _ h
    have hsz := extract_size s off (by omega)
    cases g with
    | zero => rfl
    | succ g =>
      by_cases hp : pos < s.size
      · by_cases hn : n = 0
        · subst hn
          rw [off_here hp hf] at h
          simp at h
          exact off_end (by rw [hsz]; omega)
        · rw [off_go hp hf hn] at h
          have hb2 := off_bounds _ _ _ _ h
          have hw := wd_bounds s pos hp
          have hi := ih g _ _ _ (by omega) h
          unfold offF
          rw [if_pos (by rw [hsz]; omega), if_neg hn, wd_cut s off pos (by omega) (by omega) (by omega)]
          exact hi
      · rw [off_end hp] at h; simp at h

theorem fc_bounds {s : ByteArray} {n off : Nat} (h : fc s n = some off) : n ≤ off ∧ off < s.size := by
  have := off_bounds _ _ _ _ h
  omega
theorem fc_again {s : ByteArray} {n off : Nat} (h : fc s n = some off) : fc (s.extract 0 off) n = none := off_again _ _ _ _ _ (by omega) h
theorem fc_next {s : ByteArray} {n off off' : Nat} (h : fc s n = some off) (h' : fc s (n + 1) = some off') : off < off' := off_next _ _ _ _ (by omega) h _ h'
theorem fc_more {s : ByteArray} {n : Nat} (h : fc s n = none) : fc s (n + 1) = none := off_more _ _ _ (by omega) h

end Go.Proofs.Qxb6603348aMods
