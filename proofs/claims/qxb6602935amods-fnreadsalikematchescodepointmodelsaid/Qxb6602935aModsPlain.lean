/- THE PLAIN SIDE (no Go): bytes as a list of integers, read by place. -/
namespace Go.Proofs.Qxb6602935aMods

/-- The number at place i (0 beyond the end). A plain def: the walk does not look behind it. -/
def gat (zs : List Int) (i : Nat) : Int := zs.getD i 0

/-- Every number is a byte. -/
def Byt (zs : List Int) : Prop := ∀ i, 0 ≤ gat zs i ∧ gat zs i ≤ 255

theorem drop_gat (zs : List Int) (i : Nat) (h : i < zs.length) : zs.drop i = gat zs i :: zs.drop (i + 1) := by
  rw [List.drop_eq_getElem_cons h]
  simp [gat, List.getD, List.getElem?_eq_getElem h]

def dig (c : Int) : Bool := decide (48 ≤ c) && decide (c ≤ 57)

/-- The place of the first number from i on that is no digit. -/
def pd (zs : List Int) (i : Nat) : Nat := zs.length - ((zs.drop i).dropWhile dig).length

theorem pd_step (zs : List Int) (i : Nat) (h : i < zs.length) (hd : dig (gat zs i) = true) : pd zs i = pd zs (i + 1) := by
  unfold pd
  rw [drop_gat zs i h, List.dropWhile_cons_of_pos hd]

theorem pd_stop (zs : List Int) (i : Nat) (h : i < zs.length) (hd : dig (gat zs i) = false) : pd zs i = i := by
  unfold pd
  rw [drop_gat zs i h, List.dropWhile_cons_of_neg (by simp [hd])]
  simp; omega

theorem pd_end (zs : List Int) (i : Nat) (h : i = zs.length) : pd zs i = i := by
  subst h; simp [pd]

theorem pd_bounds (zs : List Int) (i : Nat) (h : i ≤ zs.length) : i ≤ pd zs i ∧ pd zs i ≤ zs.length := by
  have h1 : ((zs.drop i).dropWhile dig).length ≤ (zs.drop i).length := (List.dropWhile_suffix dig).length_le
  simp at h1
  unfold pd
  omega

/-- The byte at place j of a string, as a number. -/
def sat (s : ByteArray) (j : Nat) : Int := ((s.data.toList.getD j 0).toNat : Int)
theorem sat_at (s : ByteArray) (j : Nat) (h : j < s.size) : sat s j = (s[j].toNat : Int) := by
  have h' : j < s.data.toList.length := by simpa using h
  unfold sat
  rw [List.getD, List.getElem?_eq_getElem h']
  rfl
def eqS (zs : List Int) (s : ByteArray) : Bool := decide (zs.length = s.size ∧ ∀ j, j < s.size → gat zs j = sat s j)

theorem eqS_no (zs : List Int) (s : ByteArray) (k : Nat) (hk : k < s.size) (h : (gat zs k != (s[k].toNat : Int)) = true) : false = eqS zs s := by
  have h' : gat zs k ≠ (s[k].toNat : Int) := by simpa using h
  unfold eqS
  rw [eq_comm, decide_eq_false_iff_not]
  exact fun hh => h' ((hh.2 k hk).trans (sat_at s k hk))
theorem eqS_yes (zs : List Int) (s : ByteArray) (hl : zs.length = s.size) (h : ∀ j, j < zs.length → gat zs j = sat s j) : true = eqS zs s := by
  unfold eqS
  rw [eq_comm, decide_eq_true_iff]
  exact ⟨hl, fun j hj => h j (by omega)⟩

/-- The text is true, false or null. -/
def lit (zs : List Int) : Bool := eqS zs ⟨#[116, 114, 117, 101]⟩ || (eqS zs ⟨#[102, 97, 108, 115, 101]⟩ || eqS zs ⟨#[110, 117, 108, 108]⟩)

def nstep (st c : Int) : Int :=
  if st = 0 then (if c = 45 then 1 else if c = 48 then 2 else if dig c then 3 else -1)
  else if st = 1 then (if c = 48 then 2 else if dig c then 3 else -1)
  else if st = 2 then (if c = 46 then 4 else if c = 101 ∨ c = 69 then 6 else -1)
  else if st = 3 then (if dig c then 3 else if c = 46 then 4 else if c = 101 ∨ c = 69 then 6 else -1)
  else if st = 4 then (if dig c then 5 else -1)
  else if st = 5 then (if dig c then 5 else if c = 101 ∨ c = 69 then 6 else -1)
  else if st = 6 then (if c = 43 ∨ c = 45 then 7 else if dig c then 8 else -1)
  else (if dig c then 8 else -1)

def accst (st : Int) : Bool := decide (st = 2 ∨ st = 3 ∨ st = 5 ∨ st = 8)

def auto (st : Int) : List Int → Bool
  | [] => accst st
  | c :: r => if nstep st c < 0 then false else auto (nstep st c) r

theorem nstep_bounds (st c : Int) : -1 ≤ nstep st c ∧ nstep st c ≤ 8 := by
  unfold nstep
  repeat' split
  all_goals omega

/-! ### isJSONAtom by places -/
def i0Of (zs : List Int) : Nat := if 0 < zs.length ∧ gat zs 0 = 45 then 1 else 0
def intP (zs : List Int) (i : Nat) : Option Nat :=
  if i < zs.length ∧ gat zs i = 48 then some (i + 1) else if i < zs.length ∧ 49 ≤ gat zs i ∧ gat zs i ≤ 57 then some (pd zs i) else none
def fracP (zs : List Int) (i : Nat) : Option Nat :=
  if i < zs.length ∧ gat zs i = 46 then (if pd zs (i + 1) = i + 1 then none else some (pd zs (i + 1))) else some i
def signP (zs : List Int) (i : Nat) : Nat := if i < zs.length ∧ (gat zs i = 43 ∨ gat zs i = 45) then i + 1 else i
def expP (zs : List Int) (i : Nat) : Bool :=
  if i < zs.length ∧ (gat zs i = 101 ∨ gat zs i = 69) then (if pd zs (signP zs (i + 1)) = signP zs (i + 1) then false else decide (pd zs (signP zs (i + 1)) = zs.length)) else decide (i = zs.length)
def tailP (zs : List Int) (i : Nat) : Bool := match fracP zs i with | none => false | some q => expP zs q
def atomP (zs : List Int) : Bool := match intP zs (i0Of zs) with | none => false | some q => tailP zs q

theorem atom_none {zs : List Int} (h : intP zs (i0Of zs) = none) : atomP zs = false := by simp [atomP, h]
theorem atom_some {zs : List Int} {p : Nat} (h : intP zs (i0Of zs) = some p) : atomP zs = tailP zs p := by simp [atomP, h]
theorem tail_none {zs : List Int} {i : Nat} (h : fracP zs i = none) : tailP zs i = false := by simp [tailP, h]
theorem tail_some {zs : List Int} {i p : Nat} (h : fracP zs i = some p) : tailP zs i = expP zs p := by simp [tailP, h]

theorem exp_far {zs : List Int} {q : Nat} (hq : q ≤ zs.length) (h : ¬ q < zs.length) : expP zs q = true := by
  unfold expP; rw [if_neg (fun h' => h h'.1)]; simp; omega
theorem exp_not {zs : List Int} {q : Nat} (h : q < zs.length) (h1 : (gat zs q == 101) = false) (h2 : (gat zs q == 69) = false) : expP zs q = false := by
  unfold expP
  have h1' : ¬ gat zs q = 101 := by simpa using h1
  have h2' : ¬ gat zs q = 69 := by simpa using h2
  rw [if_neg (by omega)]; simp; omega
theorem exp_yes {zs : List Int} {q r P : Nat} (h : q < zs.length) (h1 : (gat zs q == 101) = true ∨ ((gat zs q == 101) = false ∧ (gat zs q == 69) = true)) (hr : signP zs (q + 1) = r) (hP : pd zs r = P) :
    expP zs q = if P = r then false else decide (P = zs.length) := by
  have h1' : gat zs q = 101 ∨ gat zs q = 69 := by
    rcases h1 with h1 | ⟨_, h1⟩
    · exact .inl (by simpa using h1)
    · exact .inr (by simpa using h1)
  unfold expP
  rw [if_pos ⟨h, h1'⟩, hr, hP]
theorem sign_cases (zs : List Int) (i : Nat) : (¬ i < zs.length ∧ signP zs i = i) ∨ (i < zs.length ∧ (gat zs i == 43) = true ∧ signP zs i = i + 1) ∨
    (i < zs.length ∧ (gat zs i == 43) = false ∧ (gat zs i == 45) = true ∧ signP zs i = i + 1) ∨ (i < zs.length ∧ (gat zs i == 43) = false ∧ (gat zs i == 45) = false ∧ signP zs i = i) := by
  unfold signP
  by_cases h : i < zs.length
  · by_cases h1 : gat zs i = 43
    · simp [h, h1]
    · by_cases h2 : gat zs i = 45
      · simp [h, h2]
      · simp [h, h1, h2]
  · simp [h]
theorem sign_bounds (zs : List Int) (i : Nat) (h : i ≤ zs.length) : i ≤ signP zs i ∧ signP zs i ≤ zs.length := by
  unfold signP; split <;> omega

end Go.Proofs.Qxb6602935aMods
