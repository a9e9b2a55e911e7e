/- THE PLAIN SIDE (no Go): numbers by place. -/
namespace Go.Proofs.Qxb6603133aMods

/-- The number at place i (0 beyond the end). A plain def: the walk does not look behind it. -/
def gat (zs : List Int) (i : Nat) : Int := zs.getD i 0
theorem gat_at (zs : List Int) (i : Nat) (h : i < zs.length) : gat zs i = zs[i] := by simp [gat, h]
theorem gat_drop (zs : List Int) (p i : Nat) : gat (zs.drop p) i = gat zs (p + i) := by simp [gat]
theorem gat_take (zs : List Int) (p i : Nat) (h : i < p) : gat (zs.take p) i = gat zs i := by simp [gat, h]
def Byt (zs : List Int) : Prop := ∀ i, 0 ≤ gat zs i ∧ gat zs i ≤ 255

end Go.Proofs.Qxb6603133aMods
