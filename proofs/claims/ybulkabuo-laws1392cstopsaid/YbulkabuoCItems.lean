import Derived.Test.YbulkabuoRows
import Derived.WalkKit
import Derived.Below
namespace Go.Proofs.Ybulkabuo
open Go.RowKit

/-- One item as the law's argument holds it: its kind, the slice in its second field, that slice's numbers by index. -/
structure Item where
  kind : Int
  a : Option Addr
  len : Nat
  cap : Nat
  zs : Nat → Int

/-- Item k of the row that begins at 'b, off' lies in W. -/
structure ItemIn (W : World) (b off k : Nat) (it : Item) : Prop where
  ckind : W.cell? ⟨b, off + k * 2, none⟩ = some (.int .u8 it.kind)
  cnums : W.cell? ⟨b, off + k * 2 + 1, none⟩ = some (.slice it.a it.len it.cap)
  lo : 0 ≤ it.kind
  hi : it.kind ≤ 255
  small : it.len ≤ 140737488351232
  nums : 0 < it.len → ∃ y z, it.a = some ⟨y, z, none⟩ ∧ y < W.heap.size ∧ ∀ j, j < it.len → W.cell? ⟨y, z + j, none⟩ = some (.int .u8 (it.zs j)) ∧ 0 ≤ it.zs j ∧ it.zs j ≤ 255

def tot (I : Nat → Item) : Nat → Nat
  | 0 => 0
  | k + 1 => tot I k + (I k).len

theorem tot_le {W : World} {b off n : Nat} {I : Nat → Item} (h : ∀ k, k < n → ItemIn W b off k (I k)) : ∀ k, k ≤ n → tot I k ≤ k * 140737488351232
  | 0, _ => by simp [tot]
  | k + 1, hk => by
    have h1 := tot_le h k (by omega)
    have h2 := (h k (by omega)).small
    simp only [tot]
    omega

theorem tot_mono (I : Nat → Item) {j k : Nat} (h : j ≤ k) : tot I j ≤ tot I k := by
  induction k with
  | zero => have : j = 0 := by omega
            subst this; exact Nat.le_refl _
  | succ k ih =>
    by_cases e : j = k + 1
    · subst e; exact Nat.le_refl _
    · have := ih (by omega)
      simp only [tot]
      omega

/-- The items in a later world that is as the first was below some block number. -/
theorem ItemIn.below {W w : World} {b off k : Nat} {it : Item} (h : ItemIn W b off k it) (hb : b < W.heap.size) {B : Nat} (hB : W.heap.size ≤ B) (hw : Below B W w) : ItemIn w b off k it where
  ckind := (hw.cell (p := ⟨b, _, none⟩) (Nat.lt_of_lt_of_le hb hB)).trans h.ckind
  cnums := (hw.cell (p := ⟨b, _, none⟩) (Nat.lt_of_lt_of_le hb hB)).trans h.cnums
  lo := h.lo
  hi := h.hi
  small := h.small
  nums := fun h0 => by
    obtain ⟨y, z, ha, hy, hc⟩ := h.nums h0
    exact ⟨y, z, ha, Nat.lt_of_lt_of_le hy hw.size, fun j hj => ⟨(hw.cell (p := ⟨y, _, none⟩) (Nat.lt_of_lt_of_le hy hB)).trans (hc j hj).1, (hc j hj).2⟩⟩

end Go.Proofs.Ybulkabuo
