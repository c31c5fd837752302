import Derived.WalkKit
import Derived.WalkSpells
import Derived.Below
import Derived.OneCell
import Derived.Deep.AppendLies
namespace Go.Proofs.Ybulkabuo
open Go.RowKit

/-- The block that a slice owns, as it lies in the heap. -/
theorem own_blk {w : World} {B e size n : Nat} {v : Value} {xs : List Value} (h : w.ownsRow B e size v n xs) : ∀ g, v.ownBlock = some g → B ≤ g ∧ g < w.heap.size ∧ ∃ cur, w.heap[g]? = some (.cells cur e (0, 0)) := by
  intro g hg
  rcases h.2 with ⟨rfl, _⟩ | ⟨g', cap, cur, rfl, hb, hgg, _⟩
  · simp [Value.ownBlock] at hg
  · simp [Value.ownBlock] at hg
    subst hg
    exact ⟨hb, lt_of_block hgg, cur, hgg⟩

/-- Rows of two element types are not one. -/
theorem own_apart {w : World} {B B' e e' size size' n n' : Nat} {v v' : Value} {xs xs' : List Value} (h : w.ownsRow B e size v n xs) (h' : w.ownsRow B' e' size' v' n' xs') (hne : e ≠ e') : v.ownBlock = none ∨ v.ownBlock ≠ v'.ownBlock := by
  cases hv : v.ownBlock with
  | none => exact Or.inl rfl
  | some g =>
    right
    intro hc
    obtain ⟨_, _, cur, h1⟩ := own_blk h g hv
    obtain ⟨_, _, cur', h2⟩ := own_blk h' g hc.symm
    rw [h1] at h2
    simp at h2
    exact hne h2.2

/-- A block of another element type than the row's is not the row's block. -/
theorem own_not {w : World} {B e size n t : Nat} {v : Value} {xs : List Value} {b : Nat} {cs : Array Value} {f : Nat × Nat} (h : w.ownsRow B e size v n xs) (hb : w.heap[b]? = some (.cells cs t f)) (hne : t ≠ e) : v.ownBlock ≠ some b := by
  intro hv
  obtain ⟨_, _, cur, h1⟩ := own_blk h b hv
  rw [h1] at hb
  simp at hb
  exact hne hb.2.1.symm

/-- A block that is not the one row that an append may have written is as it was. -/
theorem blk_kept {w w' : World} {row : Option Nat} {b : Nat} {o : Obj} (hg : w.grownBy w' row) (hb : w.heap[b]? = some o) (hne : row ≠ some b) : w'.heap[b]? = some o := by
  rw [hg.block b (lt_of_block hb) (fun e => hne e.symm)]
  exact hb

theorem blk_alloc {w : World} {b : Nat} {o : Obj} (hb : w.heap[b]? = some o) (o' : Obj) : (w.alloc o').heap[b]? = some o := by
  rw [Below.heap_alloc _ _ _ (lt_of_block hb)]
  exact hb

theorem blk_set {w : World} {b : Nat} {o : Obj} {a : Addr} (hb : w.heap[b]? = some o) (u : Value) (hne : b ≠ a.block) : (w.setCell a u).heap[b]? = some o := by
  rw [Below.heap_setCell _ _ _ _ hne]
  exact hb

/-- What the append of one element to 'v' leaves apart from another row of the same type. -/
theorem apart_step {w w' : World} {B e size n : Nat} {v v2 v' : Value} {xs : List Value} {g : Nat} (h2 : w.ownsRow B e size v2 n xs) (hap : v.ownBlock = none ∨ v.ownBlock ≠ v2.ownBlock) (hg : v'.ownBlock = some g)
    (hat : v.ownBlock = some g ∨ g = w.heap.size) (_hw : w.heap.size ≤ w'.heap.size) : v'.ownBlock ≠ v2.ownBlock := by
  intro hc
  rw [hg] at hc
  rcases hat with h | h
  · rcases hap with h0 | h0
    · rw [h0] at h; cases h
    · exact h0 (h.trans hc)
  · obtain ⟨_, hlt, _⟩ := own_blk h2 g hc.symm
    omega

/-- The cells of a block that has just been laid, its number under another name. -/
theorem news_alloc {w : World} {cs : Array Value} {t : TypeId} {b : Nat} (hb : w.heap.size = b) : ∀ j u, cs.toList[j]? = some u → (w.alloc (.cells cs t)).cell? ((⟨b, 0, none⟩ : Addr).add j) = some u := by
  subst hb
  exact World.news_of_block (heap_alloc_new w _)

end Go.Proofs.Ybulkabuo
