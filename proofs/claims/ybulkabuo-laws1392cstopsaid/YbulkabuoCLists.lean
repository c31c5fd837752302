import Derived.Test.YbulkabuoCItems
import Derived.Test.YbulkabuoCHeap
namespace Go.Proofs.Ybulkabuo
open Go.RowKit

/-- The protocol octet that the law gives the proposals of item k. -/
def proto (k : Nat) : Int := (k : Int) % 256

/-- The eight cells of one proposal. -/
def prop8 (n q : Int) : List Value := [.int .u8 0, .int .u8 0, .int .u16 0, .int .u8 n, .int .u8 q, .slice none 0 0, .int .u8 0, .slice none 0 0]

/-- The cells of the first n proposals of an item. -/
def rowOf (zs : Nat → Int) (q : Int) (n : Nat) : List Value := (List.range n).flatMap fun j => prop8 (zs j) q

theorem rowOf_succ (zs : Nat → Int) (q : Int) (n : Nat) : rowOf zs q (n + 1) = rowOf zs q n ++ prop8 (zs n) q := by
  simp [rowOf, List.range_succ]

theorem rowOf_length (zs : Nat → Int) (q : Int) (n : Nat) : (rowOf zs q n).length = n * 8 := by
  induction n with
  | zero => rfl
  | succ n ih => rw [rowOf_succ, List.length_append, ih]; simp [prop8]; omega

theorem rowOf_get (zs : Nat → Int) (q : Int) {n j i : Nat} (hj : j < n) (hi : i < 8) : (rowOf zs q n)[j * 8 + i]? = (prop8 (zs j) q)[i]? := by
  induction n with
  | zero => omega
  | succ n ih =>
    rw [rowOf_succ]
    by_cases h : j < n
    · rw [List.getElem?_append_left (by rw [rowOf_length]; omega)]
      exact ih h
    · have e : j = n := by omega
      subst e
      rw [List.getElem?_append_right (by rw [rowOf_length]; omega), rowOf_length]
      congr 1
      omega

/-- The numbers, and the protocol octets, of the IKEv1 proposals of the first k items. -/
def gN (I : Nat → Item) : Nat → List Int
  | 0 => []
  | k + 1 => gN I k ++ if (I k).kind % 4 = 0 then (List.range (I k).len).map (I k).zs else []
def gP (I : Nat → Item) : Nat → List Int
  | 0 => []
  | k + 1 => gP I k ++ if (I k).kind % 4 = 0 then (List.range (I k).len).map (fun _ => proto k) else []

theorem gP_length (I : Nat → Item) (k : Nat) : (gP I k).length = (gN I k).length := by
  induction k with
  | zero => rfl
  | succ k ih =>
    simp only [gP, gN, List.length_append, ih]
    split <;> simp

theorem gN_le (I : Nat → Item) (k : Nat) : (gN I k).length ≤ tot I k := by
  induction k with
  | zero => simp [gN, tot]
  | succ k ih =>
    simp only [gN, tot, List.length_append]
    split <;> simp <;> omega

theorem gN_live {I : Nat → Item} {k : Nat} (h : (I k).kind % 4 = 0) : gN I (k + 1) = gN I k ++ (List.range (I k).len).map (I k).zs := by simp [gN, h]
theorem gP_live {I : Nat → Item} {k : Nat} (h : (I k).kind % 4 = 0) : gP I (k + 1) = gP I k ++ (List.range (I k).len).map (fun _ => proto k) := by simp [gP, h]
theorem gN_dead {I : Nat → Item} {k : Nat} (h : ¬ (I k).kind % 4 = 0) : gN I (k + 1) = gN I k := by simp [gN, h]
theorem gP_dead {I : Nat → Item} {k : Nat} (h : ¬ (I k).kind % 4 = 0) : gP I (k + 1) = gP I k := by simp [gP, h]

theorem gN_prefix (I : Nat → Item) {j k : Nat} (h : j ≤ k) : gN I j <+: gN I k := by
  induction k with
  | zero => have : j = 0 := by omega
            subst this; exact List.prefix_refl _
  | succ k ih =>
    by_cases e : j = k + 1
    · subst e; exact List.prefix_refl _
    · exact (ih (by omega)).trans (List.prefix_append _ _)
theorem gP_prefix (I : Nat → Item) {j k : Nat} (h : j ≤ k) : gP I j <+: gP I k := by
  induction k with
  | zero => have : j = 0 := by omega
            subst this; exact List.prefix_refl _
  | succ k ih =>
    by_cases e : j = k + 1
    · subst e; exact List.prefix_refl _
    · exact (ih (by omega)).trans (List.prefix_append _ _)

/-- The first j numbers of item k, behind those of the items ahead of it: a beginning of the whole. -/
theorem gN_part {I : Nat → Item} {k n j : Nat} (hk : k < n) (h : (I k).kind % 4 = 0) (hj : j ≤ (I k).len) : gN I k ++ (List.range j).map (I k).zs <+: gN I n := by
  refine List.IsPrefix.trans ?_ (gN_prefix I (show k + 1 ≤ n by omega))
  rw [gN_live h, List.prefix_append_right_inj, show (I k).len = j + ((I k).len - j) by omega, List.range_add, List.map_append]
  exact List.prefix_append _ _
theorem gP_part {I : Nat → Item} {k n j : Nat} (hk : k < n) (h : (I k).kind % 4 = 0) (hj : j ≤ (I k).len) : gP I k ++ (List.range j).map (fun _ => proto k) <+: gP I n := by
  refine List.IsPrefix.trans ?_ (gP_prefix I (show k + 1 ≤ n by omega))
  rw [gP_live h, List.prefix_append_right_inj, show (I k).len = j + ((I k).len - j) by omega, List.range_add, List.map_append]
  exact List.prefix_append _ _

/-- What content k is, in w, all of it below block B. -/
structure ContIn (B : Nat) (w : World) (k : Nat) (it : Item) (v : Value) : Prop where
  live : it.kind % 4 = 0 → ∃ bs ao cap, v = .iface 74 (.pointer (some ⟨bs, 0, none⟩)) ∧ bs < B ∧ w.cell? ⟨bs, 2, none⟩ = some (.slice ao it.len cap) ∧
    (0 < it.len → ∃ g, ao = some ⟨g, 0, none⟩ ∧ g < B ∧ ∀ j i u, j < it.len → (prop8 (it.zs j) (proto k))[i]? = some u → w.cell? ⟨g, j * 8 + i, none⟩ = some u)
  dead : ¬ it.kind % 4 = 0 → v = .nilIface ∨ ∃ p, v = .iface 78 p ∨ v = .iface 83 p

theorem ContIn.below {B B' : Nat} {w w' : World} {k : Nat} {it : Item} {v : Value} (h : ContIn B w k it v) (hb : Below B' w w') (hB : B ≤ B') : ContIn B w' k it v where
  live := fun h0 => by
    obtain ⟨bs, ao, cap, hv, hbs, hc, hr⟩ := h.live h0
    refine ⟨bs, ao, cap, hv, hbs, (hb.cell (p := ⟨bs, 2, none⟩) (Nat.lt_of_lt_of_le hbs hB)).trans hc, fun hl => ?_⟩
    obtain ⟨g, ha, hg, hcs⟩ := hr hl
    exact ⟨g, ha, hg, fun j i u hj hu => (hb.cell (p := ⟨g, _, none⟩) (Nat.lt_of_lt_of_le hg hB)).trans (hcs j i u hj hu)⟩
  dead := h.dead

end Go.Proofs.Ybulkabuo
