import Derived.Test.YbulkabuoCGen
import Derived.ProofKit
import Derived.OpenShut
import Derived.Deep.SlicePairs
import Derived.SizedLaws
namespace Go.Proofs.Ybulkabuo
open Go.RowKit Go.ChangeShapes Go.WideShapes Go.Deep

theorem cells73 : Yba.prog.cellsOf 73 = 2 := by kernel_rfl
theorem cells5 : Yba.prog.cellsOf 5 = 1 := by kernel_rfl
theorem cells23 : Yba.prog.cellsOf 23 = 1 := by kernel_rfl
theorem bytes5 : Yba.prog.bytesOf 5 = 1 := by kernel_rfl

theorem weightsAll_mem {H : Type} {P : Program} {e : TypeId} {l : List (DataW H)} {d : DataW H} {n : Nat} (hd : d ∈ l) (hn : n ∈ d.weights P e) : n ∈ DataW.weightsAll P e l := by
  induction l with
  | nil => cases hd
  | cons x l ih =>
    simp only [DataW.weightsAll, List.mem_append]
    rcases List.mem_cons.1 hd with h | h
    · subst h; exact Or.inl hn
    · exact Or.inr (ih h)

theorem block_lt {w : World} {a : Addr} {v : Value} (h : w.cell? a = some v) : a.block < w.heap.size := World.block_lt_of_cell? w a h

/-- The law's argument, opened: the items by index. -/
theorem open_items {H : Type} {enc : TypeId × Value → H} {W : World} {base : Nat} {spare : Nat → Bool} {held : Bool} {fuel : Nat} {a : Option Addr} {len cap : Nat} {d : DataW H} {p : List MemPlace}
    (h : DataW.trod enc Yba.prog W base spare held fuel 54 [.slice a len cap] = some (d, p)) (hw : ∀ n ∈ d.weights Yba.prog 54, n ≤ reachBytes) :
    len ≤ maxLen ∧ ∃ I, ItemsAt W a len I := by
  rcases open_slice_pairs Yba.underlying54 Yba.underlying73 cells73 rfl rfl cells5 cells23 h with ⟨hcs, _⟩ | ⟨x, len', cap', m, n, V0, V1, D0, D1, P0, P1, hcs, _, hl, hm, hmm, hx, hel⟩
  · simp at hcs
    obtain ⟨rfl, rfl, rfl⟩ := hcs
    exact ⟨by simp [maxLen], fun _ => ⟨0, none, 0, 0, fun _ => 0⟩, fun h => by omega⟩
  · simp at hcs
    obtain ⟨rfl, rfl, rfl⟩ := hcs
    have hlm : len ≤ m := by rw [hmm]; split <;> omega
    simp only [Prod.mk.injEq] at hx
    obtain ⟨rfl, _⟩ := hx
    refine ⟨by omega, ?_⟩
    have each : ∀ i, i < len → ∃ it : Int × Option Addr × Nat × Nat × List Int, W.cell? (x.add (i * 2)) = some (.int .u8 it.1) ∧ W.cell? (x.add (i * 2 + 1)) = some (.slice it.2.1 it.2.2.1 it.2.2.2.1) ∧ 0 ≤ it.1 ∧ it.1 ≤ 255 ∧ it.2.2.1 ≤ 140737488351232 ∧
        (0 < it.2.2.1 → ∃ y z, it.2.1 = some ⟨y, z, none⟩ ∧ y < W.heap.size ∧ ∀ j, j < it.2.2.1 → W.cell? ⟨y, z + j, none⟩ = some (.int .u8 (it.2.2.2.2.getD j 0)) ∧ 0 ≤ it.2.2.2.2.getD j 0 ∧ it.2.2.2.2.getD j 0 ≤ 255) := by
      intro i hi
      obtain ⟨c0, c1, t0, t1⟩ := hel i (by omega)
      obtain ⟨k, hk, _, wk⟩ := DataW.trod_int Yba.underlying5 t0
      simp at hk
      rw [hk] at c0
      have bk := bounds_u8 wk
      have hwi : ∀ n ∈ (D1 i).weights Yba.prog 23, n ≤ reachBytes := fun n hn => hw n (by
        simp only [DataW.weights, Yba.underlying54]
        refine List.mem_cons_of_mem _ (List.mem_append_left _ ?_)
        refine weightsAll_mem (d := .agg [D0 i, D1 i]) (List.mem_map.2 ⟨i, List.mem_range.2 hi, rfl⟩) ?_
        simp only [DataW.weights, Yba.underlying73]
        simp only [List.map_cons, List.map_nil, DataW.weightsEach, List.append_nil, List.mem_append]
        exact Or.inr hn)
      rcases open_ints Yba.underlying23 Yba.underlying5 cells5 t1 with ⟨hcs, _⟩ | ⟨y, l, c, zs, hcs, _, hlc, _, hz, hx1, hcell, hwz⟩
      · simp at hcs
        rw [hcs] at c1
        exact ⟨(k, none, 0, 0, []), c0, c1, bk.1, bk.2, by simp, fun h => by simp at h⟩
      · simp at hcs
        rw [hcs] at c1
        simp only [Prod.mk.injEq] at hx1
        have hsz := hwi ((lits .u8 (zs.take l) : List (DataW H)).length + (lits .u8 (zs.drop l) : List (DataW H)).length) (by
          rw [hx1.1]
          simp only [DataW.weights, Yba.underlying23, bytes5]
          simp)
        have hzl : l ≤ zs.length := by rw [hz]; split <;> omega
        simp only [lits, List.length_map, List.length_take, List.length_drop, reachBytes] at hsz
        refine ⟨(k, some y, l, c, zs), c0, c1, bk.1, bk.2, by simp only; omega, fun hp => ?_⟩
        simp only at hp
        obtain ⟨yb, yo, rfl, hc⟩ := ints_at hcell (by omega)
        refine ⟨yb, yo, rfl, ?_, fun j hj => ⟨hc j (by simp only at hj; omega), ?_⟩⟩
        · exact block_lt (hc 0 (by omega))
        · simp only at hj
          have hmem : zs.getD j 0 ∈ zs := by
            simp [List.getD, show j < zs.length by omega]
          exact bounds_u8 (hwz _ hmem)
    obtain ⟨f, hf⟩ := choose_lt each
    refine ⟨fun i => ⟨(f i).1, (f i).2.1, (f i).2.2.1, (f i).2.2.2.1, fun j => (f i).2.2.2.2.getD j 0⟩, fun h0 => ?_⟩
    obtain ⟨xb, xo, spot⟩ := x
    have hspot : spot = none := by simpa [Addr.add] using World.cell?_spot (hf 0 h0).1
    subst hspot
    refine ⟨xb, xo, rfl, ?_, fun i hi => ?_⟩
    · have h1 := (hf 0 h0).1
      rw [add_plain] at h1
      exact block_lt h1
    · obtain ⟨e0, e1, e2, e3, e4, e5⟩ := hf i hi
      rw [add_plain] at e0 e1
      exact ⟨e0, e1, e2, e3, e4, e5⟩

end Go.Proofs.Ybulkabuo
