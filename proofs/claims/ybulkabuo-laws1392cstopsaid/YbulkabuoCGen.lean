import Derived.Test.YbulkabuoCTotal
import Derived.Test.YbulkabuoCEqual
import Derived.Test.YbulkabuoCBuild
namespace Go.Proofs.Ybulkabuo
open Go.RowKit

/-- The items of a slice that came in: where there is one, the slice has a plain address and each item lies there. -/
def ItemsAt (w : World) (a : Option Addr) (len : Nat) (I : Nat → Item) : Prop :=
  0 < len → ∃ b off, a = some ⟨b, off, none⟩ ∧ b < w.heap.size ∧ ∀ k, k < len → ItemIn w b off k (I k)

theorem ItemsAt.below {W w : World} {a : Option Addr} {len : Nat} {I : Nat → Item} (h : ItemsAt W a len I) (hw : Below W.heap.size W w) : ItemsAt w a len I := fun h0 => by
  obtain ⟨b, off, ha, hb, hI⟩ := h h0
  exact ⟨b, off, ha, Nat.lt_of_lt_of_le hb hw.size, fun k hk => (hI k hk).below hb (Nat.le_refl _) hw⟩

theorem total_gen (a : Option Addr) (len cap : Nat) (I : Nat → Item) (w : World) (hl : len ≤ 1024) (hI : ItemsAt w a len I) :
    Calls Yba.prog 9 #[.slice a len cap] w fun e w' => e = .returned (.int .i64 (tot I len)) ∧ Below w.heap.size w w' := by
  by_cases h0 : 0 < len
  · obtain ⟨b, off, rfl, hb, hi⟩ := hI h0
    exact total_any b off len cap I w hb hl hi
  · have e : len = 0 := by omega
    subst e
    refine (total_zero a cap w).mono ?_
    rintro e w' ⟨rfl, rfl⟩
    exact ⟨rfl, Below.refl _ _⟩

set_option maxRecDepth 100000 in
set_option maxHeartbeats 400000 in
theorem build_zero (a : Option Addr) (cap : Nat) (I : Nat → Item) (w : World) :
    Calls Yba.prog 10 #[.slice a 0 cap] w fun e w' => ∃ c wn wp, e = .returned (.tuple #[c, wn, wp]) ∧ BInv w.heap.size w'.heap.size w I 0 c wn wp (gN I 0) (gP I 0) w' := by
  obtain ⟨i0, hi, hz0, hz1, hz2⟩ := info_parts info48
  go_enter Yba.func10, Yba.ntmps10
  go_wp2_with (at_make; refine wpList_make_own _ rfl _ _ 56 rfl w.heap.size 48 i0 .nilIface 1 Yba.underlying56 hi hz0 hz1 _ _ _ 0 rfl rfl rfl ?b1 ?b2 ?b3 ?b4)
  case b1 => omega
  case b2 => unfold maxLen; omega
  case b3 => exact Nat.le_refl _
  case b4 =>
    intro w1 hown hg
    have h0 : BInv w.heap.size w1.heap.size w I 0 (.slice (some ⟨w.heap.size, 0, none⟩) 0 0) (.slice none 0 0) (.slice none 0 0) [] [] w1 := {
      below := (Below.refl _ _).grown hg (Nat.le_refl _) (fun _ h => by cases h)
      sz := hg.size
      sz2 := Nat.le_refl _
      con := ⟨fun _ => .nilIface, hown, fun j hj => by omega⟩
      on := World.ownsRow_nil _ _ _ _
      op := World.ownsRow_nil _ _ _ _
      ap := Or.inl rfl }
    have H0 : Hid _ := h0
    clear h0 hown hg
    go_wp2
    refine wp_loop_rounds 1 ?_
    rw [rounds_succ]
    go_wp2
    go_ret3
    exact ⟨_, _, _, rfl, H0.out⟩

theorem build_gen (a : Option Addr) (len cap : Nat) (I : Nat → Item) (w : World) (hl : len ≤ 1024) (ht : tot I len ≤ 8192) (hI : ItemsAt w a len I) :
    Calls Yba.prog 10 #[.slice a len cap] w fun e w' => ∃ c wn wp, e = .returned (.tuple #[c, wn, wp]) ∧ BInv w.heap.size w'.heap.size w I len c wn wp (gN I len) (gP I len) w' := by
  by_cases h0 : 0 < len
  · obtain ⟨b, off, rfl, hb, hi⟩ := hI h0
    exact build_any b off len cap I w hb hl ht hi
  · have e : len = 0 := by omega
    subst e
    exact build_zero a cap I w

/-- What a slice of octets that owns its row looks like. -/
theorem own_form {w : World} {B n : Nat} {v : Value} {fs : List Int} (h : w.ownsRow B 5 1 v n (fs.map (Value.int .u8))) : ∃ ao cap, v = .slice ao n cap ∧ fs.length = n ∧ (0 < n → ∃ g, ao = some ⟨g, 0, none⟩ ∧ g < w.heap.size ∧ ∀ j, j < n → w.cell? ⟨g, j, none⟩ = some (.int .u8 (fs.getD j 0))) := by
  have hl := h.1
  simp at hl
  rcases h.2 with ⟨rfl, rfl⟩ | ⟨g, cap, cur, rfl, _, hg, hle, _, hcs, htk⟩
  · exact ⟨none, 0, rfl, hl, fun h => by omega⟩
  · refine ⟨_, cap, rfl, hl, fun _ => ⟨g, rfl, lt_of_block hg, fun j hj => ?_⟩⟩
    have e : (fs.map (Value.int .u8))[j]? = some (.int .u8 (fs.getD j 0)) := by simp [List.getD, show j < fs.length by omega]
    rw [← htk, List.getElem?_take, if_pos (by omega)] at e
    simp only [World.cell?, hg]
    simpa using e

/-- The octets of a slice, to be compared. -/
def Octets (w : World) (ao : Option Addr) (n : Nat) (fs : List Int) : Prop :=
  0 < n → ∃ g, ao = some ⟨g, 0, none⟩ ∧ g < w.heap.size ∧ ∀ j, j < n → w.cell? ⟨g, j, none⟩ = some (.int .u8 (fs.getD j 0))

theorem Octets.below {w w' : World} {ao : Option Addr} {n : Nat} {fs : List Int} (h : Octets w ao n fs) (hb : Below w.heap.size w w') : Octets w' ao n fs := fun h0 => by
  obtain ⟨g, ha, hg, hc⟩ := h h0
  exact ⟨g, ha, Nat.lt_of_lt_of_le hg hb.size, fun j hj => (hb.cell (p := ⟨g, j, none⟩) hg).trans (hc j hj)⟩

theorem Octets.drewN {w : World} {ao : Option Addr} {n : Nat} {fs : List Int} (h : Octets w ao n fs) (m : Nat) : Octets (w.drewN m) ao n fs := h

theorem octets_of {w : World} {B n : Nat} {v : Value} {fs : List Int} (h : w.ownsRow B 5 1 v n (fs.map (Value.int .u8))) : ∃ ao cap, v = .slice ao n cap ∧ n ≤ cap ∧ fs.length = n ∧ Octets w ao n fs := by
  have hcap : ∀ ao cap, v = .slice ao n cap → n ≤ cap := by
    intro ao cap hv
    rcases h.2 with ⟨rfl, rfl⟩ | ⟨g, cap', cur, rfl, _, hg, hle, _⟩
    · exact Nat.zero_le _
    · cases hv; exact hle
  obtain ⟨ao, cap, hv, hl, hc⟩ := own_form h
  exact ⟨ao, cap, hv, hcap ao cap hv, hl, hc⟩

/-- The first t of them. -/
theorem Octets.take {w : World} {ao : Option Addr} {n t : Nat} {fs : List Int} (h : Octets w ao n fs) (ht : t ≤ n) : Octets w ao t (fs.take t) := fun h0 => by
  obtain ⟨g, ha, hg, hc⟩ := h (by omega)
  refine ⟨g, ha, hg, fun j hj => ?_⟩
  rw [hc j (by omega)]
  simp [List.getD, hj]

/-- slices.Equal at two slices that hold the same octets. -/
theorem equal_gen {w : World} {n : Nat} {fs : List Int} {a1 a2 : Option Addr} {c1 c2 : Nat} (hn : n ≤ 8192)
    (h1 : Octets w a1 n fs) (h2 : Octets w a2 n fs) :
    Calls Yba.prog 13 #[.slice a1 n c1, .slice a2 n c2] w fun e w' => e = .returned (.bool true) ∧ ∃ m, w' = w.drewN m := by
  by_cases h0 : 0 < n
  · obtain ⟨g1, rfl, _, e1⟩ := h1 h0
    obtain ⟨g2, rfl, _, e2⟩ := h2 h0
    exact equal_same g1 g2 c1 c2 n (fun j => fs.getD j 0) w (by omega) e1 e2
  · have e : n = 0 := by omega
    subst e
    refine (equal_zero a1 a2 c1 c2 w).mono ?_
    rintro e w' ⟨rfl, rfl⟩
    exact ⟨rfl, 0, rfl⟩

/-- The contents as the iterator reads them, behind the building. -/
theorem BInv.conts {B N n : Nat} {W w : World} {I : Nat → Item} {c wn wp : Value} {ns ps : List Int} (h : BInv B N W I n c wn wp ns ps w) :
    ∃ (ao : Option Addr) (cap : Nat) (V : Nat → Value), c = .slice ao n cap ∧ (0 < n → ∃ gc, ao = some ⟨gc, 0, none⟩ ∧ gc < w.heap.size ∧ ∀ k, k < n → w.cell? ⟨gc, k, none⟩ = some (V k)) ∧ ∀ k, k < n → ContIn w.heap.size w k (I k) (V k) := by
  obtain ⟨V, h1, h2⟩ := h.con
  have hC : ∀ k, k < n → ContIn w.heap.size w k (I k) (V k) := fun k hk => ((h2 k hk).mono h.sz2).cont
  rcases h1.2 with ⟨rfl, rfl⟩ | ⟨g, cap, cur, rfl, _, hg, hle, _, hcs, htk⟩
  · exact ⟨none, 0, V, rfl, fun h => by omega, hC⟩
  · refine ⟨_, cap, V, rfl, fun _ => ⟨g, rfl, lt_of_block hg, fun k hk => ?_⟩, hC⟩
    have e : ((List.range n).map V)[k]? = some (V k) := by simp [hk]
    rw [← htk, List.getElem?_take, if_pos (by omega)] at e
    simp only [World.cell?, hg]
    simpa using e

end Go.Proofs.Ybulkabuo
