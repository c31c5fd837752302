import Derived.Test.YbulkabweMaps
import Derived.Handy
namespace Go.Proofs.Ybulkabwe
open Go.RowKit Go.Maps
open Go.WideMaps (keyOf_string_mk)

/-- A slice of strings that came in: where there is an element, the slice has a plain address and each string lies there. -/
def StrsAt (w : World) (a : Option Addr) (len : Nat) (K : Nat → ByteArray) : Prop :=
  0 < len → ∃ b off, a = some ⟨b, off, none⟩ ∧ b < w.heap.size ∧ ∀ i, i < len → w.cell? ⟨b, off + i, none⟩ = some (.string (K i)) ∧ (K i).size ≤ maxLen

theorem StrsAt.below {W w : World} {a : Option Addr} {len : Nat} {K : Nat → ByteArray} (h : StrsAt W a len K) (hw : Below W.heap.size W w) : StrsAt w a len K := fun h0 => by
  obtain ⟨b, off, ha, hb, hc⟩ := h h0
  exact ⟨b, off, ha, Nat.lt_of_lt_of_le hb hw.size, fun i hi => ⟨(hw.cell (p := ⟨b, off + i, none⟩) hb).trans (hc i hi).1, (hc i hi).2⟩⟩

set_option maxRecDepth 100000 in
set_option maxHeartbeats 400000 in
theorem build_any (a1 a2 : Option Addr) (l1 l2 c1 c2 n : Nat) (K V : Nat → ByteArray) (w : World) (h1 : l1 ≤ 1024) (h2 : l2 ≤ 1024) (hn : n = min l1 l2) (hK : StrsAt w a1 l1 K) (hV : StrsAt w a2 l2 V) :
    Calls Yba.prog 5 #[.slice a1 l1 c1, .slice a2 l2 c2] w fun e w' => e = .returned (.tuple #[.map (some w.heap.size), .int .i64 n]) ∧ Tab w' w.heap.size n (tab K V n) ∧ Below w.heap.size w w' := by
  have HK : Hid (StrsAt w a1 l1 K) := hK
  have HV : Hid (StrsAt w a2 l2 V) := hV
  have hn1 : n ≤ l1 := by omega
  have hn2 : n ≤ l2 := by omega
  have HN : Hid _ := hn
  have hmm := makeMap23
  clear hK hV hn
  by_cases hc : l2 < l1
  · have e : l2 = n := by have := HN.out; omega
    subst e
    go_enter Yba.func5, Yba.ntmps5
    go_wp2
    go_loopw [8] (fun i wr => ∃ k : Nat, k ≤ l2 ∧ i = .int .i64 k ∧ Tab wr w.heap.size k (tab K V k) ∧ Below w.heap.size w wr) (fun i _ => l2 - (intOf i).toNat)
    case atStart => exact ⟨0, Nat.zero_le _, rfl, World.ownsMap_made _ _ _ _, (Below.refl _ _).alloc (Nat.le_refl _) _⟩
    case round =>
      obtain ⟨k, hk, rfl, hown, hbel⟩ := hrel
      by_cases hlt : k < l2
      · obtain ⟨b1, o1, e1, _, hc1⟩ := (HK.out.below hbel) (by omega)
        obtain ⟨b2, o2, e2, _, hc2⟩ := (HV.out.below hbel) (by omega)
        subst e1
        subst e2
        obtain ⟨ck, sk⟩ := hc1 k (by omega)
        obtain ⟨cv, sv⟩ := hc2 k (by omega)
        obtain ⟨w2, hrun, hown2, hg2⟩ := (World.ownsMap.drew hown).update law Yba.underlying23 (show k < maxLen by unfold maxLen; omega) (keyOf_string_mk Yba.underlying26 sk) (plainElem_string (H := Unit) Yba.underlying9 sv)
        have R : Hid (Tab w2 w.heap.size (k + 1) (tab K V (k + 1)) ∧ Below w.heap.size w w2) := ⟨hown2, hbel.drew.grown hg2 hbel.size (fun j hj => by cases hj; exact Nat.le_refl _)⟩
        clear hown hown2 hg2 hc1 hc2 hbel sk sv
        go_wp2
        go_region
        go_wp2
        go_roundw
        case rel => exact ⟨k + 1, by omega, by go_num, R.out.1, R.out.2⟩
        case measure => simp [intOf]; omega
      · have ek : k = l2 := by omega
        subst ek
        have R : Hid _ := And.intro hown hbel
        clear hown hbel
        go_wp2
        go_ret2
        exact ⟨rfl, R.out.1, R.out.2⟩
  · have e : l1 = n := by have := HN.out; omega
    subst e
    go_enter Yba.func5, Yba.ntmps5
    go_wp2
    go_loopw [8] (fun i wr => ∃ k : Nat, k ≤ l1 ∧ i = .int .i64 k ∧ Tab wr w.heap.size k (tab K V k) ∧ Below w.heap.size w wr) (fun i _ => l1 - (intOf i).toNat)
    case atStart => exact ⟨0, Nat.zero_le _, rfl, World.ownsMap_made _ _ _ _, (Below.refl _ _).alloc (Nat.le_refl _) _⟩
    case round =>
      obtain ⟨k, hk, rfl, hown, hbel⟩ := hrel
      by_cases hlt : k < l1
      · obtain ⟨b1, o1, e1, _, hc1⟩ := (HK.out.below hbel) (by omega)
        obtain ⟨b2, o2, e2, _, hc2⟩ := (HV.out.below hbel) (by omega)
        subst e1
        subst e2
        obtain ⟨ck, sk⟩ := hc1 k (by omega)
        obtain ⟨cv, sv⟩ := hc2 k (by omega)
        obtain ⟨w2, hrun, hown2, hg2⟩ := (World.ownsMap.drew hown).update law Yba.underlying23 (show k < maxLen by unfold maxLen; omega) (keyOf_string_mk Yba.underlying26 sk) (plainElem_string (H := Unit) Yba.underlying9 sv)
        have R : Hid (Tab w2 w.heap.size (k + 1) (tab K V (k + 1)) ∧ Below w.heap.size w w2) := ⟨hown2, hbel.drew.grown hg2 hbel.size (fun j hj => by cases hj; exact Nat.le_refl _)⟩
        clear hown hown2 hg2 hc1 hc2 hbel sk sv
        go_wp2
        go_region
        go_wp2
        go_roundw
        case rel => exact ⟨k + 1, by omega, by go_num, R.out.1, R.out.2⟩
        case measure => simp [intOf]; omega
      · have ek : k = l1 := by omega
        subst ek
        have R : Hid _ := And.intro hown hbel
        clear hown hbel
        go_wp2
        go_ret2
        exact ⟨rfl, R.out.1, R.out.2⟩
end Go.Proofs.Ybulkabwe
