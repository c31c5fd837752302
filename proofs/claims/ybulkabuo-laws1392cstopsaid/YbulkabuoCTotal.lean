import Derived.Test.YbulkabuoCItems
import Derived.WalkSpells
import Derived.WalkLawsBesides
import Derived.Handy
namespace Go.Proofs.Ybulkabuo
open Go.RowKit

set_option maxRecDepth 100000 in
set_option maxHeartbeats 400000 in
theorem total_any (b off len cap : Nat) (I : Nat → Item) (w : World) (hb : b < w.heap.size) (hl : len ≤ 1024) (hI : ∀ k, k < len → ItemIn w b off k (I k)) :
    Calls Yba.prog 9 #[.slice (some ⟨b, off, none⟩) len cap] w fun e w' => e = .returned (.int .i64 (tot I len)) ∧ Below w.heap.size w w' := by
  go_enter Yba.func9, Yba.ntmps9
  go_wp2
  go_loopw [3, 8] (fun t i wr => ∃ k : Nat, k ≤ len ∧ i = .int .i64 k ∧ t = .int .i64 (tot I k) ∧ Below w.heap.size w wr) (fun _ i _ => len - (intOf i).toNat)
  case atStart => exact ⟨0, Nat.zero_le _, rfl, rfl, Below.refl _ _⟩
  case round =>
    obtain ⟨k, hk, rfl, rfl, hbel⟩ := hrel
    have ht := tot_le hI k hk
    have ht2 : tot I k ≤ 1024 * 140737488351232 := Nat.le_trans ht (Nat.mul_le_mul_right _ (by omega))
    clear ht
    by_cases hlt : k < len
    · obtain ⟨c1, c2, _, _, hs, _⟩ := (hI k hlt).below hb (Nat.le_refl _) hbel
      go_wp2
      go_roundw
      case rel => exact ⟨k + 1, by omega, by go_num, by simp only [tot]; go_num, hbel.alloc hbel.size _⟩
      case measure => simp [intOf]; omega
    · go_wp2
      go_ret
      have e : k = len := by omega
      subst e
      exact ⟨rfl, hbel⟩

/-- An empty slice, nil or not: nothing is read. -/
theorem total_zero (a : Option Addr) (cap : Nat) (w : World) :
    Calls Yba.prog 9 #[.slice a 0 cap] w fun e w' => e = .returned (.int .i64 0) ∧ w' = w := by
  go_enter Yba.func9, Yba.ntmps9
  go_wp2
  refine wp_loop_rounds 1 ?_
  rw [rounds_succ]
  go_wp2
  go_ret
  exact ⟨rfl, rfl⟩

end Go.Proofs.Ybulkabuo
