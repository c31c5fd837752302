import Derived.Test.YbulkabuoCGen
import Derived.Test.YbulkabuoCIter
import Derived.Test.YbulkabuoCYield
namespace Go.Proofs.Ybulkabuo
open Go.RowKit

set_option maxRecDepth 100000 in
set_option maxHeartbeats 400000 in
theorem all_long (a : Option Addr) (len cap : Nat) (w : World) (hl : 1024 < len) (hm : len ≤ 9223372036854775807) :
    Calls Yba.prog 5 #[.slice a len cap] w fun e w' => e = .returned (.bool true) ∧ w' = w := by
  go_enter Yba.func5, Yba.ntmps5
  go_wp2
  go_ret
  exact ⟨rfl, rfl⟩

set_option maxRecDepth 100000 in
set_option maxHeartbeats 400000 in
theorem all_many (a : Option Addr) (len cap : Nat) (I : Nat → Item) (w : World) (hl : len ≤ 1024) (hI : ItemsAt w a len I) (ht : 8192 < tot I len) (hb : tot I len ≤ 9223372036854775807) :
    Calls Yba.prog 5 #[.slice a len cap] w fun e w' => e = .returned (.bool true) ∧ Below w.heap.size w w' := by
  go_enter Yba.func5, Yba.ntmps5
  go_wp2_with (go_at_call 9; refine (total_gen a len cap I _ hl hI).mono ?_; rintro e w1 ⟨rfl, hb1⟩)
  go_ret
  exact ⟨rfl, by assumption⟩

/-- The two captured variables as they are laid. -/
theorem yinv_start (w2 : World) (o : Obj) : YInv w2.heap.size w2.heap.size (w2.heap.size + 1) [] [] (.slice none 0 0) (.slice none 0 0) (((w2.alloc (.cells #[.slice none 0 0] 23)).alloc (.cells #[.slice none 0 0] 23)).alloc o) := by
  have h1 : (w2.alloc (.cells #[.slice none 0 0] 23)).heap[w2.heap.size]? = some (.cells #[.slice none 0 0] 23 (0, 0)) := heap_alloc_new _ _
  have h2 : ((w2.alloc (.cells #[.slice none 0 0] 23)).alloc (.cells #[.slice none 0 0] 23)).heap[w2.heap.size + 1]? = some (.cells #[.slice none 0 0] 23 (0, 0)) := by
    have := heap_alloc_new (w2.alloc (.cells #[.slice none 0 0] 23)) (.cells #[.slice none 0 0] 23)
    simpa using this
  exact YInv.alloc ⟨Nat.le_refl _, Nat.le_succ _, by omega, blk_alloc h1 _, h2, World.ownsRow_nil _ _ _ _, World.ownsRow_nil _ _ _ _, Or.inl rfl⟩ o

theorem new_cell (w : World) (v : Value) (t : TypeId) {b : Nat} (hb : w.heap.size = b) : (w.alloc (.cells #[v] t)).cell? ⟨b, 0, none⟩ = some v := by
  subst hb
  exact cell_of_one (heap_alloc_new _ _)

theorem below3 (w2 : World) (o1 o2 o3 : Obj) : Below w2.heap.size w2 (((w2.alloc o1).alloc o2).alloc o3) :=
  (((Below.refl _ _).alloc (Nat.le_refl _) _).alloc (by simp) _).alloc (by simp; omega) _

theorem stopped_all {I : Nat → Item} {n : Nat} {gs ps : List Int} (h : Stopped (fun _ => true) I n gs ps) : gs = gN I n ∧ ps = gP I n := by
  obtain ⟨_, _, _, h4, _⟩ := h
  rcases h4 with h4 | h4
  · exact h4
  · cases h4

theorem len_le {I : Nat → Item} {n k : Nat} (ht : tot I n ≤ 8192) (hk : k < n) : (I k).len ≤ 8192 := by
  have h1 := tot_mono I (show k + 1 ≤ n by omega)
  simp only [tot] at h1
  omega

set_option maxRecDepth 100000 in
set_option maxHeartbeats 400000 in
theorem all_few (a : Option Addr) (len cap : Nat) (I : Nat → Item) (w : World) (hl : len ≤ 1024) (hI : ItemsAt w a len I) (ht : tot I len ≤ 8192) :
    Calls Yba.prog 5 #[.slice a len cap] w fun e w' => e = .returned (.bool true) ∧ Below w.heap.size w w' := by
  have HI : Hid (ItemsAt w a len I) := hI
  clear hI
  go_enter Yba.func5, Yba.ntmps5
  go_wp2_with fail
  refine (total_gen a len cap I _ hl HI.out).mono ?_
  rintro e w1 ⟨rfl, hb1⟩
  go_wp2_with fail
  refine (build_gen a len cap I _ hl ht (HI.out.below hb1)).mono ?_
  rintro e w2 ⟨c, wn, wp, rfl, hbi⟩
  obtain ⟨ao, cap2, V, rfl, hco, hC⟩ := hbi.conts
  have HB : Hid _ := hbi
  have HCO : Hid _ := hco
  have HC : Hid _ := hC
  have HB1 : Hid _ := hb1
  clear hbi hco hC hb1
  go_wp2_with (go_at_call 11; go_in)
  refine (iter_12 w2.heap.size I V (fun gs ps w' => ∃ vg vp, YInv w2.heap.size w2.heap.size (w2.heap.size + 1) gs ps vg vp w') (fun _ => true) #[.pointer (some ⟨w2.heap.size, 0, none⟩), .pointer (some ⟨w2.heap.size + 1, 0, none⟩)] ao len cap2 (w2.heap.size + 1 + 1) _ ?p1 ?p2 hl ?p4 ?p5 ?p6 ?p7 ?p8 ?p9 ?p10).mono ?p11
  case p1 => simp; omega
  case p2 => exact Nat.le_trans (gN_le I len) ht
  case p4 => exact new_cell _ _ _ (by simp)
  case p5 =>
    intro h0
    obtain ⟨gc, e, hgc, hc⟩ := HCO.out h0
    exact ⟨gc, e, hgc, fun k hk => ((below3 w2 _ _ _).cell (p := ⟨gc, k, none⟩) hgc).trans (hc k hk)⟩
  case p6 => exact fun k hk => (HC.out k hk).below (below3 w2 _ _ _) (Nat.le_refl _)
  case p7 => exact fun k hk => len_le ht hk
  case p8 => exact ⟨_, _, yinv_start w2 _⟩
  case p9 =>
    rintro gs ps m q w4 ⟨vg, vp, hy⟩ h1 h2 h3
    exact yield_all _ _ _ gs ps vg vp m q w4 hy h1 (by omega) h3
  case p10 =>
    rintro gs ps w4 o ⟨vg, vp, hy⟩
    exact ⟨vg, vp, hy.alloc o⟩
  case p11 =>
    rintro e w4 ⟨rfl, ⟨gs, ps, ⟨vg, vp, hy⟩, hst⟩, hb4⟩
    obtain ⟨rfl, rfl⟩ := stopped_all hst
    have hbel : Hid (Below w.heap.size w w4) := HB1.out.trans (((HB.out.below).mono HB1.out.size).trans (((below3 w2 _ _ _).trans hb4).mono (Nat.le_trans HB1.out.size HB.out.sz)))
    have hb24 := (below3 w2 _ _ _).trans hb4
    have cg := cell_of_one hy.cg
    have cp := cell_of_one hy.cp
    obtain ⟨a1, c1, rfl, _, _, f1⟩ := octets_of hy.og
    obtain ⟨a2, c2, rfl, _, _, f2⟩ := octets_of hy.op
    obtain ⟨a3, c3, rfl, _, _, f3⟩ := octets_of HB.out.on
    obtain ⟨a4, c4, rfl, _, _, f4⟩ := octets_of HB.out.op
    have hlN := Nat.le_trans (gN_le I len) ht
    have hlP : (gP I len).length ≤ 8192 := by rw [gP_length]; exact hlN
    have F1 : Hid (Octets w4 a1 (gN I len).length (gN I len)) := f1
    have F2 : Hid (Octets w4 a2 (gP I len).length (gP I len)) := f2
    have F3 : Hid (Octets w4 a3 (gN I len).length (gN I len)) := f3.below hb24
    have F4 : Hid (Octets w4 a4 (gP I len).length (gP I len)) := f4.below hb24
    clear f1 f2 f3 f4 hy hst hb4 hb24
    go_wp2_with fail
    refine (equal_gen hlN F1.out F3.out).mono ?_
    rintro e w5 ⟨rfl, m5, rfl⟩
    go_wp2_with fail
    refine (equal_gen hlP (F2.out.drewN _) (F4.out.drewN _)).mono ?_
    rintro e w5 ⟨rfl, m6, rfl⟩
    go_wp2_with fail
    go_ret
    exact ⟨rfl, below_drewN hbel.out _⟩
end Go.Proofs.Ybulkabuo
