import Derived.Test.YbulkabuoCAllWalk
import Derived.Test.YbulkabuoCIterStop
import Derived.Test.YbulkabuoCYieldStop
import Derived.Deep.QuietTactic
import Derived.Deep.RegionWith
import Derived.BigQuiet
namespace Go.Proofs.Ybulkabuo
open Go.RowKit

theorem stopped_stop {L : Int} {I : Nat → Item} {n t : Nat} {gs ps : List Int} (h : Stopped (fun i => decide ((i : Int) < L)) I n gs ps) (hL : 1 ≤ L) (ht : (t : Int) = min L (gN I n).length) :
    gs = (gN I n).take t ∧ ps = (gP I n).take t ∧ gs.length = t ∧ ps.length = t := by
  obtain ⟨h1, h2, h3, h4, h5⟩ := h
  have e1 := List.prefix_iff_eq_take.1 h1
  have e2 := List.prefix_iff_eq_take.1 h2
  have hle := h1.length_le
  have ht2 : gs.length = t := by
    have hlow : ∀ i : Nat, 1 ≤ i → i < gs.length → (i : Int) < L := fun i a b => by simpa using h5 i a b
    have hub : (gs.length : Int) ≤ L := by
      rcases Nat.lt_or_ge gs.length 2 with h | h
      · omega
      · have := hlow (gs.length - 1) (by omega) (by omega)
        omega
    rcases h4 with ⟨h4, _⟩ | h4
    · have : gs.length = (gN I n).length := by rw [h4]
      omega
    · have h6 : ¬ (gs.length : Int) < L := by simpa using h4
      omega
  refine ⟨?_, ?_, ht2, by omega⟩
  · rw [← ht2]; exact e1
  · rw [← ht2, ← h3]; exact e2

theorem yinv_start2 (w2 : World) (L : Int) (o : Obj) :
    YInv w2.heap.size (w2.heap.size + 1) (w2.heap.size + 2) [] [] (.slice none 0 0) (.slice none 0 0) ((((w2.alloc (.cells #[.int .i64 L] 3)).alloc (.cells #[.slice none 0 0] 23)).alloc (.cells #[.slice none 0 0] 23)).alloc o) ∧
    ((((w2.alloc (.cells #[.int .i64 L] 3)).alloc (.cells #[.slice none 0 0] 23)).alloc (.cells #[.slice none 0 0] 23)).alloc o).heap[w2.heap.size]? = some (.cells #[.int .i64 L] 3 (0, 0)) := by
  have h0 : (w2.alloc (.cells #[.int .i64 L] 3)).heap[w2.heap.size]? = some (.cells #[.int .i64 L] 3 (0, 0)) := heap_alloc_new _ _
  have h1 : ((w2.alloc (.cells #[.int .i64 L] 3)).alloc (.cells #[.slice none 0 0] 23)).heap[w2.heap.size + 1]? = some (.cells #[.slice none 0 0] 23 (0, 0)) := by
    have := heap_alloc_new (w2.alloc (.cells #[.int .i64 L] 3)) (.cells #[.slice none 0 0] 23)
    simpa using this
  have h2 : (((w2.alloc (.cells #[.int .i64 L] 3)).alloc (.cells #[.slice none 0 0] 23)).alloc (.cells #[.slice none 0 0] 23)).heap[w2.heap.size + 2]? = some (.cells #[.slice none 0 0] 23 (0, 0)) := by
    have := heap_alloc_new ((w2.alloc (.cells #[.int .i64 L] 3)).alloc (.cells #[.slice none 0 0] 23)) (.cells #[.slice none 0 0] 23)
    simpa using this
  exact ⟨YInv.alloc ⟨by omega, by omega, by omega, blk_alloc h1 _, h2, World.ownsRow_nil _ _ _ _, World.ownsRow_nil _ _ _ _, Or.inl rfl⟩ o, blk_alloc (blk_alloc (blk_alloc h0 _) _) _⟩

theorem below4 (w2 : World) (o1 o2 o3 o4 : Obj) : Below w2.heap.size w2 ((((w2.alloc o1).alloc o2).alloc o3).alloc o4) :=
  (below3 w2 _ _ _).alloc (by simp; omega) _

set_option maxRecDepth 100000 in
set_option maxHeartbeats 400000 in
theorem stop_long (a : Option Addr) (len cap : Nat) (st : Int) (w : World) (hl : 1024 < len) (hm : len ≤ 9223372036854775807) :
    Calls Yba.prog 6 #[.slice a len cap, .int .u8 st] w fun e w' => e = .returned (.bool true) ∧ w' = w := by
  go_enter Yba.func6, Yba.ntmps6
  go_wp2
  go_ret
  exact ⟨rfl, rfl⟩

set_option maxRecDepth 100000 in
set_option maxHeartbeats 400000 in
theorem stop_many (a : Option Addr) (len cap : Nat) (st : Int) (I : Nat → Item) (w : World) (hl : len ≤ 1024) (hI : ItemsAt w a len I) (ht : 8192 < tot I len) (hb : tot I len ≤ 9223372036854775807) :
    Calls Yba.prog 6 #[.slice a len cap, .int .u8 st] w fun e w' => e = .returned (.bool true) ∧ Below w.heap.size w w' := by
  go_enter Yba.func6, Yba.ntmps6
  go_wp2_with (go_at_call 9; refine (total_gen a len cap I _ hl hI).mono ?_; rintro e w1 ⟨rfl, hb1⟩)
  go_ret
  exact ⟨rfl, by assumption⟩

set_option maxRecDepth 100000 in
set_option maxHeartbeats 400000 in
theorem stop_zero (a : Option Addr) (len cap : Nat) (st : Int) (I : Nat → Item) (w : World) (hs0 : 0 ≤ st) (hs1 : st ≤ 255) (hl : len ≤ 1024) (hI : ItemsAt w a len I) (ht : tot I len ≤ 8192) (hn : (gN I len).length = 0) :
    Calls Yba.prog 6 #[.slice a len cap, .int .u8 st] w fun e w' => e = .returned (.bool true) ∧ Below w.heap.size w w' := by
  have HI : Hid (ItemsAt w a len I) := hI
  have hlN := Nat.le_trans (gN_le I len) ht
  clear hI
  go_enter Yba.func6, Yba.ntmps6
  go_wp2_with fail
  refine (total_gen a len cap I _ hl HI.out).mono ?_
  rintro e w1 ⟨rfl, hb1⟩
  go_wp2_with fail
  refine (build_gen a len cap I _ hl ht (HI.out.below hb1)).mono ?_
  rintro e w2 ⟨c, wn, wp, rfl, hbi⟩
  obtain ⟨ao, cap2, V, rfl, hco, hC⟩ := hbi.conts
  obtain ⟨a3, c3, rfl, hc3, _, f3⟩ := octets_of hbi.on
  obtain ⟨a4, c4, rfl, hc4, hlp, f4⟩ := octets_of hbi.op
  have HB : Hid _ := hbi
  have HCO : Hid _ := hco
  have HC : Hid _ := hC
  have HB1 : Hid _ := hb1
  have F3 : Hid (Octets w2 a3 (gN I len).length (gN I len)) := f3
  have F4 : Hid (Octets w2 a4 (gP I len).length (gP I len)) := f4
  have hpl := gP_length I len
  have HPL : Hid _ := hpl
  clear hbi hco hC hb1 f3 f4 hlp hpl
  go_wp2_with (go_at_call 11; go_in)
  refine (iter_14 w2.heap.size I V (fun gs ps w' => (∃ vg vp, YInv w2.heap.size (w2.heap.size + 1) (w2.heap.size + 2) gs ps vg vp w') ∧ w'.heap[w2.heap.size]? = some (.cells #[.int .i64 1] 3 (0, 0))) (fun i => decide ((i : Int) < 1)) #[.pointer (some ⟨w2.heap.size + 1, 0, none⟩), .pointer (some ⟨w2.heap.size + 1 + 1, 0, none⟩), .pointer (some ⟨w2.heap.size, 0, none⟩)] ao len cap2 (w2.heap.size + 1 + 1 + 1) _ ?p1 ?p2 hl ?p4 ?p5 ?p6 ?p7 ?p8 ?p9 ?p10).mono ?p11
  case p1 => simp; omega
  case p2 => exact hlN
  case p4 => exact new_cell _ _ _ (by simp)
  case p5 =>
    intro h0
    obtain ⟨gc, e, hgc, hc⟩ := HCO.out h0
    exact ⟨gc, e, hgc, fun k hk => ((below4 w2 _ _ _ _).cell (p := ⟨gc, k, none⟩) hgc).trans (hc k hk)⟩
  case p6 => exact fun k hk => (HC.out k hk).below (below4 w2 _ _ _ _) (Nat.le_refl _)
  case p7 => exact fun k hk => len_le ht hk
  case p8 => exact ⟨⟨_, _, (yinv_start2 w2 _ _).1⟩, (yinv_start2 w2 _ _).2⟩
  case p9 =>
    rintro gs ps m q w4 ⟨⟨vg, vp, hy⟩, hbl⟩ h1 h2 h3
    refine (yield_stop _ _ _ gs ps vg vp m q w2.heap.size 1 w4 hy h1 (by omega) h3 hbl).mono ?_
    rintro e w5 ⟨rfl, h4, h5, h6⟩
    exact ⟨by simp, ⟨h4, h5⟩, h6⟩
  case p10 =>
    rintro gs ps w4 o ⟨⟨vg, vp, hy⟩, hbl⟩
    exact ⟨⟨vg, vp, hy.alloc o⟩, blk_alloc hbl o⟩
  case p11 =>
    rintro e w4 ⟨rfl, ⟨gs, ps, ⟨⟨vg, vp, hy⟩, hbl⟩, hst⟩, hb4⟩
    obtain ⟨eg, ep, lg, lp⟩ := stopped_stop (t := 0) hst (by omega) (by omega)
    have hbel : Hid (Below w.heap.size w w4) := HB1.out.trans (((HB.out.below).mono HB1.out.size).trans (((below4 w2 _ _ _ _).trans hb4).mono (Nat.le_trans HB1.out.size HB.out.sz)))
    have hb24 := (below4 w2 _ _ _ _).trans hb4
    have cg := cell_of_one hy.cg
    have cp := cell_of_one hy.cp
    obtain ⟨a1, c1, rfl, _, _, f1⟩ := octets_of hy.og
    obtain ⟨a2, c2, rfl, _, _, f2⟩ := octets_of hy.op
    rw [lg] at f1 cg
    rw [lp] at f2 cp
    rw [eg] at f1
    rw [ep] at f2
    have F1 : Hid (Octets w4 a1 0 ((gN I len).take 0)) := f1
    have F2 : Hid (Octets w4 a2 0 ((gP I len).take 0)) := f2
    have F5 : Hid (Octets w4 a3 0 ((gN I len).take 0)) := (F3.out.below hb24).take (by omega)
    have F6 : Hid (Octets w4 a4 0 ((gP I len).take 0)) := (F4.out.below hb24).take (by have := HPL.out; omega)
    have htN : 0 ≤ 8192 := by omega
    have hw3 : 0 ≤ c3 := by omega
    have hw4 : 0 ≤ c4 := by have := HPL.out; omega
    clear f1 f2 hy hst hb4 hb24 eg ep lg lp hbl
    go_wp2_with fail
    go_quiet (first | (go_at_call_of 13 (Value.slice a1 0 c1); exact Calls.quiet_of (equal_gen (fs := (gN I len).take 0) htN (F1.out.drewN _) (F5.out.drewN _))) | (go_at_call_of 13 (Value.slice a2 0 c2); exact Calls.quiet_of (equal_gen (fs := (gP I len).take 0) htN (F2.out.drewN _) (F6.out.drewN _))))
    go_wp2
    go_ret
    exact ⟨rfl, below_drewN hbel.out _⟩

set_option maxRecDepth 100000 in
set_option maxHeartbeats 400000 in
theorem stop_one (a : Option Addr) (len cap : Nat) (st : Int) (I : Nat → Item) (w : World) (hs0 : 0 ≤ st) (hs1 : st ≤ 255) (hl : len ≤ 1024) (hI : ItemsAt w a len I) (ht : tot I len ≤ 8192) (hn : 0 < (gN I len).length) (hr : st % ((gN I len).length + 1) = 0) :
    Calls Yba.prog 6 #[.slice a len cap, .int .u8 st] w fun e w' => e = .returned (.bool true) ∧ Below w.heap.size w w' := by
  have HI : Hid (ItemsAt w a len I) := hI
  have hlN := Nat.le_trans (gN_le I len) ht
  clear hI
  go_enter Yba.func6, Yba.ntmps6
  go_wp2_with fail
  refine (total_gen a len cap I _ hl HI.out).mono ?_
  rintro e w1 ⟨rfl, hb1⟩
  go_wp2_with fail
  refine (build_gen a len cap I _ hl ht (HI.out.below hb1)).mono ?_
  rintro e w2 ⟨c, wn, wp, rfl, hbi⟩
  obtain ⟨ao, cap2, V, rfl, hco, hC⟩ := hbi.conts
  obtain ⟨a3, c3, rfl, hc3, _, f3⟩ := octets_of hbi.on
  obtain ⟨a4, c4, rfl, hc4, hlp, f4⟩ := octets_of hbi.op
  have HB : Hid _ := hbi
  have HCO : Hid _ := hco
  have HC : Hid _ := hC
  have HB1 : Hid _ := hb1
  have F3 : Hid (Octets w2 a3 (gN I len).length (gN I len)) := f3
  have F4 : Hid (Octets w2 a4 (gP I len).length (gP I len)) := f4
  have hpl := gP_length I len
  have HPL : Hid _ := hpl
  clear hbi hco hC hb1 f3 f4 hlp hpl
  go_wp2_with (go_at_call 11; go_in)
  refine (iter_14 w2.heap.size I V (fun gs ps w' => (∃ vg vp, YInv w2.heap.size (w2.heap.size + 1) (w2.heap.size + 2) gs ps vg vp w') ∧ w'.heap[w2.heap.size]? = some (.cells #[.int .i64 1] 3 (0, 0))) (fun i => decide ((i : Int) < 1)) #[.pointer (some ⟨w2.heap.size + 1, 0, none⟩), .pointer (some ⟨w2.heap.size + 1 + 1, 0, none⟩), .pointer (some ⟨w2.heap.size, 0, none⟩)] ao len cap2 (w2.heap.size + 1 + 1 + 1) _ ?p1 ?p2 hl ?p4 ?p5 ?p6 ?p7 ?p8 ?p9 ?p10).mono ?p11
  case p1 => simp; omega
  case p2 => exact hlN
  case p4 => exact new_cell _ _ _ (by simp)
  case p5 =>
    intro h0
    obtain ⟨gc, e, hgc, hc⟩ := HCO.out h0
    exact ⟨gc, e, hgc, fun k hk => ((below4 w2 _ _ _ _).cell (p := ⟨gc, k, none⟩) hgc).trans (hc k hk)⟩
  case p6 => exact fun k hk => (HC.out k hk).below (below4 w2 _ _ _ _) (Nat.le_refl _)
  case p7 => exact fun k hk => len_le ht hk
  case p8 => exact ⟨⟨_, _, (yinv_start2 w2 _ _).1⟩, (yinv_start2 w2 _ _).2⟩
  case p9 =>
    rintro gs ps m q w4 ⟨⟨vg, vp, hy⟩, hbl⟩ h1 h2 h3
    refine (yield_stop _ _ _ gs ps vg vp m q w2.heap.size 1 w4 hy h1 (by omega) h3 hbl).mono ?_
    rintro e w5 ⟨rfl, h4, h5, h6⟩
    exact ⟨by simp, ⟨h4, h5⟩, h6⟩
  case p10 =>
    rintro gs ps w4 o ⟨⟨vg, vp, hy⟩, hbl⟩
    exact ⟨⟨vg, vp, hy.alloc o⟩, blk_alloc hbl o⟩
  case p11 =>
    rintro e w4 ⟨rfl, ⟨gs, ps, ⟨⟨vg, vp, hy⟩, hbl⟩, hst⟩, hb4⟩
    obtain ⟨eg, ep, lg, lp⟩ := stopped_stop (t := 1) hst (by omega) (by omega)
    have hbel : Hid (Below w.heap.size w w4) := HB1.out.trans (((HB.out.below).mono HB1.out.size).trans (((below4 w2 _ _ _ _).trans hb4).mono (Nat.le_trans HB1.out.size HB.out.sz)))
    have hb24 := (below4 w2 _ _ _ _).trans hb4
    have cg := cell_of_one hy.cg
    have cp := cell_of_one hy.cp
    obtain ⟨a1, c1, rfl, _, _, f1⟩ := octets_of hy.og
    obtain ⟨a2, c2, rfl, _, _, f2⟩ := octets_of hy.op
    rw [lg] at f1 cg
    rw [lp] at f2 cp
    rw [eg] at f1
    rw [ep] at f2
    have F1 : Hid (Octets w4 a1 1 ((gN I len).take 1)) := f1
    have F2 : Hid (Octets w4 a2 1 ((gP I len).take 1)) := f2
    have F5 : Hid (Octets w4 a3 1 ((gN I len).take 1)) := (F3.out.below hb24).take (by omega)
    have F6 : Hid (Octets w4 a4 1 ((gP I len).take 1)) := (F4.out.below hb24).take (by have := HPL.out; omega)
    have htN : 1 ≤ 8192 := by omega
    have hw3 : 1 ≤ c3 := by omega
    have hw4 : 1 ≤ c4 := by have := HPL.out; omega
    clear f1 f2 hy hst hb4 hb24 eg ep lg lp hbl
    go_wp2_with fail
    go_quiet (first | (go_at_call_of 13 (Value.slice a1 1 c1); exact Calls.quiet_of (equal_gen (fs := (gN I len).take 1) htN (F1.out.drewN _) (F5.out.drewN _))) | (go_at_call_of 13 (Value.slice a2 1 c2); exact Calls.quiet_of (equal_gen (fs := (gP I len).take 1) htN (F2.out.drewN _) (F6.out.drewN _))))
    go_wp2
    go_ret
    exact ⟨rfl, below_drewN hbel.out _⟩

set_option maxRecDepth 100000 in
set_option maxHeartbeats 400000 in
theorem stop_mid (a : Option Addr) (len cap : Nat) (st : Int) (I : Nat → Item) (w : World) (hs0 : 0 ≤ st) (hs1 : st ≤ 255) (hl : len ≤ 1024) (hI : ItemsAt w a len I) (ht : tot I len ≤ 8192) (r : Nat) (hr : st % ((gN I len).length + 1) = (r : Int)) (hr1 : 1 ≤ r) (hr2 : r ≤ (gN I len).length) :
    Calls Yba.prog 6 #[.slice a len cap, .int .u8 st] w fun e w' => e = .returned (.bool true) ∧ Below w.heap.size w w' := by
  have HI : Hid (ItemsAt w a len I) := hI
  have hlN := Nat.le_trans (gN_le I len) ht
  clear hI
  go_enter Yba.func6, Yba.ntmps6
  go_wp2_with fail
  refine (total_gen a len cap I _ hl HI.out).mono ?_
  rintro e w1 ⟨rfl, hb1⟩
  go_wp2_with fail
  refine (build_gen a len cap I _ hl ht (HI.out.below hb1)).mono ?_
  rintro e w2 ⟨c, wn, wp, rfl, hbi⟩
  obtain ⟨ao, cap2, V, rfl, hco, hC⟩ := hbi.conts
  obtain ⟨a3, c3, rfl, hc3, _, f3⟩ := octets_of hbi.on
  obtain ⟨a4, c4, rfl, hc4, hlp, f4⟩ := octets_of hbi.op
  have HB : Hid _ := hbi
  have HCO : Hid _ := hco
  have HC : Hid _ := hC
  have HB1 : Hid _ := hb1
  have F3 : Hid (Octets w2 a3 (gN I len).length (gN I len)) := f3
  have F4 : Hid (Octets w2 a4 (gP I len).length (gP I len)) := f4
  have hpl := gP_length I len
  have HPL : Hid _ := hpl
  clear hbi hco hC hb1 f3 f4 hlp hpl
  go_wp2_with (go_at_call 11; go_in)
  refine (iter_14 w2.heap.size I V (fun gs ps w' => (∃ vg vp, YInv w2.heap.size (w2.heap.size + 1) (w2.heap.size + 2) gs ps vg vp w') ∧ w'.heap[w2.heap.size]? = some (.cells #[.int .i64 r] 3 (0, 0))) (fun i => decide ((i : Int) < r)) #[.pointer (some ⟨w2.heap.size + 1, 0, none⟩), .pointer (some ⟨w2.heap.size + 1 + 1, 0, none⟩), .pointer (some ⟨w2.heap.size, 0, none⟩)] ao len cap2 (w2.heap.size + 1 + 1 + 1) _ ?p1 ?p2 hl ?p4 ?p5 ?p6 ?p7 ?p8 ?p9 ?p10).mono ?p11
  case p1 => simp; omega
  case p2 => exact hlN
  case p4 => exact new_cell _ _ _ (by simp)
  case p5 =>
    intro h0
    obtain ⟨gc, e, hgc, hc⟩ := HCO.out h0
    exact ⟨gc, e, hgc, fun k hk => ((below4 w2 _ _ _ _).cell (p := ⟨gc, k, none⟩) hgc).trans (hc k hk)⟩
  case p6 => exact fun k hk => (HC.out k hk).below (below4 w2 _ _ _ _) (Nat.le_refl _)
  case p7 => exact fun k hk => len_le ht hk
  case p8 => exact ⟨⟨_, _, (yinv_start2 w2 _ _).1⟩, (yinv_start2 w2 _ _).2⟩
  case p9 =>
    rintro gs ps m q w4 ⟨⟨vg, vp, hy⟩, hbl⟩ h1 h2 h3
    refine (yield_stop _ _ _ gs ps vg vp m q w2.heap.size r w4 hy h1 (by omega) h3 hbl).mono ?_
    rintro e w5 ⟨rfl, h4, h5, h6⟩
    exact ⟨by simp, ⟨h4, h5⟩, h6⟩
  case p10 =>
    rintro gs ps w4 o ⟨⟨vg, vp, hy⟩, hbl⟩
    exact ⟨⟨vg, vp, hy.alloc o⟩, blk_alloc hbl o⟩
  case p11 =>
    rintro e w4 ⟨rfl, ⟨gs, ps, ⟨⟨vg, vp, hy⟩, hbl⟩, hst⟩, hb4⟩
    obtain ⟨eg, ep, lg, lp⟩ := stopped_stop (t := r) hst (by omega) (by omega)
    have hbel : Hid (Below w.heap.size w w4) := HB1.out.trans (((HB.out.below).mono HB1.out.size).trans (((below4 w2 _ _ _ _).trans hb4).mono (Nat.le_trans HB1.out.size HB.out.sz)))
    have hb24 := (below4 w2 _ _ _ _).trans hb4
    have cg := cell_of_one hy.cg
    have cp := cell_of_one hy.cp
    obtain ⟨a1, c1, rfl, _, _, f1⟩ := octets_of hy.og
    obtain ⟨a2, c2, rfl, _, _, f2⟩ := octets_of hy.op
    rw [lg] at f1 cg
    rw [lp] at f2 cp
    rw [eg] at f1
    rw [ep] at f2
    have F1 : Hid (Octets w4 a1 r ((gN I len).take r)) := f1
    have F2 : Hid (Octets w4 a2 r ((gP I len).take r)) := f2
    have F5 : Hid (Octets w4 a3 r ((gN I len).take r)) := (F3.out.below hb24).take (by omega)
    have F6 : Hid (Octets w4 a4 r ((gP I len).take r)) := (F4.out.below hb24).take (by have := HPL.out; omega)
    have htN : r ≤ 8192 := by omega
    have hw3 : r ≤ c3 := by omega
    have hw4 : r ≤ c4 := by have := HPL.out; omega
    clear f1 f2 hy hst hb4 hb24 eg ep lg lp hbl
    go_wp2_with fail
    go_quiet (first | (go_at_call_of 13 (Value.slice a1 r c1); exact Calls.quiet_of (equal_gen (fs := (gN I len).take r) htN (F1.out.drewN _) (F5.out.drewN _))) | (go_at_call_of 13 (Value.slice a2 r c2); exact Calls.quiet_of (equal_gen (fs := (gP I len).take r) htN (F2.out.drewN _) (F6.out.drewN _))))
    go_wp2
    go_ret
    exact ⟨rfl, below_drewN hbel.out _⟩

end Go.Proofs.Ybulkabuo
