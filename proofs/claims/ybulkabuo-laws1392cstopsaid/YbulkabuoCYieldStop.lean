import Derived.Test.YbulkabuoCYield
namespace Go.Proofs.Ybulkabuo
open Go.RowKit

set_option maxRecDepth 100000 in
set_option maxHeartbeats 400000 in
theorem yield_stop (B bg bp : Nat) (gs ps : List Int) (vg vp : Value) (n q : Int) (bl : Nat) (L : Int) (w : World) (h : YInv B bg bp gs ps vg vp w) (hl1 : gs.length ≤ 8192) (hl2 : ps.length ≤ 8192) (hB : B ≤ w.heap.size) (hbl : w.heap[bl]? = some (.cells #[.int .i64 L] 3 (0, 0))) :
    Calls Yba.prog 14 #[.agg #[.int .u8 0, .int .u8 0, .int .u16 0, .int .u8 n, .int .u8 q, .slice none 0 0, .int .u8 0, .slice none 0 0], .pointer (some ⟨bg, 0, none⟩), .pointer (some ⟨bp, 0, none⟩), .pointer (some ⟨bl, 0, none⟩)] w
      fun e w' => e = .returned (.bool (decide ((gs.length : Int) + 1 < L))) ∧ (∃ vg' vp', YInv B bg bp (gs ++ [n]) (ps ++ [q]) vg' vp' w') ∧ w'.heap[bl]? = some (.cells #[.int .i64 L] 3 (0, 0)) ∧ Below B w w' := by
  obtain ⟨i0, hi, hz0, hz1, hz2⟩ := info_parts info5
  have H : Hid (YInv B bg bp gs ps vg vp w) := h
  have cg := cell_of_one h.cg
  have cp := cell_of_one h.cp
  have fg := free_of_one h.cg
  have fp := free_of_one h.cp
  have lg := lt_of_block h.cg
  have lp := lt_of_block h.cp
  have HL : Hid (w.heap[bl]? = some (.cells #[.int .i64 L] 3 (0, 0))) := hbl
  clear h hbl
  go_enter Yba.func14, Yba.ntmps14
  go_wp2_with (at_builtin; refine wpList_append_lies _ rfl (.tmp 6) (.tmp 9) 23 rfl B 5 i0 (.int .u8 0) 1 1 Yba.underlying23 hi hz0 hz1 hz2 rfl (by decide) vg gs.length (gs.map (Value.int .u8)) rfl ((H.out.alloc _).alloc _).og ⟨w.heap.size + 1, 0, none⟩ 1 1 [.int .u8 n] rfl rfl ?c1 (one_cell n) (by decide) ?c2 ?c3 ?c4 (w.heap.size + 2) ?c5 ?c6)
  case c1 => exact news_alloc (cs := #[.int .u8 n]) (by simp)
  case c2 => unfold maxLen; omega
  case c3 => omega
  case c4 => simp; omega
  case c5 => simp
  case c6 =>
    intro g cap w1 hown hg hat hlt
    have h2 := (H.out.alloc (.cells #[.int .u8 0, .int .u8 0, .int .u16 0, .int .u8 n, .int .u8 q, .slice none 0 0, .int .u8 0, .slice none 0 0] 63)).alloc (.cells #[.int .u8 n] 5)
    have hbox : (w.alloc (.cells #[.int .u8 0, .int .u8 0, .int .u16 0, .int .u8 n, .int .u8 q, .slice none 0 0, .int .u8 0, .slice none 0 0] 63)).heap[w.heap.size]? = some (.cells #[.int .u8 0, .int .u8 0, .int .u16 0, .int .u8 n, .int .u8 q, .slice none 0 0, .int .u8 0, .slice none 0 0] 63 (0, 0)) := heap_alloc_new w _
    have hbox1 := blk_kept hg (blk_alloc hbox (.cells #[.int .u8 n] 5)) (own_not h2.og (blk_alloc hbox (.cells #[.int .u8 n] 5)) (by decide))
    have cg1 := cell_of_one (blk_kept hg h2.cg (own_not h2.og h2.cg (by decide)))
    have fg1 := free_of_one (blk_kept hg h2.cg (own_not h2.og h2.cg (by decide)))
    have h3 := h2.stepG hown hg (by simpa using hat)
    have B1 : Hid (Below B w (w1.setCell ⟨bg, 0, none⟩ (.slice (some ⟨g, 0, none⟩) (gs.length + 1) cap))) := ((((Below.refl B w).alloc hB _).alloc (by simp; omega) _).grown hg (by simp; omega) (fun k hk => (own_blk h2.og k hk).1)).setCell h2.geg _
    have cp1 := cell_of_one h3.cp
    have fp1 := free_of_one h3.cp
    have hb4 : (w1.setCell ⟨bg, 0, none⟩ (.slice (some ⟨g, 0, none⟩) (gs.length + 1) cap)).cell? ⟨w.heap.size, 4, none⟩ = some (.int .u8 q) := by
      simp [World.cell?, blk_set (a := ⟨bg, 0, none⟩) hbox1 (.slice (some ⟨g, 0, none⟩) (gs.length + 1) cap) (by simp; omega)]
    have hs1 : B ≤ w1.heap.size := by have := hg.size; simp at this; omega
    have hngl : bl ≠ bg := fun e => by have h5 := h2.cg; rw [← e, blk_alloc (blk_alloc HL.out _) _] at h5; simp at h5
    have HL1 : Hid ((w1.setCell ⟨bg, 0, none⟩ (.slice (some ⟨g, 0, none⟩) (gs.length + 1) cap)).heap[bl]? = some (.cells #[.int .i64 L] 3 (0, 0))) := blk_set (blk_kept hg (blk_alloc (blk_alloc HL.out _) _) (own_not h2.og (blk_alloc (blk_alloc HL.out _) _) (by decide))) _ hngl
    have H3 := h3
    clear hown hg hat h2 hbox hbox1 h3
    have H4 : Hid _ := H3
    clear H3
    go_wp2_with (at_builtin; refine wpList_append_lies _ rfl (.tmp 11) (.tmp 14) 23 rfl B 5 i0 (.int .u8 0) 1 1 Yba.underlying23 hi hz0 hz1 hz2 rfl (by decide) vp ps.length (ps.map (Value.int .u8)) rfl (H4.out.alloc _).op ⟨w1.heap.size, 0, none⟩ 1 1 [.int .u8 q] rfl rfl ?d1 (one_cell q) (by decide) ?d2 ?d3 ?d4 (w1.heap.size + 1) ?d5 ?d6)
    case d1 => exact news_alloc (cs := #[.int .u8 q]) (by simp)
    case d2 => unfold maxLen; omega
    case d3 => omega
    case d4 => simp; omega
    case d5 => simp
    case d6 =>
      intro g2 cap2 w2 hown hg hat hlt2
      have h2 := H4.out.alloc (.cells #[.int .u8 q] 5)
      have cp2 := cell_of_one (blk_kept hg h2.cp (own_not h2.op h2.cp (by decide)))
      have fp2 := free_of_one (blk_kept hg h2.cp (own_not h2.op h2.cp (by decide)))
      have h3 := h2.stepP hown hg (by simpa using hat)
      have hnpl : bl ≠ bp := fun e => by have h5 := h2.cp; rw [← e, blk_alloc HL1.out _] at h5; simp at h5
      have HL2 : (w2.setCell ⟨bp, 0, none⟩ (.slice (some ⟨g2, 0, none⟩) (ps.length + 1) cap2)).heap[bl]? = some (.cells #[.int .i64 L] 3 (0, 0)) := blk_set (blk_kept hg (blk_alloc HL1.out _) (own_not h2.op (blk_alloc HL1.out _) (by decide))) _ hnpl
      have cl := cell_of_one HL2
      have cg3 := cell_of_one h3.cg
      have B2 : Below B w _ := (((B1.out.alloc (by simp; omega) _).grown hg (by simp; omega) (fun k hk => (own_blk h2.op k hk).1)).setCell (p := ⟨bp, 0, none⟩) h2.gep (.slice (some ⟨g2, 0, none⟩) (ps.length + 1) cap2))
      have R : Hid (_ ∧ _ ∧ _) := ⟨h3, HL2, B2⟩
      clear hown hg hat h2 h3 B2 HL2
      go_wp2
      go_ret
      exact ⟨rfl, ⟨_, _, R.out.1⟩, R.out.2.1, R.out.2.2⟩
end Go.Proofs.Ybulkabuo
