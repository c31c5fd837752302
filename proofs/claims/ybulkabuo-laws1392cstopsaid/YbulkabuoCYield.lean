import Derived.Test.YbulkabuoRows
import Derived.Test.YbulkabuoCHeap
import Derived.WalkLawsBesides
import Derived.Handy
namespace Go.Proofs.Ybulkabuo
open Go.RowKit

/-- What the two captured variables of the closure hold: two slices of the call's own, apart from one another, over the numbers gathered so far. -/
structure YInv (B bg bp : Nat) (gs ps : List Int) (vg vp : Value) (w : World) : Prop where
  geg : B ≤ bg
  gep : B ≤ bp
  ne : bg ≠ bp
  cg : w.heap[bg]? = some (.cells #[vg] 23 (0, 0))
  cp : w.heap[bp]? = some (.cells #[vp] 23 (0, 0))
  og : w.ownsRow B 5 1 vg gs.length (gs.map (Value.int .u8))
  op : w.ownsRow B 5 1 vp ps.length (ps.map (Value.int .u8))
  ap : vg.ownBlock = none ∨ vg.ownBlock ≠ vp.ownBlock

theorem YInv.alloc {B bg bp : Nat} {gs ps : List Int} {vg vp : Value} {w : World} (h : YInv B bg bp gs ps vg vp w) (o : Obj) : YInv B bg bp gs ps vg vp (w.alloc o) where
  geg := h.geg
  gep := h.gep
  ne := h.ne
  cg := blk_alloc h.cg o
  cp := blk_alloc h.cp o
  og := h.og.alloc o
  op := h.op.alloc o
  ap := h.ap

theorem YInv.stepG {B bg bp : Nat} {gs ps : List Int} {vg vp : Value} {w w' : World} {g cap : Nat} {n : Int} (h : YInv B bg bp gs ps vg vp w)
    (hown : w'.ownsRow B 5 1 (.slice (some ⟨g, 0, none⟩) (gs.length + 1) cap) (gs.length + 1) (gs.map (Value.int .u8) ++ [.int .u8 n])) (hg : w.grownBy w' vg.ownBlock) (hat : vg.ownBlock = some g ∨ g = w.heap.size) :
    YInv B bg bp (gs ++ [n]) ps (.slice (some ⟨g, 0, none⟩) (gs.length + 1) cap) vp (w'.setCell ⟨bg, 0, none⟩ (.slice (some ⟨g, 0, none⟩) (gs.length + 1) cap)) where
  geg := h.geg
  gep := h.gep
  ne := h.ne
  cg := one_setCell (blk_kept hg h.cg (own_not h.og h.cg (by decide)))
  cp := blk_set (blk_kept hg h.cp (own_not h.og h.cp (by decide))) _ (Ne.symm h.ne)
  og := by
    have hcg := blk_kept hg h.cg (own_not h.og h.cg (by decide))
    have := ownsRow_setCell_other hown (a := ⟨bg, 0, none⟩) (own_not hown hcg (by decide)) (.slice (some ⟨g, 0, none⟩) (gs.length + 1) cap)
    simpa using this
  op := by
    have hcg := blk_kept hg h.cg (own_not h.og h.cg (by decide))
    have hk := h.op.kept hg (by rcases h.ap with h0 | h0
                                · cases hv : vp.ownBlock with
                                  | none => exact Or.inl rfl
                                  | some x => right; rw [h0]; simp
                                · exact Or.inr (Ne.symm h0))
    exact ownsRow_setCell_other hk (a := ⟨bg, 0, none⟩) (own_not hk hcg (by decide)) _
  ap := Or.inr (apart_step (v' := .slice (some ⟨g, 0, none⟩) (gs.length + 1) cap) h.op h.ap rfl hat hg.size)

theorem YInv.stepP {B bg bp : Nat} {gs ps : List Int} {vg vp : Value} {w w' : World} {g cap : Nat} {n : Int} (h : YInv B bg bp gs ps vg vp w)
    (hown : w'.ownsRow B 5 1 (.slice (some ⟨g, 0, none⟩) (ps.length + 1) cap) (ps.length + 1) (ps.map (Value.int .u8) ++ [.int .u8 n])) (hg : w.grownBy w' vp.ownBlock) (hat : vp.ownBlock = some g ∨ g = w.heap.size) :
    YInv B bg bp gs (ps ++ [n]) vg (.slice (some ⟨g, 0, none⟩) (ps.length + 1) cap) (w'.setCell ⟨bp, 0, none⟩ (.slice (some ⟨g, 0, none⟩) (ps.length + 1) cap)) where
  geg := h.geg
  gep := h.gep
  ne := h.ne
  cg := blk_set (blk_kept hg h.cg (own_not h.op h.cg (by decide))) _ h.ne
  cp := one_setCell (blk_kept hg h.cp (own_not h.op h.cp (by decide)))
  og := by
    have hcp := blk_kept hg h.cp (own_not h.op h.cp (by decide))
    have hk := h.og.kept hg h.ap
    exact ownsRow_setCell_other hk (a := ⟨bp, 0, none⟩) (own_not hk hcp (by decide)) _
  op := by
    have hcp := blk_kept hg h.cp (own_not h.op h.cp (by decide))
    have := ownsRow_setCell_other hown (a := ⟨bp, 0, none⟩) (own_not hown hcp (by decide)) (.slice (some ⟨g, 0, none⟩) (ps.length + 1) cap)
    simpa using this
  ap := by
    have hap : vp.ownBlock = none ∨ vp.ownBlock ≠ vg.ownBlock := by
      rcases h.ap with h0 | h0
      · cases hv : vp.ownBlock with
        | none => exact Or.inl rfl
        | some x => right; rw [h0]; simp
      · exact Or.inr (Ne.symm h0)
    exact Or.inr (Ne.symm (apart_step (v' := .slice (some ⟨g, 0, none⟩) (ps.length + 1) cap) h.og hap rfl hat hg.size))

theorem info5 : (Yba.prog.info? 5).map (fun i => (i.zero, i.size, i.bytes)) = some (some (.int .u8 0), 1, 1) := by kernel_rfl

theorem one_cell (n : Int) : ∀ u ∈ [Value.int .u8 n], u.oneCell' = true := by
  intro u hu
  simp at hu
  subst hu
  rfl

set_option maxRecDepth 100000 in
set_option maxHeartbeats 400000 in
theorem yield_all (B bg bp : Nat) (gs ps : List Int) (vg vp : Value) (n q : Int) (w : World) (h : YInv B bg bp gs ps vg vp w) (hl1 : gs.length ≤ 8192) (hl2 : ps.length ≤ 8192) (hB : B ≤ w.heap.size) :
    Calls Yba.prog 12 #[.agg #[.int .u8 0, .int .u8 0, .int .u16 0, .int .u8 n, .int .u8 q, .slice none 0 0, .int .u8 0, .slice none 0 0], .pointer (some ⟨bg, 0, none⟩), .pointer (some ⟨bp, 0, none⟩)] w
      fun e w' => e = .returned (.bool true) ∧ (∃ vg' vp', YInv B bg bp (gs ++ [n]) (ps ++ [q]) vg' vp' w') ∧ Below B w w' := by
  obtain ⟨i0, hi, hz0, hz1, hz2⟩ := info_parts info5
  have H : Hid (YInv B bg bp gs ps vg vp w) := h
  have cg := cell_of_one h.cg
  have cp := cell_of_one h.cp
  have fg := free_of_one h.cg
  have fp := free_of_one h.cp
  have lg := lt_of_block h.cg
  have lp := lt_of_block h.cp
  clear h
  go_enter Yba.func12, Yba.ntmps12
  go_wp2_with (at_builtin; refine wpList_append_lies _ rfl (.tmp 5) (.tmp 8) 23 rfl B 5 i0 (.int .u8 0) 1 1 Yba.underlying23 hi hz0 hz1 hz2 rfl (by decide) vg gs.length (gs.map (Value.int .u8)) rfl ((H.out.alloc _).alloc _).og ⟨w.heap.size + 1, 0, none⟩ 1 1 [.int .u8 n] rfl rfl ?c1 (one_cell n) (by decide) ?c2 ?c3 ?c4 (w.heap.size + 2) ?c5 ?c6)
  case c1 => exact news_alloc (cs := #[.int .u8 n]) (by simp)
  case c2 => unfold maxLen; omega
  case c3 => omega
  case c4 => simp; omega
  case c5 => simp
  case c6 =>
    intro g cap w1 hown hg hat hlt
    have h2 := (H.out.alloc (.cells #[.int .u8 0, .int .u8 0, .int .u16 0, .int .u8 n, .int .u8 q, .slice none 0 0, .int .u8 0, .slice none 0 0] 63)).alloc (.cells #[.int .u8 n] 5)
    have hbox : (w.alloc (.cells #[.int .u8 0, .int .u8 0, .int .u16 0, .int .u8 n, .int .u8 q, .slice none 0 0, .int .u8 0, .slice none 0 0] 63)).heap[w.heap.size]? = some (.cells #[.int .u8 0, .int .u8 0, .int .u16 0, .int .u8 n, .int .u8 q, .slice none 0 0, .int .u8 0, .slice none 0 0] 63 (0, 0)) := heap_alloc_new w _
    have hbox1 := blk_kept hg (blk_alloc hbox (.cells #[.int .u8 n] 5)) (own_not h2.og (blk_alloc hbox (.cells #[.int .u8 n] 5)) (by decide))
    have cg1 := cell_of_one (blk_kept hg h2.cg (own_not h2.og h2.cg (by decide)))
    have fg1 := free_of_one (blk_kept hg h2.cg (own_not h2.og h2.cg (by decide)))
    have h3 := h2.stepG hown hg (by simpa using hat)
    have B1 : Hid (Below B w (w1.setCell ⟨bg, 0, none⟩ (.slice (some ⟨g, 0, none⟩) (gs.length + 1) cap))) := ((((Below.refl B w).alloc hB _).alloc (by simp; omega) _).grown hg (by simp; omega) (fun k hk => (own_blk h2.og k hk).1)).setCell h2.geg _
    have cp1 := cell_of_one h3.cp
    have fp1 := free_of_one h3.cp
    have hb4 : (w1.setCell ⟨bg, 0, none⟩ (.slice (some ⟨g, 0, none⟩) (gs.length + 1) cap)).cell? ⟨w.heap.size, 4, none⟩ = some (.int .u8 q) := by
      simp [World.cell?, blk_set (a := ⟨bg, 0, none⟩) hbox1 (.slice (some ⟨g, 0, none⟩) (gs.length + 1) cap) (by simp; omega)]
    have hs1 : B ≤ w1.heap.size := by have := hg.size; simp at this; omega
    have H3 := h3
    clear hown hg hat h2 hbox hbox1 h3
    have H4 : Hid _ := H3
    clear H3
    go_wp2_with (at_builtin; refine wpList_append_lies _ rfl (.tmp 10) (.tmp 13) 23 rfl B 5 i0 (.int .u8 0) 1 1 Yba.underlying23 hi hz0 hz1 hz2 rfl (by decide) vp ps.length (ps.map (Value.int .u8)) rfl (H4.out.alloc _).op ⟨w1.heap.size, 0, none⟩ 1 1 [.int .u8 q] rfl rfl ?d1 (one_cell q) (by decide) ?d2 ?d3 ?d4 (w1.heap.size + 1) ?d5 ?d6)
    case d1 => exact news_alloc (cs := #[.int .u8 q]) (by simp)
    case d2 => unfold maxLen; omega
    case d3 => omega
    case d4 => simp; omega
    case d5 => simp
    case d6 =>
      intro g2 cap2 w2 hown hg hat hlt2
      have h2 := H4.out.alloc (.cells #[.int .u8 q] 5)
      have cp2 := cell_of_one (blk_kept hg h2.cp (own_not h2.op h2.cp (by decide)))
      have fp2 := free_of_one (blk_kept hg h2.cp (own_not h2.op h2.cp (by decide)))
      have h3 := h2.stepP hown hg (by simpa using hat)
      have B2 : Below B w _ := (((B1.out.alloc (by simp; omega) _).grown hg (by simp; omega) (fun k hk => (own_blk h2.op k hk).1)).setCell (p := ⟨bp, 0, none⟩) h2.gep (.slice (some ⟨g2, 0, none⟩) (ps.length + 1) cap2))
      have R : Hid (_ ∧ _) := ⟨h3, B2⟩
      clear hown hg hat h2 h3 B2
      go_wp2
      go_ret
      exact ⟨rfl, ⟨_, _, R.out.1⟩, R.out.2⟩
end Go.Proofs.Ybulkabuo
