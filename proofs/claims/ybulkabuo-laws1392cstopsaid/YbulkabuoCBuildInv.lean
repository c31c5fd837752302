import Derived.Test.YbulkabuoCLists
namespace Go.Proofs.Ybulkabuo
open Go.RowKit

/-- Content k as the heap of w holds it, all of it below block N. -/
structure CGood (N : Nat) (w : World) (k : Nat) (it : Item) (v : Value) : Prop where
  live : it.kind % 4 = 0 → ∃ bs doi pv, v = .iface 74 (.pointer (some ⟨bs, 0, none⟩)) ∧ bs < N ∧ w.heap[bs]? = some (.cells #[doi, .slice none 0 0, pv] 77 (0, 0)) ∧
    w.ownsRow 0 63 8 pv it.len (rowOf it.zs (proto k) it.len) ∧ ∀ g, pv.ownBlock = some g → g < N
  dead : ¬ it.kind % 4 = 0 → v = .nilIface ∨ ∃ p, v = .iface 78 p ∨ v = .iface 83 p

/-- Which row a step may write: none of the contents, none of the two lists. -/
def Apart (B N : Nat) (w : World) (row : Option Nat) : Prop :=
  ∀ g, row = some g → B ≤ g ∧ ∃ cs t, w.heap[g]? = some (.cells cs t (0, 0)) ∧ t ≠ 48 ∧ t ≠ 5 ∧ (t = 77 ∨ t = 63 → N ≤ g)

theorem CGood.other {N : Nat} {w w' : World} {k : Nat} {it : Item} {v : Value} (h : CGood N w k it v) {row : Option Nat} (hg : w.grownBy w' row)
    (hr : ∀ g, row = some g → ∃ cs t, w.heap[g]? = some (.cells cs t (0, 0)) ∧ (t = 77 ∨ t = 63 → N ≤ g)) : CGood N w' k it v where
  live := fun h0 => by
    obtain ⟨bs, doi, pv, hv, hbs, hc, ho, hN⟩ := h.live h0
    refine ⟨bs, doi, pv, hv, hbs, blk_kept hg hc ?_, ho.kept hg ?_, hN⟩
    · intro e
      obtain ⟨cs, t, h1, h2⟩ := hr bs e
      rw [h1] at hc
      simp at hc
      have := h2 (Or.inl hc.2)
      omega
    · cases hpv : pv.ownBlock with
      | none => exact Or.inl rfl
      | some g =>
        right
        intro e
        obtain ⟨cs, t, h1, h2⟩ := hr g e.symm
        obtain ⟨_, _, cur, h3⟩ := own_blk ho g hpv
        rw [h1] at h3
        simp at h3
        have := h2 (Or.inr h3.2)
        have := hN g hpv
        omega
  dead := h.dead

theorem CGood.mono {N N' : Nat} {w : World} {k : Nat} {it : Item} {v : Value} (h : CGood N w k it v) (hN : N ≤ N') : CGood N' w k it v where
  live := fun h0 => by
    obtain ⟨bs, doi, pv, hv, hbs, hc, ho, hlt⟩ := h.live h0
    exact ⟨bs, doi, pv, hv, by omega, hc, ho, fun g hg => by have := hlt g hg; omega⟩
  dead := h.dead

/-- The state of the building: the first k contents, the two lists so far. -/
structure BInv (B N : Nat) (W : World) (I : Nat → Item) (k : Nat) (c wn wp : Value) (ns ps : List Int) (w : World) : Prop where
  below : Below B W w
  sz : B ≤ N
  sz2 : N ≤ w.heap.size
  con : ∃ V : Nat → Value, w.ownsRow B 48 1 c k ((List.range k).map V) ∧ ∀ j, j < k → CGood N w j (I j) (V j)
  on : w.ownsRow B 5 1 wn ns.length (ns.map (Value.int .u8))
  op : w.ownsRow B 5 1 wp ps.length (ps.map (Value.int .u8))
  ap : wn.ownBlock = none ∨ wn.ownBlock ≠ wp.ownBlock

section
variable {B N k : Nat} {W w w' : World} {I : Nat → Item} {c wn wp : Value} {ns ps : List Int}

theorem own_other {e size n : Nat} {v : Value} {xs : List Value} {row : Option Nat} (h : w.ownsRow B e size v n xs) (hg : w.grownBy w' row)
    (hr : ∀ g, row = some g → ∃ cs t, w.heap[g]? = some (.cells cs t (0, 0)) ∧ t ≠ e) : w'.ownsRow B e size v n xs := by
  refine h.kept hg ?_
  cases hv : v.ownBlock with
  | none => exact Or.inl rfl
  | some g =>
    right
    intro e1
    obtain ⟨cs, t, h1, h2⟩ := hr g e1.symm
    exact own_not h h1 h2 hv

theorem BInv.other (h : BInv B N W I k c wn wp ns ps w) {row : Option Nat} (hg : w.grownBy w' row) (hr : Apart B N w row) : BInv B N W I k c wn wp ns ps w' where
  below := h.below.grown hg (Nat.le_trans h.sz h.sz2) (fun g hg => (hr g hg).1)
  sz := h.sz
  sz2 := Nat.le_trans h.sz2 hg.size
  con := by
    obtain ⟨V, h1, h2⟩ := h.con
    exact ⟨V, own_other h1 hg (fun g hg => by obtain ⟨_, cs, t, a, b, _⟩ := hr g hg; exact ⟨cs, t, a, b⟩), fun j hj => (h2 j hj).other hg (fun g hg => by obtain ⟨_, cs, t, a, _, _, b⟩ := hr g hg; exact ⟨cs, t, a, b⟩)⟩
  on := own_other h.on hg (fun g hg => by obtain ⟨_, cs, t, a, _, b, _⟩ := hr g hg; exact ⟨cs, t, a, b⟩)
  op := own_other h.op hg (fun g hg => by obtain ⟨_, cs, t, a, _, b, _⟩ := hr g hg; exact ⟨cs, t, a, b⟩)
  ap := h.ap

theorem BInv.alloc (h : BInv B N W I k c wn wp ns ps w) (o : Obj) : BInv B N W I k c wn wp ns ps (w.alloc o) :=
  h.other (World.grownBy_alloc w o none) (fun g hg => by cases hg)

theorem grownBy_setCell (w : World) (a : Addr) (u : Value) : w.grownBy (w.setCell a u) (some a.block) :=
  ⟨rfl, rfl, rfl, by simp, fun j _ hj => Below.heap_setCell _ _ _ _ (fun e => hj (by rw [e]))⟩

theorem BInv.set (h : BInv B N W I k c wn wp ns ps w) (a : Addr) (u : Value) {cs : Array Value} {t : TypeId} (hB : B ≤ a.block) (hb : w.heap[a.block]? = some (.cells cs t (0, 0))) (h1 : t ≠ 48) (h2 : t ≠ 5) (h3 : t = 77 ∨ t = 63 → N ≤ a.block) :
    BInv B N W I k c wn wp ns ps (w.setCell a u) :=
  h.other (grownBy_setCell w a u) (fun g hg => by cases hg; exact ⟨hB, cs, t, hb, h1, h2, h3⟩)

/-- An append to a row of another element type than the contents' and the lists'. -/
theorem BInv.grow (h : BInv B N W I k c wn wp ns ps w) {Bv e size n : Nat} {v : Value} {xs : List Value} (ho : w.ownsRow Bv e size v n xs) (hg : w.grownBy w' v.ownBlock) (h0 : B ≤ Bv) (h1 : e ≠ 48) (h2 : e ≠ 5) (h3 : e = 77 ∨ e = 63 → N ≤ Bv) :
    BInv B N W I k c wn wp ns ps w' :=
  h.other hg (fun g hv => by
    obtain ⟨a, _, cur, b⟩ := own_blk ho g hv
    exact ⟨by omega, cur, e, b, h1, h2, fun ht => by have := h3 ht; omega⟩)

theorem BInv.stepN (h : BInv B N W I k c wn wp ns ps w) {g cap : Nat} {n : Int}
    (hown : w'.ownsRow B 5 1 (.slice (some ⟨g, 0, none⟩) (ns.length + 1) cap) (ns.length + 1) (ns.map (Value.int .u8) ++ [.int .u8 n])) (hg : w.grownBy w' wn.ownBlock) (hat : wn.ownBlock = some g ∨ g = w.heap.size) :
    BInv B N W I k c (.slice (some ⟨g, 0, none⟩) (ns.length + 1) cap) wp (ns ++ [n]) ps w' where
  below := h.below.grown hg (Nat.le_trans h.sz h.sz2) (fun g hg => (own_blk h.on g hg).1)
  sz := h.sz
  sz2 := Nat.le_trans h.sz2 hg.size
  con := by
    obtain ⟨V, h1, h2⟩ := h.con
    exact ⟨V, h1.kept hg (own_apart h1 h.on (by decide)), fun j hj => (h2 j hj).other hg (fun g hv => by obtain ⟨_, _, cur, a⟩ := own_blk h.on g hv; exact ⟨cur, 5, a, fun h5 => by rcases h5 with h5 | h5 <;> simp at h5⟩)⟩
  on := by simpa using hown
  op := h.op.kept hg (by
    rcases h.ap with h0 | h0
    · cases hv : wp.ownBlock with
      | none => exact Or.inl rfl
      | some x => right; rw [h0]; simp
    · exact Or.inr (Ne.symm h0))
  ap := Or.inr (apart_step (v' := .slice (some ⟨g, 0, none⟩) (ns.length + 1) cap) h.op h.ap rfl hat hg.size)

theorem BInv.stepP (h : BInv B N W I k c wn wp ns ps w) {g cap : Nat} {n : Int}
    (hown : w'.ownsRow B 5 1 (.slice (some ⟨g, 0, none⟩) (ps.length + 1) cap) (ps.length + 1) (ps.map (Value.int .u8) ++ [.int .u8 n])) (hg : w.grownBy w' wp.ownBlock) (hat : wp.ownBlock = some g ∨ g = w.heap.size) :
    BInv B N W I k c wn (.slice (some ⟨g, 0, none⟩) (ps.length + 1) cap) ns (ps ++ [n]) w' where
  below := h.below.grown hg (Nat.le_trans h.sz h.sz2) (fun g hg => (own_blk h.op g hg).1)
  sz := h.sz
  sz2 := Nat.le_trans h.sz2 hg.size
  con := by
    obtain ⟨V, h1, h2⟩ := h.con
    exact ⟨V, h1.kept hg (own_apart h1 h.op (by decide)), fun j hj => (h2 j hj).other hg (fun g hv => by obtain ⟨_, _, cur, a⟩ := own_blk h.op g hv; exact ⟨cur, 5, a, fun h5 => by rcases h5 with h5 | h5 <;> simp at h5⟩)⟩
  on := h.on.kept hg h.ap
  op := by simpa using hown
  ap := by
    have hap : wp.ownBlock = none ∨ wp.ownBlock ≠ wn.ownBlock := by
      rcases h.ap with h0 | h0
      · cases hv : wp.ownBlock with
        | none => exact Or.inl rfl
        | some x => right; rw [h0]; simp
      · exact Or.inr (Ne.symm h0)
    exact Or.inr (Ne.symm (apart_step (v' := .slice (some ⟨g, 0, none⟩) (ps.length + 1) cap) h.on hap rfl hat hg.size))

/-- One content more. 'hgood': what it is, in the world ahead of the append. -/
theorem BInv.stepC (h : BInv B N W I k c wn wp ns ps w) {g cap : Nat} {v : Value} (hgood : CGood w.heap.size w k (I k) v)
    (V : Nat → Value) (h1 : w.ownsRow B 48 1 c k ((List.range k).map V)) (h2 : ∀ j, j < k → CGood N w j (I j) (V j))
    (hown : w'.ownsRow B 48 1 (.slice (some ⟨g, 0, none⟩) (k + 1) cap) (k + 1) ((List.range k).map V ++ [v])) (hg : w.grownBy w' c.ownBlock) :
    BInv B w'.heap.size W I (k + 1) (.slice (some ⟨g, 0, none⟩) (k + 1) cap) wn wp ns ps w' := by
  have hr : ∀ g, c.ownBlock = some g → ∃ cs t, w.heap[g]? = some (.cells cs t (0, 0)) ∧ (t = 77 ∨ t = 63 → w.heap.size ≤ g) := fun g hv => by
    obtain ⟨_, _, cur, a⟩ := own_blk h1 g hv
    exact ⟨cur, 48, a, fun h5 => by rcases h5 with h5 | h5 <;> simp at h5⟩
  exact {
    below := h.below.grown hg (Nat.le_trans h.sz h.sz2) (fun g hg => (own_blk h1 g hg).1)
    sz := Nat.le_trans h.sz (Nat.le_trans h.sz2 hg.size)
    sz2 := Nat.le_refl _
    con := by
      refine ⟨fun j => if j = k then v else V j, ?_, fun j hj => ?_⟩
      · have e : (List.range (k + 1)).map (fun j => if j = k then v else V j) = (List.range k).map V ++ [v] := by
          rw [List.range_succ, List.map_append]
          congr 1
          · exact List.map_congr_left (fun j hj => if_neg (by have := List.mem_range.1 hj; omega))
          · simp
        rw [e]
        exact hown
      · by_cases e : j = k
        · subst e
          simp only [if_pos]
          exact (hgood.other hg hr).mono hg.size
        · simp only [if_neg e]
          exact (((h2 j (by omega)).mono h.sz2).other hg hr).mono hg.size
    on := h.on.kept hg (own_apart h.on h1 (by decide))
    op := h.op.kept hg (own_apart h.op h1 (by decide))
    ap := h.ap }

end

/-- What is no IKEv1 content. -/
theorem CGood.of_dead {N : Nat} {w : World} {k : Nat} {it : Item} {v : Value} (h0 : ¬ it.kind % 4 = 0) (h : v = .nilIface ∨ ∃ p, v = .iface 78 p ∨ v = .iface 83 p) : CGood N w k it v :=
  ⟨fun h1 => absurd h1 h0, fun _ => h⟩

theorem one_nil : ∀ u ∈ [Value.nilIface], u.oneCell' = true := by
  intro u hu
  simp at hu
  subst hu
  rfl
theorem one_iface (t : TypeId) (v : Value) : ∀ u ∈ [Value.iface t v], u.oneCell' = true := by
  intro u hu
  simp at hu
  subst hu
  rfl

theorem one_eight (n q : Int) : ∀ u ∈ [Value.int .u8 0, .int .u8 0, .int .u16 0, .int .u8 n, .int .u8 q, .slice none 0 0, .int .u8 0, .slice none 0 0], u.oneCell' = true := by
  intro u hu
  simp at hu
  rcases hu with rfl | rfl | rfl | rfl | rfl | rfl | rfl | rfl <;> rfl

/-- The state inside the IKEv1 content's own loop: its block is N + 1, its proposals so far the row of 'pv'. -/
structure SInv (B N : Nat) (W : World) (I : Nat → Item) (k : Nat) (c wn wp : Value) (ns ps : List Int) (doi : Value) (j : Nat) (pv : Value) (w : World) : Prop where
  bi : BInv B N W I k c wn wp ns ps w
  sa : w.heap[N + 1]? = some (.cells #[doi, .slice none 0 0, pv] 77 (0, 0))
  ov : w.ownsRow N 63 8 pv j (rowOf (I k).zs (proto k) j)

section
variable {B N k : Nat} {W w w' : World} {I : Nat → Item} {c wn wp pv doi : Value} {ns ps : List Int} {j : Nat}

theorem SInv.alloc (h : SInv B N W I k c wn wp ns ps doi j pv w) (o : Obj) : SInv B N W I k c wn wp ns ps doi j pv (w.alloc o) :=
  ⟨h.bi.alloc o, blk_alloc h.sa o, h.ov.alloc o⟩

theorem SInv.saCell (h : SInv B N W I k c wn wp ns ps doi j pv w) : w.cell? ⟨N + 1, 2, none⟩ = some pv := by simp [World.cell?, h.sa]

theorem SInv.stepV (h : SInv B N W I k c wn wp ns ps doi j pv w) {g cap : Nat}
    (hown : w'.ownsRow N 63 8 (.slice (some ⟨g, 0, none⟩) (j + 1) cap) (j + 1) (rowOf (I k).zs (proto k) j ++ prop8 ((I k).zs j) (proto k))) (hg : w.grownBy w' pv.ownBlock) :
    w'.cell? ⟨N + 1, 2, none⟩ = some pv ∧ w'.frozen? ⟨N + 1, 2, none⟩ = false ∧
    SInv B N W I k c wn wp ns ps doi (j + 1) (.slice (some ⟨g, 0, none⟩) (j + 1) cap) (w'.setCell ⟨N + 1, 2, none⟩ (.slice (some ⟨g, 0, none⟩) (j + 1) cap)) := by
  have hsa := blk_kept hg h.sa (own_not h.ov h.sa (by decide))
  have hb := h.bi.grow h.ov hg h.bi.sz (by decide) (by decide) (fun _ => Nat.le_refl _)
  refine ⟨by simp [World.cell?, hsa], by simp [World.frozen?, hsa], ⟨?_, ?_, ?_⟩⟩
  · exact hb.set ⟨N + 1, 2, none⟩ _ (Nat.le_trans h.bi.sz (Nat.le_succ _)) hsa (by decide) (by decide) (fun _ => Nat.le_succ _)
  · exact heap_setCell_same _ _ 2 _ _ _ hsa
  · rw [rowOf_succ]
    exact ownsRow_setCell_other hown (a := ⟨N + 1, 2, none⟩) (own_not hown hsa (by decide)) _

theorem SInv.stepN (h : SInv B N W I k c wn wp ns ps doi j pv w) {g cap : Nat} {n : Int}
    (hown : w'.ownsRow B 5 1 (.slice (some ⟨g, 0, none⟩) (ns.length + 1) cap) (ns.length + 1) (ns.map (Value.int .u8) ++ [.int .u8 n])) (hg : w.grownBy w' wn.ownBlock) (hat : wn.ownBlock = some g ∨ g = w.heap.size) :
    SInv B N W I k c (.slice (some ⟨g, 0, none⟩) (ns.length + 1) cap) wp (ns ++ [n]) ps doi j pv w' :=
  ⟨h.bi.stepN hown hg hat, blk_kept hg h.sa (own_not h.bi.on h.sa (by decide)), h.ov.kept hg (own_apart h.ov h.bi.on (by decide))⟩

theorem SInv.stepP (h : SInv B N W I k c wn wp ns ps doi j pv w) {g cap : Nat} {n : Int}
    (hown : w'.ownsRow B 5 1 (.slice (some ⟨g, 0, none⟩) (ps.length + 1) cap) (ps.length + 1) (ps.map (Value.int .u8) ++ [.int .u8 n])) (hg : w.grownBy w' wp.ownBlock) (hat : wp.ownBlock = some g ∨ g = w.heap.size) :
    SInv B N W I k c wn (.slice (some ⟨g, 0, none⟩) (ps.length + 1) cap) ns (ps ++ [n]) doi j pv w' :=
  ⟨h.bi.stepP hown hg hat, blk_kept hg h.sa (own_not h.bi.op h.sa (by decide)), h.ov.kept hg (own_apart h.ov h.bi.op (by decide))⟩

theorem own_base {e size n B' : Nat} {v : Value} {xs : List Value} (h : w.ownsRow B e size v n xs) (hB : B' ≤ B) : w.ownsRow B' e size v n xs := by
  refine ⟨h.1, ?_⟩
  rcases h.2 with h0 | ⟨g, cap, cur, a, b, r⟩
  · exact Or.inl h0
  · exact Or.inr ⟨g, cap, cur, a, Nat.le_trans hB b, r⟩

theorem SInv.good (h : SInv B N W I k c wn wp ns ps doi (I k).len pv w) (h0 : (I k).kind % 4 = 0) : CGood w.heap.size w k (I k) (.iface 74 (.pointer (some ⟨N + 1, 0, none⟩))) :=
  ⟨fun _ => ⟨_, doi, pv, rfl, lt_of_block h.sa, h.sa, own_base h.ov (Nat.zero_le _), fun g hg => (own_blk h.ov g hg).2.1⟩, fun h1 => absurd h0 h1⟩

end

/-- At the end: what the iterator is told of content k. -/
theorem CGood.cont {N : Nat} {w : World} {k : Nat} {it : Item} {v : Value} (h : CGood N w k it v) : ContIn N w k it v where
  live := fun h0 => by
    obtain ⟨bs, doi, pv, hv, hbs, hc, ho, hN⟩ := h.live h0
    rcases ho.2 with ⟨hp, hl⟩ | ⟨g, cap, cur, hp, _, hg, hle, _, hcs, htk⟩
    · exact ⟨bs, none, 0, hv, hbs, by simp [World.cell?, hc, hp, hl], fun h1 => by omega⟩
    · subst hp
      refine ⟨bs, _, cap, hv, hbs, by simp [World.cell?, hc], fun _ => ⟨g, rfl, hN g rfl, fun j i u hj hu => ?_⟩⟩
      have hi : i < 8 := by
        have := (List.getElem?_eq_some_iff.1 hu).1
        simpa [prop8] using this
      have e := rowOf_get it.zs (proto k) hj hi
      rw [← htk, List.getElem?_take, if_pos (by omega), hu] at e
      simp only [World.cell?, hg]
      simpa using e
  dead := h.dead

end Go.Proofs.Ybulkabuo
