import Derived.Test.YbulkabweMaps
import Derived.Handy
namespace Go.Proofs.Ybulkabwe
open Go.RowKit Go.Maps
open Go.WideMaps (keyOf_string_mk)

/-- What idOf tells of a table. -/
def Found (D : DataW Unit) (name id : ByteArray) (ok : Bool) : Prop :=
  (ok = true ∧ id.size ≤ maxLen ∧ Maps.has D (kl id) = true ∧ ∀ zd, D.atKey (kl id) zd = .lit (.string name.data.toList)) ∨
  (ok = false ∧ id = ByteArray.empty ∧ ∀ x, Maps.has D x = true → ∀ zd, D.atKey x zd ≠ .lit (.string name.data.toList))

theorem key_inv {key : Value} {x : Lit} (h : keyOf Yba.prog 26 key = some x) : ∃ s : ByteArray, key = .string s ∧ x = kl s ∧ s.size ≤ maxLen := by
  cases key <;> simp [keyOf, Yba.underlying26, mapKey] at h
  exact ⟨_, rfl, h.2.symm, h.1⟩

theorem str_eq_true {a b : ByteArray} (h : (a.toList == b.toList) = true) : a.data.toList = b.data.toList := by
  simpa [ByteArray.toList_eq] using h
theorem str_eq_false {a b : ByteArray} (h : (a.toList == b.toList) = false) : a.data.toList ≠ b.data.toList := by
  simpa [ByteArray.toList_eq] using h

set_option maxRecDepth 100000 in
set_option maxHeartbeats 400000 in
theorem idOf_any (B n : Nat) (D : DataW Unit) (name : ByteArray) (w : World) (h : Tab w B n D) :
    Calls Yba.prog 6 #[.map (some B), .string name] w fun e w' => ∃ id ok, e = .returned (.tuple #[.string id, .bool ok]) ∧ Below w.heap.size w w' ∧ Found D name id ok := by
  have HT : Hid (Tab w B n D) := h
  clear h
  go_enter Yba.func6, Yba.ntmps6
  go_wp2_with (at_range; refine wpList_range_own _ rfl _ 23 rfl 26 9 law Yba.underlying23 _ B n D rfl HT.out ?r1)
  case r1 =>
    intro w0 hrg hg hs
    have HR : Hid (w0.ranges Yba.prog 26 (plainElem (H := Unit) Yba.prog 9) B w.heap.size n D (Maps.has D) (Maps.size D)) := hrg
    have HB : Hid (Below w.heap.size w w0) := (Below.refl _ _).grown hg (Nat.le_refl _) (fun _ h => by cases h)
    clear hrg hg hs
    go_wp2
    go_loopw [10] (fun _ wr => ∃ left cnt, wr.ranges Yba.prog 26 (plainElem (H := Unit) Yba.prog 9) B w.heap.size n D left cnt ∧ Below w.heap.size w wr ∧ ∀ x, Maps.has D x = true → left x = false → ∀ zd, D.atKey x zd ≠ .lit (.string name.data.toList)) (fun _ wr => wr.rangeLeft B w.heap.size)
    case atStart => exact ⟨_, _, HR.out, HB.out, fun x h1 h2 => by rw [h1] at h2; cases h2⟩
    case round =>
      obtain ⟨left, cnt, hrg, hbel, hno⟩ := hrel
      have HR1 : Hid (wr.ranges Yba.prog 26 (plainElem (H := Unit) Yba.prog 9) B w.heap.size n D left cnt) := hrg
      have HB1 : Hid (Below w.heap.size w wr) := hbel
      have HN1 : Hid _ := hno
      clear hrg hbel hno HR HB
      go_wp2_with (at_next; refine wpList_next_ranges _ rfl _ rfl 26 law (plainElem (H := Unit) Yba.prog 9) Value.string Value.string (fun key x hk => by obtain ⟨s, hs, _⟩ := key_inv hk; exact ⟨s, hs⟩) (fun v y hv => by obtain ⟨s, hs, _⟩ := plainElem_string_inv Yba.underlying9 hv; exact ⟨s, hs⟩) B w.heap.size n D left cnt rfl HR1.out ?n1 ?n2)
      case n1 =>
        intro hc0 hl0
        have HL : Hid _ := hl0
        clear hl0 hc0
        go_wp2
        go_ret2
        exact ⟨_, _, rfl, HB1.out, Or.inr ⟨rfl, rfl, fun x hx => HN1.out x hx (HL.out x)⟩⟩
      case n2 =>
        intro x c kx yd yp w1 cnt1 hkey hlk hv hat hrg1 hlt hg1 hs1 hen
        obtain ⟨x', ex, rfl, hxs⟩ := key_inv hkey
        cases ex
        obtain ⟨c', ec, hcy, _⟩ := plainElem_string_inv Yba.underlying9 hv
        cases ec
        have hat2 : ∀ zd, D.atKey (kl x) zd = .lit (.string c.data.toList) := fun zd => by rw [hat zd]; exact congrArg Prod.fst hcy
        have HA : Hid _ := hat2
        have HB2 : Hid (Below w.heap.size w w1) := HB1.out.grown hg1 HB1.out.size (fun j hj => by cases hj; exact Nat.le_refl _)
        have HR2 : Hid (w1.ranges Yba.prog 26 (plainElem (H := Unit) Yba.prog 9) B w.heap.size n D (fun z => left z && !z.sameKey (kl x)) cnt1) := hrg1
        have HX : Hid _ := hxs
        have HLT : Hid _ := hlt
        clear hkey hlk hv hat hrg1 hlt hg1 hs1 hcy hat2 hxs
        by_cases hcn : (c.toList == name.toList) = true
        · go_wp2
          go_ret2
          refine ⟨_, _, rfl, HB2.out, Or.inl ⟨rfl, HX.out, has_true_of_atKey HA.out, fun zd => ?_⟩⟩
          rw [HA.out zd, str_eq_true hcn]
        · have hcf : (c.toList == name.toList) = false := by simpa using hcn
          clear hcn
          go_wp2
          go_roundw
          case rel =>
            refine ⟨_, _, HR2.out, HB2.out, fun z hz hl zd => ?_⟩
            by_cases e : z = kl x
            · subst e
              rw [HA.out zd]
              intro e2
              simp only [DataW.lit.injEq, Lit.string.injEq] at e2
              exact str_eq_false hcf e2
            · refine HN1.out z hz ?_ zd
              simpa [sameKey_ne e] using hl
          case measure => rw [HR2.out.left_eq, HR1.out.left_eq]; exact HLT.out
end Go.Proofs.Ybulkabwe
