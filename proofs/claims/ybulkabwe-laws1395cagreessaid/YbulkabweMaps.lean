import Derived.Test.YbulkabweRows
import Derived.WalkKit
import Derived.WalkSpells
import Derived.WalkLawsBesides
import Derived.Maps.Own
import Derived.Maps.OwnSet
import Derived.Maps.StringElems
import Derived.Maps.RangeWalk
import Derived.Deep.Slices
import Derived.StringKeys
namespace Go.Proofs.Ybulkabwe
open Go.RowKit Go.Maps
open Go.WideMaps (keyOf_string_mk)

theorem law : Keyed Yba.prog 26 := string_keyed Yba.underlying26
theorem zero9 (w : World) : (zeroValue 9).run Yba.prog w = .ok (.string ByteArray.empty) w := by kernel_rfl
theorem makeMap23 (n : Int) (w : World) : (Instr.makeMap 23 (some (.int .i64 n))).run Yba.prog w = .ok (.map (some w.heap.size)) (w.alloc (.map #[] 0)) := by kernel_rfl

/-- Block B of w is a table of at most n entries that reads as D. -/
abbrev Tab (w : World) (B n : Nat) (D : DataW Unit) : Prop := w.ownsMap Yba.prog 26 (plainElem Yba.prog 9) B n D

/-- The octets of a string, as a key and as a datum. -/
def kl (s : ByteArray) : Lit := .string s.data.toList

theorem isKey (s : ByteArray) : WideAt.IsKeyLit (kl s) := by simp [kl, WideAt.IsKeyLit]

/-- The table after k rounds. -/
def tab (K V : Nat → ByteArray) : Nat → DataW Unit
  | 0 => .map []
  | k + 1 => (tab K V k).put (kl (K k)) (.lit (.string (V k).data.toList))

theorem tab_isMap (K V : Nat → ByteArray) : ∀ n, IsMap (tab K V n)
  | 0 => isMap_empty
  | n + 1 => (tab_isMap K V n).put _ _

theorem has_tab (K V : Nat → ByteArray) (x : Lit) : ∀ n, Maps.has (tab K V n) x = true ↔ ∃ i, i < n ∧ kl (K i) = x
  | 0 => by simp [tab, Maps.has_eq]
  | n + 1 => by
    by_cases h : x = kl (K n)
    · subst h
      simp only [tab, has_put_same (tab_isMap K V n) (isKey _), true_iff]
      exact ⟨n, by omega, rfl⟩
    · simp only [tab]
      rw [has_put_other h, has_tab K V x n]
      constructor
      · rintro ⟨i, hi, e⟩
        exact ⟨i, by omega, e⟩
      · rintro ⟨i, hi, e⟩
        by_cases e2 : i = n
        · subst e2; exact absurd e.symm h
        · exact ⟨i, by omega, e⟩

/-- Two strings of the same octets are one. -/
theorem bytes_ext {a b : ByteArray} (h : a.data.toList = b.data.toList) : a = b := by
  cases a; cases b
  simp at h
  rw [h]

theorem kl_inj {a b : ByteArray} (h : kl a = kl b) : a = b := by
  simp only [kl, Lit.string.injEq] at h
  exact bytes_ext h

section
variable {w : World} {B n : Nat} {D : DataW Unit}

theorem own_below {w' : World} (h : Tab w B n D) (hb : Below w.heap.size w w') : Tab w' B n D := by
  have hlt := h.lt
  obtain ⟨es, clock, hh, r⟩ := h
  exact ⟨es, clock, (hb.block B hlt).trans hh, r⟩

/-- 'm[k]'. -/
theorem look_str (h : Tab w B n D) (s : ByteArray) (hs : s.size ≤ maxLen) :
    ∃ v : ByteArray, (Instr.lookup 23 (.map (some B)) (.string s) false).run Yba.prog w = .ok (.string v) w ∧ D.atKey (kl s) (.lit (.string [])) = .lit (.string v.data.toList) := by
  obtain ⟨v, ps, hrun, hv⟩ := h.lookup law Yba.underlying23 (zero9 w) (plainElem_string Yba.underlying9 (by simp)) (keyOf_string_mk Yba.underlying26 hs)
  obtain ⟨x, rfl, hz, _⟩ := plainElem_string_inv Yba.underlying9 hv
  exact ⟨x, hrun, congrArg Prod.fst hz⟩

/-- 'v, ok := m[k]'. -/
theorem look_ok (h : Tab w B n D) (s : ByteArray) (hs : s.size ≤ maxLen) :
    ∃ v : ByteArray, (Instr.lookup 23 (.map (some B)) (.string s) true).run Yba.prog w = .ok (.tuple #[.string v, .bool (Maps.has D (kl s))]) w ∧ D.atKey (kl s) (.lit (.string [])) = .lit (.string v.data.toList) := by
  obtain ⟨v, ps, hrun, hv⟩ := h.look_ok law Yba.underlying23 (zero9 w) (plainElem_string Yba.underlying9 (by simp)) (keyOf_string_mk Yba.underlying26 hs)
  obtain ⟨x, rfl, hz, _⟩ := plainElem_string_inv Yba.underlying9 hv
  exact ⟨x, hrun, congrArg Prod.fst hz⟩
end

end Go.Proofs.Ybulkabwe
