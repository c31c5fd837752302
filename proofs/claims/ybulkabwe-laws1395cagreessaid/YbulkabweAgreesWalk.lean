import Derived.Test.YbulkabweBuild
import Derived.Test.YbulkabweIdOf
namespace Go.Proofs.Ybulkabwe
open Go.RowKit Go.Maps Go.Deep

/-- Some of the first k looked-up names is the one asked for. -/
def exB (val : Nat → ByteArray) (name : ByteArray) (k : Nat) : Bool := (List.range k).any fun i => (val i).toList == name.toList

theorem exB_succ (val : Nat → ByteArray) (name : ByteArray) (k : Nat) : exB val name (k + 1) = (exB val name k || (val k).toList == name.toList) := by
  simp [exB, List.range_succ]

theorem exB_true {val : Nat → ByteArray} {name : ByteArray} {n i : Nat} (hi : i < n) (h : (val i).data.toList = name.data.toList) : exB val name n = true := by
  unfold exB
  rw [List.any_eq_true]
  exact ⟨i, List.mem_range.2 hi, by simp [ByteArray.toList_eq, h]⟩

theorem exB_false {val : Nat → ByteArray} {name : ByteArray} {n : Nat} (h : ∀ i, i < n → (val i).data.toList ≠ name.data.toList) : exB val name n = false := by
  unfold exB
  rw [List.any_eq_false]
  intro i hi
  simpa [ByteArray.toList_eq] using h i (List.mem_range.1 hi)

/-- The table's look-ups, by index. -/
theorem looks {w : World} {B n : Nat} {K V : Nat → ByteArray} (h : Tab w B n (tab K V n)) (hK : ∀ i, i < n → (K i).size ≤ maxLen) :
    ∃ val : Nat → ByteArray, ∀ i, i < n → (Instr.lookup 23 (.map (some B)) (.string (K i)) false).run Yba.prog w = .ok (.string (val i)) w ∧ (tab K V n).atKey (kl (K i)) (.lit (.string [])) = .lit (.string (val i).data.toList) :=
  choose_lt (fun i hi => look_str h (K i) (hK i hi))

theorem found_yes {K V val : Nat → ByteArray} {n : Nat} {name id : ByteArray} (hval : ∀ i, i < n → (tab K V n).atKey (kl (K i)) (.lit (.string [])) = .lit (.string (val i).data.toList))
    (hh : Maps.has (tab K V n) (kl id) = true) (hat : ∀ zd, (tab K V n).atKey (kl id) zd = .lit (.string name.data.toList)) : exB val name n = true := by
  obtain ⟨i, hi, e⟩ := (has_tab K V (kl id) n).1 hh
  refine exB_true hi ?_
  have h1 := hval i hi
  rw [e, hat] at h1
  simp only [DataW.lit.injEq, Lit.string.injEq] at h1
  exact h1.symm

theorem found_no {K V val : Nat → ByteArray} {n : Nat} {name : ByteArray} (hval : ∀ i, i < n → (tab K V n).atKey (kl (K i)) (.lit (.string [])) = .lit (.string (val i).data.toList))
    (hno : ∀ x, Maps.has (tab K V n) x = true → ∀ zd, (tab K V n).atKey x zd ≠ .lit (.string name.data.toList)) : exB val name n = false := by
  refine exB_false fun i hi e => ?_
  refine hno (kl (K i)) ((has_tab K V _ n).2 ⟨i, hi, rfl⟩) (.lit (.string [])) ?_
  rw [hval i hi, e]

theorem same_str {D : DataW Unit} {name id v : ByteArray} (hat : ∀ zd, D.atKey (kl id) zd = .lit (.string name.data.toList)) (hv : D.atKey (kl id) (.lit (.string [])) = .lit (.string v.data.toList)) : (v.toList == name.toList) = true := by
  rw [hat] at hv
  simp only [DataW.lit.injEq, Lit.string.injEq] at hv
  simp [ByteArray.toList_eq, hv]

set_option maxRecDepth 100000 in
set_option maxHeartbeats 400000 in
theorem agrees_long (a1 a2 : Option Addr) (l1 l2 c1 c2 : Nat) (name : ByteArray) (w : World) (h1 : l1 ≤ 9223372036854775807) (h2 : l2 ≤ 9223372036854775807) (h : 1024 < l1 ∨ 1024 < l2) :
    Calls Yba.prog 3 #[.slice a1 l1 c1, .slice a2 l2 c2, .string name] w fun e w' => e = .returned (.bool true) ∧ w' = w := by
  by_cases hc : 1024 < l1
  · go_enter Yba.func3, Yba.ntmps3
    go_wp2
    go_ret
    exact ⟨rfl, rfl⟩
  · have hd : 1024 < l2 := by omega
    clear h
    go_enter Yba.func3, Yba.ntmps3
    go_wp2
    go_ret
    exact ⟨rfl, rfl⟩

set_option maxRecDepth 100000 in
set_option maxHeartbeats 400000 in
theorem agrees_short (a1 a2 : Option Addr) (l1 l2 c1 c2 : Nat) (K V : Nat → ByteArray) (name : ByteArray) (w : World) (h1 : l1 ≤ 1024) (h2 : l2 ≤ 1024) (hK : StrsAt w a1 l1 K) (hV : StrsAt w a2 l2 V) :
    Calls Yba.prog 3 #[.slice a1 l1 c1, .slice a2 l2 c2, .string name] w fun e w' => e = .returned (.bool true) ∧ Below w.heap.size w w' := by
  obtain ⟨n, hn⟩ : ∃ n, n = min l1 l2 := ⟨_, rfl⟩
  have hn1 : n ≤ l1 := by omega
  have HN : Hid _ := hn
  have HK : Hid (StrsAt w a1 l1 K) := hK
  have HV : Hid (StrsAt w a2 l2 V) := hV
  clear hn hK hV
  go_enter Yba.func3, Yba.ntmps3
  go_wp2_with fail
  refine (build_any a1 a2 l1 l2 c1 c2 n K V _ h1 h2 HN.out HK.out HV.out).mono ?_
  rintro e w1 ⟨rfl, ht, hb⟩
  have hKs : ∀ i, i < n → (K i).size ≤ maxLen := fun i hi => by
    obtain ⟨b, off, _, _, hc⟩ := HK.out (by omega)
    exact (hc i (by omega)).2
  obtain ⟨val, hval⟩ := looks ht hKs
  have HT : Hid (Tab w1 w.heap.size n (tab K V n)) := ht
  have HB : Hid (Below w.heap.size w w1) := hb
  have HVAL : Hid _ := hval
  have HK1 : Hid (StrsAt w1 a1 l1 K) := HK.out.below hb
  clear ht hb hval hKs HK HV
  go_wp2
  go_loop [9, 10] (fun ex i => ∃ k : Nat, k ≤ n ∧ i = .int .i64 k ∧ ex = .bool (exB val name k)) (fun _ i => n - (intOf i).toNat)
  case atStart => exact ⟨0, Nat.zero_le _, rfl, rfl⟩
  case round =>
    obtain ⟨k, hk, rfl, rfl⟩ := hrel
    by_cases hlt : k < n
    · obtain ⟨b1, o1, e1, _, hc1⟩ := HK1.out (by omega)
      subst e1
      obtain ⟨ck, _⟩ := hc1 k (by omega)
      obtain ⟨hrun, _⟩ := HVAL.out k hlt
      have HX : Hid _ := exB_succ val name k
      clear hc1
      by_cases heq : ((val k).toList == name.toList) = true
      · go_wp2
        go_round
        case rel => exact ⟨k + 1, by omega, by go_num, by rw [HX.out, heq]; simp⟩
        case measure => simp [intOf]; omega
      · have hne : ((val k).toList == name.toList) = false := by simpa using heq
        clear heq
        go_wp2
        go_round
        case rel => exact ⟨k + 1, by omega, by go_num, by rw [HX.out, hne]; simp⟩
        case measure => simp [intOf]; omega
    · have ek : k = n := by omega
      subst ek
      go_wp2_with fail
      refine (idOf_any _ _ _ name _ HT.out).mono ?_
      rintro e w2 ⟨id, ok, rfl, hb2, hf⟩
      have HT2 : Hid (Tab w2 w.heap.size k (tab K V k)) := own_below HT.out hb2
      have HB2 : Hid (Below w.heap.size w w2) := HB.out.trans (hb2.mono HB.out.size)
      clear hb2
      rcases hf with ⟨rfl, hid, hh, hat⟩ | ⟨rfl, rfl, hno⟩
      · have hex := found_yes (fun i hi => (HVAL.out i hi).2) hh hat
        obtain ⟨v, hrun, hv⟩ := look_ok HT2.out id hid
        rw [hh] at hrun
        have hs := same_str hat hv
        rw [hex]
        clear hh hat hv hex
        go_wp2
        go_ret
        exact ⟨rfl, HB2.out⟩
      · have hex := found_no (fun i hi => (HVAL.out i hi).2) hno
        rw [hex]
        clear hno hex
        go_wp2
        go_ret
        exact ⟨rfl, HB2.out⟩
end Go.Proofs.Ybulkabwe
