import Derived.Test.YbulkabweAgreesWalk
namespace Go.Proofs.Ybulkabwe
open Go.RowKit Go.Maps Go.Deep

set_option maxRecDepth 100000 in
set_option maxHeartbeats 400000 in
theorem finds_long (a1 a2 : Option Addr) (l1 l2 c1 c2 : Nat) (sel : Int) (w : World) (h1 : l1 ≤ 9223372036854775807) (h2 : l2 ≤ 9223372036854775807) (h : 1024 < l1 ∨ 1024 < l2) :
    Calls Yba.prog 4 #[.slice a1 l1 c1, .slice a2 l2 c2, .int .u16 sel] w fun e w' => e = .returned (.bool true) ∧ w' = w := by
  by_cases hc : 1024 < l1
  · go_enter Yba.func4, Yba.ntmps4
    go_wp2
    go_ret
    exact ⟨rfl, rfl⟩
  · have hd : 1024 < l2 := by omega
    clear h
    go_enter Yba.func4, Yba.ntmps4
    go_wp2
    go_ret
    exact ⟨rfl, rfl⟩

set_option maxRecDepth 100000 in
set_option maxHeartbeats 400000 in
theorem finds_none (a1 a2 : Option Addr) (l1 l2 c1 c2 : Nat) (K V : Nat → ByteArray) (sel : Int) (w : World) (h1 : l1 ≤ 1024) (h2 : l2 ≤ 1024) (h0 : 0 = min l1 l2) (hK : StrsAt w a1 l1 K) (hV : StrsAt w a2 l2 V) :
    Calls Yba.prog 4 #[.slice a1 l1 c1, .slice a2 l2 c2, .int .u16 sel] w fun e w' => e = .returned (.bool true) ∧ Below w.heap.size w w' := by
  have HN : Hid _ := h0
  have HK : Hid (StrsAt w a1 l1 K) := hK
  have HV : Hid (StrsAt w a2 l2 V) := hV
  clear h0 hK hV
  go_enter Yba.func4, Yba.ntmps4
  go_wp2_with fail
  refine (build_any a1 a2 l1 l2 c1 c2 0 K V _ h1 h2 HN.out HK.out HV.out).mono ?_
  rintro e w1 ⟨rfl, ht, hb⟩
  have HT : Hid (Tab w1 w.heap.size 0 (tab K V 0)) := ht
  have HB : Hid (Below w.heap.size w w1) := hb
  clear ht hb
  go_wp2_with fail
  refine (idOf_any _ _ _ _ _ HT.out).mono ?_
  rintro e w2 ⟨id, ok, rfl, hb2, hf⟩
  have HB2 : Hid (Below w.heap.size w w2) := HB.out.trans (hb2.mono HB.out.size)
  clear hb2
  rcases hf with ⟨rfl, hid, hh, hat⟩ | ⟨rfl, rfl, hno⟩
  · obtain ⟨i, hi, _⟩ := (has_tab K V (kl id) 0).1 hh
    omega
  · clear hno
    go_wp2
    go_ret
    exact ⟨rfl, HB2.out⟩

set_option maxRecDepth 100000 in
set_option maxHeartbeats 400000 in
theorem finds_some (a1 a2 : Option Addr) (l1 l2 c1 c2 : Nat) (K V : Nat → ByteArray) (sel : Int) (w : World) (h1 : l1 ≤ 1024) (h2 : l2 ≤ 1024) (n j : Nat) (hn : n = min l1 l2) (hn0 : 0 < n) (hs0 : 0 ≤ sel) (hs1 : sel ≤ 65535) (hr : sel % (n : Int) = (j : Int)) (hj : j < n)
    (hK : StrsAt w a1 l1 K) (hV : StrsAt w a2 l2 V) :
    Calls Yba.prog 4 #[.slice a1 l1 c1, .slice a2 l2 c2, .int .u16 sel] w fun e w' => e = .returned (.bool true) ∧ Below w.heap.size w w' := by
  have hn1 : n ≤ l1 := by omega
  have HN : Hid _ := hn
  have HK : Hid (StrsAt w a1 l1 K) := hK
  have HV : Hid (StrsAt w a2 l2 V) := hV
  clear hn hK hV
  go_enter Yba.func4, Yba.ntmps4
  go_wp2_with fail
  refine (build_any a1 a2 l1 l2 c1 c2 n K V _ h1 h2 HN.out HK.out HV.out).mono ?_
  rintro e w1 ⟨rfl, ht, hb⟩
  obtain ⟨b1, o1, e1, _, hc1⟩ := (HK.out.below hb) (by omega)
  subst e1
  obtain ⟨ck, sk⟩ := hc1 j (by omega)
  obtain ⟨x, hrun, hx⟩ := look_str ht (K j) sk
  have HT : Hid (Tab w1 w.heap.size n (tab K V n)) := ht
  have HB : Hid (Below w.heap.size w w1) := hb
  have HX : Hid _ := hx
  clear ht hb hc1 hx
  go_wp2_with fail
  refine (idOf_any _ _ _ x _ HT.out).mono ?_
  rintro e w2 ⟨id, ok, rfl, hb2, hf⟩
  have HT2 : Hid (Tab w2 w.heap.size n (tab K V n)) := own_below HT.out hb2
  have HB2 : Hid (Below w.heap.size w w2) := HB.out.trans (hb2.mono HB.out.size)
  clear hb2 hrun
  rcases hf with ⟨rfl, hid, hh, hat⟩ | ⟨rfl, rfl, hno⟩
  · obtain ⟨v, hrun, hv⟩ := look_ok HT2.out id hid
    rw [hh] at hrun
    have hs := same_str hat hv
    clear hh hat hv
    go_wp2
    go_ret
    exact ⟨rfl, HB2.out⟩
  · exact absurd HX.out (hno (kl (K j)) ((has_tab K V _ n).2 ⟨j, hj, rfl⟩) _)
end Go.Proofs.Ybulkabwe
