/-
  The proof of 'Rows.LawS1392CStopSaid': the walk lies in YbulkabuoCStopWalk, the argument is opened in YbulkabuoCOpen.
-/
import Derived.Test.YbulkabuoCOpen
import Derived.Test.YbulkabuoCStopWalk
import Derived.ShutString
import Derived.ChangeOld
namespace Go.Proofs.Ybulkabuo.lawS1392CStop
open Go.ChangeShapes Go.WideShapes Go.ChangeAt Go.RowKit
set_option linter.unusedVariables false

theorem own : ownKnob Yba.prog.godebug = none := by kernel_rfl
theorem laidOut : laidOutB Yba.prog = true := by kernel_rfl

theorem walk (a : Option Addr) (len cap : Nat) (st : Int) (I : Nat → Item) (w : World) (hm : len ≤ maxLen) (hs : (Lit.int .u8 st).wf = true) (hI : ItemsAt w a len I) :
    Calls Yba.prog 6 #[.slice a len cap, .int .u8 st] w fun e w' => e = .returned (.bool true) ∧ Below w.heap.size w w' := by
  unfold maxLen at hm
  have hb := bounds_u8 hs
  by_cases hl : len ≤ 1024
  · by_cases ht : tot I len ≤ 8192
    · by_cases hn : (gN I len).length = 0
      · exact stop_zero a len cap st I w hb.1 hb.2 hl hI ht hn
      · have h1 := Int.emod_nonneg st (show ((gN I len).length : Int) + 1 ≠ 0 by omega)
        have h2 := Int.emod_lt_of_pos st (show 0 < ((gN I len).length : Int) + 1 by omega)
        by_cases hr : st % (((gN I len).length : Int) + 1) = 0
        · exact stop_one a len cap st I w hb.1 hb.2 hl hI ht (by omega) hr
        · obtain ⟨r, hr2⟩ := Int.eq_ofNat_of_zero_le h1
          exact stop_mid a len cap st I w hb.1 hb.2 hl hI ht r hr2 (by omega) (by omega)
    · refine stop_many a len cap st I w hl hI (by omega) ?_
      by_cases h0 : 0 < len
      · obtain ⟨b, off, _, _, hi⟩ := hI h0
        have := tot_le hi len (Nat.le_refl _)
        omega
      · have e : len = 0 := by omega
        subst e
        simp [tot]
  · refine (stop_long a len cap st w (by omega) (by omega)).mono ?_
    rintro e w' ⟨rfl, rfl⟩
    exact ⟨rfl, Below.refl _ _⟩

set_option maxRecDepth 100000 in
theorem lifted (os : Os) (started : os.Started) (H : Type) (enc : TypeId × Value → H) :
    ReturnsInHanded {} Yba.checked os 6 .any (Rows.lawS1392CStopSpec.pre6 enc Yba.prog Yba.f6 Rows.lawS1392CStopRow.domain false) (Rows.lawS1392CStopSpec.post enc Yba.prog Yba.f6 false true false false) := by
  refine returnsInHanded_of_change_sized (C := Yba.checked) own started (by kernel_rfl) Yba.func6
    (ChangeSpec.witness6 (enc := enc) (C := Yba.checked) false ⟨#[], #[.slice none 0 0, .int .u8 0], []⟩ 8 (by kernel_rfl) (by kernel_rfl) (by kernel_rfl) (by kernel_rfl)) ?_
  intro W base args ds gs before hval0 hW hcnd hsz0 _
  have hsz : (DataW.weightsEach Yba.prog (Yba.f6.params.toList ++ Rows.lawS1392CStopSpec.plain.varTypes Yba.prog) (ds ++ gs)).all (· ≤ reachBytes) = true := hsz0
  clear hsz0
  have hval : ∀ (j : Nat) t v, Yba.f6.params[j]? = some t → args[j]? = some v → Value.okWide Yba.prog W .any base t v := hval0
  have hW' := hW
  obtain ⟨p, q, hA0, hV, rfl, hfz, hnd⟩ := hW
  have hA : DataW.TrodAll enc Yba.prog W 0 (fun _ => true) true Yba.f6.params.toList args.toList ds p := hA0
  rw [Yba.params6] at hA hval hsz
  obtain ⟨v0, vs0, d0, ds0, p0, q0, hargs, rfl, rfl, h0, r0⟩ := trodAll_cons hA
  obtain ⟨v1, vs1, d1, ds1, p1, q1, rfl, rfl, rfl, h1, r1⟩ := trodAll_cons r0
  obtain ⟨rfl, rfl, rfl⟩ := trodAll_nil r1
  obtain rfl : args = #[v0, v1] := by cases args; simp_all
  obtain ⟨rfl, rfl⟩ := trodVars_none hV
  obtain ⟨a0, len0, cap0, rfl⟩ := okWide_slice Yba.underlying54 (hval 0 54 v0 rfl rfl)
  have k0 := h0
  have lt0 : ∀ x ∈ p0, x.block < W.heap.size := by obtain ⟨m, hm⟩ := k0; exact DataW.trod_lt m _ _ _ hm
  have hw0 : ∀ n ∈ d0.weights Yba.prog 54, n ≤ reachBytes := fun n hn => by
    have := List.all_eq_true.1 hsz n (DataW.weights_mem_each (j := 0) (t := 54) (d := d0) rfl rfl n hn)
    simpa using this
  obtain ⟨fuel, hf⟩ := h0
  obtain ⟨hm0, I, hI⟩ := open_items (by simpa [Value.cells] using hf) hw0
  obtain ⟨st, rfl, rfl, rfl, wst⟩ := open_int Yba.underlying5 (hval 1 5 v1 rfl rfl) h1
  clear hA0 hval0
  refine (walk a0 len0 cap0 st I W hm0 wst hI).mono fun e W' ⟨he, bel⟩ => ?_
  subst he
  exact ⟨_, rfl, _, _, _, [], _, [], hW', trodAll_mk1 (shut_bool Yba.underlying4 _), (trodAll_cons_mk (Below.trod laidOut (by kernel_rfl) (of_decide_eq_true (by kernel_rfl)) k0 bel lt0) (trodAll_cons_mk (shut_int Yba.underlying5 wst) trodAll_mk0)), rfl, bel.frame _, fun h => by cases h⟩

theorem over : Rows.lawS1392CStopRow.holds Yba.pinned (OpenSpec.ofChange Rows.lawS1392CStopSpec) :=
  OpenClaim.holds_of_wide 6 Yba.f6 rfl rfl rfl rfl rfl rfl rfl ⟨rfl, rfl, rfl, rfl, rfl⟩ rfl rfl rfl rfl rfl (by kernel_rfl) Yba.func6 (by kernel_rfl)
    (of_decide_eq_true (by kernel_rfl)) (by unfold Func.isWrapper; first | (rw [if_pos (by decide +kernel)]; kernel_rfl) | (rw [if_neg (by decide +kernel)]; exact ⟨rfl, rfl⟩))
    (fun os started H enc _ => lifted os started H enc)

/-- THE STATEMENT -/
theorem proved : Rows.LawS1392CStopSaid := over
end Go.Proofs.Ybulkabuo.lawS1392CStop
