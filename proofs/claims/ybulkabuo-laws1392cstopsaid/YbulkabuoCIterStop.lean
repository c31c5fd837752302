import Derived.Test.YbulkabuoCIter
namespace Go.Proofs.Ybulkabuo
open Go.RowKit

set_option maxRecDepth 100000 in
set_option maxHeartbeats 400000 in
theorem iter_14 (B : Nat) (I : Nat → Item) (V : Nat → Value) (S : List Int → List Int → World → Prop) (cont : Nat → Bool) (caps : Array Value) (ao : Option Addr) (n cap bx : Nat) (w : World)
    (hB : B ≤ w.heap.size) (hT : (gN I n).length ≤ 8192) (hn : n ≤ 1024) (hbx : w.cell? ⟨bx, 0, none⟩ = some (.slice ao n cap)) (hc : 0 < n → ∃ gc, ao = some ⟨gc, 0, none⟩ ∧ gc < B ∧ ∀ k, k < n → w.cell? ⟨gc, k, none⟩ = some (V k)) (hC : ∀ k, k < n → ContIn B w k (I k) (V k))
    (hsm : ∀ k, k < n → (I k).len ≤ 8192)
    (hS : S [] [] w)
    (hy : ∀ gs ps m q w1, S gs ps w1 → gs.length ≤ 8192 → ps.length = gs.length → B ≤ w1.heap.size → Calls Yba.prog 14 (#[.agg #[.int .u8 0, .int .u8 0, .int .u16 0, .int .u8 m, .int .u8 q, .slice none 0 0, .int .u8 0, .slice none 0 0]] ++ caps) w1
      fun e w' => e = .returned (.bool (cont (gs.length + 1))) ∧ S (gs ++ [m]) (ps ++ [q]) w' ∧ Below B w1 w')
    (hal : ∀ gs ps w1 o, S gs ps w1 → S gs ps (w1.alloc o)) :
    Calls Yba.prog 15 #[.func (.func 14) #[] caps, .pointer (some ⟨bx, 0, none⟩)] w
      fun e w' => e = .returned (.tuple #[]) ∧ (∃ gs ps, S gs ps w' ∧ Stopped cont I n gs ps) ∧ Below B w w' := by
  have HY := hy
  have HY2 : Hid _ := hy
  have HA2 : Hid _ := hal
  have HC2 : Hid _ := hC
  have HC3 : Hid _ := hc
  clear hy HY hal hC hc
  have t1 := ta_live
  have t2 := ta_78
  have t3 := ta_83
  have t4 := ta_nil
  go_enter Yba.func15, Yba.ntmps15
  go_wp2
  go_loopw [11] (fun i wr => ∃ k : Nat, k ≤ n ∧ i = .int .i64 k ∧ S (gN I k) (gP I k) wr ∧ Below B w wr ∧ ∀ i, 1 ≤ i → i ≤ (gN I k).length → cont i = true) (fun i _ => n - (intOf i).toNat)
  case atStart => exact ⟨0, Nat.zero_le _, rfl, hS, Below.refl _ _, fun i h1 h2 => by simp [gN] at h2; omega⟩
  case round =>
    obtain ⟨k, hk, rfl, hSk, hbel, hco⟩ := hrel
    have HS : Hid _ := hSk
    have HCO : Hid _ := hco
    clear hSk hco hS
    by_cases hlt : k < n
    · obtain ⟨gc, hao0, hgc, hc1⟩ := HC3.out (by omega)
      subst hao0
      have ck := (hbel.cell (p := ⟨gc, k, none⟩) hgc).trans (hc1 k hlt)
      clear hc1
      have hCk := HC2.out k hlt
      by_cases hkind : (I k).kind % 4 = 0
      · obtain ⟨bs, ao2, cap2, hv, hbs, csa, hrow⟩ := hCk.live hkind
        rw [hv] at ck
        have csa1 := (hbel.cell (p := ⟨bs, 2, none⟩) hbs).trans csa
        have hsmk := hsm k hlt
        have HR : Hid _ := hrow
        clear hrow hCk
        go_wp2
        clear csa1 ck
        go_loopw [27] (fun i ws => ∃ j : Nat, j ≤ (I k).len ∧ i = .int .i64 j ∧ S (gN I k ++ (List.range j).map (I k).zs) (gP I k ++ (List.range j).map (fun _ => proto k)) ws ∧ Below B w ws ∧ ∀ i, 1 ≤ i → i ≤ (gN I k).length + j → cont i = true) (fun i _ => (I k).len - (intOf i).toNat)
        case atStart => exact ⟨0, Nat.zero_le _, rfl, by simpa using HS.out, hbel, by simpa using HCO.out⟩
        case round =>
          obtain ⟨j, hj, rfl, hSj, hbelj, hcoj⟩ := hrel
          have HSj : Hid _ := hSj
          have HCOj : Hid _ := hcoj
          clear hSj hcoj
          by_cases hjl : j < (I k).len
          · obtain ⟨g, hao, hg, hcell⟩ := HR.out (by omega)
            subst hao
            have c0 := (hbelj.cell (p := ⟨g, j * 8, none⟩) hg).trans (hcell j 0 _ hjl rfl)
            have c1 := (hbelj.cell (p := ⟨g, j * 8 + 1, none⟩) hg).trans (hcell j 1 _ hjl rfl)
            have c2 := (hbelj.cell (p := ⟨g, j * 8 + 2, none⟩) hg).trans (hcell j 2 _ hjl rfl)
            have c3 := (hbelj.cell (p := ⟨g, j * 8 + 3, none⟩) hg).trans (hcell j 3 _ hjl rfl)
            have c4 := (hbelj.cell (p := ⟨g, j * 8 + 4, none⟩) hg).trans (hcell j 4 _ hjl rfl)
            have c5 := (hbelj.cell (p := ⟨g, j * 8 + 5, none⟩) hg).trans (hcell j 5 _ hjl rfl)
            have c6 := (hbelj.cell (p := ⟨g, j * 8 + 6, none⟩) hg).trans (hcell j 6 _ hjl rfl)
            have c7 := (hbelj.cell (p := ⟨g, j * 8 + 7, none⟩) hg).trans (hcell j 7 _ hjl rfl)
            clear hcell
            go_wp2_with fail
            refine (HY2.out (gN I k ++ (List.range j).map (I k).zs) (gP I k ++ (List.range j).map (fun _ => proto k)) ((I k).zs j) (proto k) _ (HA2.out _ _ _ _ HSj.out) ?b1 ?b2 ?b3).mono ?b4
            case b1 => exact Nat.le_trans (gN_part hlt hkind hj).length_le hT
            case b2 => simp [gP_length]
            case b3 => have := hbelj.size; simp; omega
            case b4 =>
              rintro e w1 ⟨rfl, hS1, hb1⟩
              have RS : Hid _ := hS1
              have RB : Hid (Below B w w1) := (hbelj.alloc (by have := hbelj.size; omega) _).trans hb1
              clear hS1 hb1 c0 c1 c2 c3 c4 c5 c6 c7
              cases hcont : cont ((gN I k ++ (List.range j).map (I k).zs).length + 1)
              · have HCT : Hid _ := hcont
                clear hcont
                go_wp2
                refine bodyPost_ret (results_none rfl _ _ _) rfl ?_
                have es : gN I k ++ (List.range j).map (I k).zs ++ [(I k).zs j] = gN I k ++ (List.range (j + 1)).map (I k).zs := by simp [List.range_succ]
                have ep : gP I k ++ (List.range j).map (fun _ => proto k) ++ [proto k] = gP I k ++ (List.range (j + 1)).map (fun _ => proto k) := by simp [List.range_succ]
                refine ⟨rfl, ⟨_, _, RS.out, ?_, ?_, ?_, Or.inr (by simpa [Nat.add_assoc] using HCT.out), fun i h1 h2 => HCOj.out i h1 (by simp at h2; omega)⟩, RB.out⟩
                · rw [es]; exact gN_part hlt hkind hjl
                · rw [ep]; exact gP_part hlt hkind hjl
                · simp [gP_length]
              · have HCT : Hid _ := hcont
                clear hcont
                go_wp2
                go_roundw
                case rel =>
                  refine ⟨j + 1, by omega, by go_num, ?_, RB.out, fun i h1 h2 => ?_⟩
                  · have h := RS.out
                    simpa [List.range_succ] using h
                  · by_cases hi : i ≤ (gN I k).length + j
                    · exact HCOj.out i h1 hi
                    · have e1 : i = (gN I k ++ (List.range j).map (I k).zs).length + 1 := by simp; omega
                      rw [e1]
                      exact HCT.out
                case measure => simp [intOf]; omega
          · go_wp2
            go_roundw
            case rel =>
              have ej : j = (I k).len := by omega
              subst ej
              refine ⟨k + 1, by omega, by go_num, ?_, hbelj, ?_⟩
              · rw [gN_live hkind, gP_live hkind]; exact HSj.out
              · rw [gN_live hkind]; simpa using HCOj.out
            case measure => simp [intOf]; omega
      · have hd := hCk.dead hkind
        rcases hd with hd | ⟨p, hd | hd⟩
        all_goals
          rw [hd] at ck
          clear hd hCk
          go_wp2
          go_roundw
          case rel => exact ⟨k + 1, by omega, by go_num, by rw [gN_dead hkind, gP_dead hkind]; exact HS.out, hbel, by rw [gN_dead hkind]; exact HCO.out⟩
          case measure => simp [intOf]; omega
    · go_wp2
      go_end0
      have ek : k = n := by omega
      subst ek
      exact ⟨rfl, ⟨_, _, HS.out, List.prefix_refl _, List.prefix_refl _, gP_length _ _, Or.inl ⟨rfl, rfl⟩, fun i h1 h2 => HCO.out i h1 (by omega)⟩, hbel⟩
end Go.Proofs.Ybulkabuo
