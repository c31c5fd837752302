import Derived.Test.YbulkabuoCBuildInv
import Derived.Test.YbulkabuoRows
import Derived.WalkLawsBesides
import Derived.Handy
namespace Go.Proofs.Ybulkabuo
open Go.RowKit

theorem info48 : (Yba.prog.info? 48).map (fun i => (i.zero, i.size, i.bytes)) = some (some .nilIface, 1, 16) := by kernel_rfl
theorem info63 : (Yba.prog.info? 63).map (fun i => (i.zero, i.size, i.bytes)) = some (some (.agg #[.int .u8 0, .int .u8 0, .int .u16 0, .int .u8 0, .int .u8 0, .slice none 0 0, .int .u8 0, .slice none 0 0]), 8, 64) := by kernel_rfl
theorem info82 : (Yba.prog.info? 82).map (fun i => (i.zero, i.size, i.bytes)) = some (some (.agg #[.int .u8 0, .int .u8 0, .int .u16 0, .int .u8 0, .int .u8 0, .slice none 0 0, .int .u8 0, .slice none 0 0]), 8, 64) := by kernel_rfl
theorem info5b : (Yba.prog.info? 5).map (fun i => (i.zero, i.size, i.bytes)) = some (some (.int .u8 0), 1, 1) := by kernel_rfl

theorem one_num (n : Int) : ∀ u ∈ [Value.int .u8 n], u.oneCell' = true := by
  intro u hu
  simp at hu
  subst hu
  rfl

set_option maxRecDepth 100000 in
set_option maxHeartbeats 400000 in
theorem build_any (b off len cap : Nat) (I : Nat → Item) (w : World) (hb : b < w.heap.size) (hl : len ≤ 1024) (ht : tot I len ≤ 8192) (hI : ∀ k, k < len → ItemIn w b off k (I k)) :
    Calls Yba.prog 10 #[.slice (some ⟨b, off, none⟩) len cap] w fun e w' => ∃ c wn wp, e = .returned (.tuple #[c, wn, wp]) ∧ BInv w.heap.size w'.heap.size w I len c wn wp (gN I len) (gP I len) w' := by
  obtain ⟨i0, hi, hz0, hz1, hz2⟩ := info_parts info48
  obtain ⟨i2, ji, jz0, jz1, jz2⟩ := info_parts info82
  obtain ⟨i3, ki, kz0, kz1, kz2⟩ := info_parts info63
  obtain ⟨i4, li, lz0, lz1, lz2⟩ := info_parts info5b
  go_enter Yba.func10, Yba.ntmps10
  go_wp2_with (at_make; refine wpList_make_own _ rfl _ _ 56 rfl w.heap.size 48 i0 .nilIface 1 Yba.underlying56 hi hz0 hz1 _ _ _ len rfl rfl rfl ?b1 ?b2 ?b3 ?b4)
  case b1 => rw [hz2]; omega
  case b2 => unfold maxLen; omega
  case b3 => exact Nat.le_refl _
  case b4 =>
    intro w1 hown hg
    have h0 : BInv w.heap.size w1.heap.size w I 0 (.slice (some ⟨w.heap.size, 0, none⟩) 0 len) (.slice none 0 0) (.slice none 0 0) [] [] w1 := {
      below := (Below.refl _ _).grown hg (Nat.le_refl _) (fun _ h => by cases h)
      sz := hg.size
      sz2 := Nat.le_refl _
      con := ⟨fun _ => .nilIface, hown, fun j hj => by omega⟩
      on := World.ownsRow_nil _ _ _ _
      op := World.ownsRow_nil _ _ _ _
      ap := Or.inl rfl }
    have H0 : Hid _ := h0
    clear h0 hown hg
    go_wp2
    go_loopw [5, 6, 7, 21] (fun c wn wp i wr => ∃ k : Nat, k ≤ len ∧ i = .int .i64 k ∧ BInv w.heap.size wr.heap.size w I k c wn wp (gN I k) (gP I k) wr) (fun _ _ _ i _ => len - (intOf i).toNat)
    case atStart => exact ⟨0, Nat.zero_le _, rfl, H0.out⟩
    case round =>
      obtain ⟨k, hk, rfl, hinv⟩ := hrel
      have HI : Hid _ := hinv
      clear H0
      by_cases hlt : k < len
      · obtain ⟨ck, cn, lo, hi8, hs, _⟩ := (hI k hlt).below hb (Nat.le_refl _) hinv.below
        have hnums := (hI k hlt).nums
        have hlen : (I k).len ≤ 8192 := by have h1 := tot_mono I (show k + 1 ≤ len by omega); simp only [tot] at h1; omega
        obtain ⟨a, ha⟩ : ∃ a, (I k).a = a := ⟨_, rfl⟩
        rw [ha] at cn hnums
        have HN : Hid _ := hnums
        clear hnums hinv ha
        obtain ⟨wo, rfl⟩ : ∃ wo, wo = wr := ⟨_, rfl⟩
        by_cases h0 : (I k).kind % 4 = 0
        · have hbi := (HI.out.alloc (.cells #[.int .u8 (I k).kind, .slice a (I k).len (I k).cap] 73)).alloc (.cells #[.int .u32 k, .slice none 0 0, .slice none 0 0] 77)
          have hsab := heap_alloc_new (wo.alloc (.cells #[.int .u8 (I k).kind, .slice a (I k).len (I k).cap] 73)) (.cells #[.int .u32 k, .slice none 0 0, .slice none 0 0] 77)
          have hsz := hbi.sz
          have S0 : Hid (SInv w.heap.size wo.heap.size w I k u5 u6 u7 (gN I k) (gP I k) (.int .u32 k) 0 (.slice none 0 0) _) := ⟨hbi, by simpa using hsab, World.ownsRow_nil _ _ _ _⟩
          have H0 : Hid _ := h0
          clear hbi hsab
          go_wp2
          clear h0
          go_loopw [6, 7, 41] (fun wn wp i ws => ∃ (j : Nat) (pv : Value), j ≤ (I k).len ∧ i = .int .i64 j ∧ SInv w.heap.size wo.heap.size w I k u5 wn wp (gN I k ++ (List.range j).map (I k).zs) (gP I k ++ (List.range j).map (fun _ => proto k)) (.int .u32 k) j pv ws) (fun _ _ i _ => (I k).len - (intOf i).toNat)
          case atStart => exact ⟨0, _, Nat.zero_le _, rfl, by simpa using S0.out⟩
          case round =>
            obtain ⟨j, pv, hj, rfl, hsj⟩ := hrel
            obtain ⟨ns, hns⟩ : ∃ ns, ns = gN I k ++ (List.range j).map (I k).zs := ⟨_, rfl⟩
            obtain ⟨ps, hps⟩ : ∃ ps, ps = gP I k ++ (List.range j).map (fun _ => proto k) := ⟨_, rfl⟩
            rw [← hns, ← hps] at hsj
            have hnl : ns.length ≤ 8192 := by rw [hns]; exact Nat.le_trans (gN_part hlt H0.out hj).length_le (Nat.le_trans (gN_le I len) ht)
            have hpl : ps.length ≤ 8192 := by rw [hps]; exact Nat.le_trans (gP_part hlt H0.out hj).length_le (by rw [gP_length]; exact Nat.le_trans (gN_le I len) ht)
            have HNS : Hid _ := hns
            have HPS : Hid _ := hps
            have HSj : Hid _ := hsj
            clear S0 hns hps
            by_cases hjl : j < (I k).len
            · obtain ⟨y, z, hay, hy, hcell⟩ := HN.out (by omega)
              subst hay
              have cy := (hsj.bi.below.cell (p := ⟨y, z + j, none⟩) hy).trans (hcell j hjl).1
              have csa := hsj.saCell
              have hszj := hsj.bi.sz2
              clear hcell hsj
              go_wp2_with (at_builtin; refine wpList_append_lies _ rfl (.tmp 49) (.tmp 54) 33 rfl wo.heap.size 63 i3 (.agg #[.int .u8 0, .int .u8 0, .int .u16 0, .int .u8 0, .int .u8 0, .slice none 0 0, .int .u8 0, .slice none 0 0]) 8 64 Yba.underlying33 ki kz0 kz1 kz2 rfl (by decide) pv j _ rfl (HSj.out.alloc _).ov ⟨wr.heap.size, 0, none⟩ 1 1 [.int .u8 0, .int .u8 0, .int .u16 0, .int .u8 ((I k).zs j), .int .u8 ((k : Int) % 256), .slice none 0 0, .int .u8 0, .slice none 0 0] rfl rfl ?l1 (one_eight _ _) (by decide) ?l2 ?l3 ?l4 (wr.heap.size + 1) ?l5 ?l6)
              case l1 => exact news_alloc (cs := #[.int .u8 0, .int .u8 0, .int .u16 0, .int .u8 ((I k).zs j), .int .u8 ((k : Int) % 256), .slice none 0 0, .int .u8 0, .slice none 0 0]) rfl
              case l2 => unfold maxLen; omega
              case l3 => omega
              case l4 => simp; omega
              case l5 => simp
              case l6 =>
                intro g cap2 w3 hown hg hat hlt3
                obtain ⟨cs1, fs1, S1⟩ := (HSj.out.alloc (.cells #[.int .u8 0, .int .u8 0, .int .u16 0, .int .u8 ((I k).zs j), .int .u8 ((k : Int) % 256), .slice none 0 0, .int .u8 0, .slice none 0 0] 63)).stepV hown hg
                have HS1 : Hid _ := S1
                have hsz3 := hg.size
                simp only [World.size_alloc] at hsz3
                clear hown hg hat hlt3 S1
                go_wp2_with (at_builtin; refine wpList_append_lies _ rfl (.tmp 58) (.tmp 60) 23 rfl w.heap.size 5 i4 (.int .u8 0) 1 1 Yba.underlying23 li lz0 lz1 lz2 rfl (by decide) u6 _ _ rfl (HS1.out.alloc _).bi.on ⟨w3.heap.size, 0, none⟩ 1 1 [.int .u8 ((I k).zs j)] rfl rfl ?m1 (one_num _) (by decide) ?m2 ?m3 ?m4 (w3.heap.size + 1) ?m5 ?m6)
                case m1 => exact news_alloc (cs := #[.int .u8 ((I k).zs j)]) (by simp)
                case m2 => unfold maxLen; omega
                case m3 => omega
                case m4 => simp; omega
                case m5 => simp
                case m6 =>
                  intro g2 cap3 w4 hown hg hat hlt4
                  have S2 := (HS1.out.alloc (.cells #[.int .u8 ((I k).zs j)] 5)).stepN hown hg (by simpa using hat)
                  have HS2 : Hid _ := S2
                  have hsz4 := hg.size
                  simp only [World.size_alloc, World.size_setCell] at hsz4
                  clear hown hg hat hlt4 S2 cs1 fs1
                  go_wp2_with (at_builtin; refine wpList_append_lies _ rfl (.tmp 62) (.tmp 65) 23 rfl w.heap.size 5 i4 (.int .u8 0) 1 1 Yba.underlying23 li lz0 lz1 lz2 rfl (by decide) u7 _ _ rfl (HS2.out.alloc _).bi.op ⟨w4.heap.size, 0, none⟩ 1 1 [.int .u8 ((k : Int) % 256)] rfl rfl ?n1 (one_num _) (by decide) ?n2 ?n3 ?n4 (w4.heap.size + 1) ?n5 ?n6)
                  case n1 => exact news_alloc (cs := #[.int .u8 ((k : Int) % 256)]) (by simp)
                  case n2 => unfold maxLen; omega
                  case n3 => omega
                  case n4 => simp; omega
                  case n5 => simp
                  case n6 =>
                    intro g3 cap4 w5 hown hg hat hlt5
                    have S3 := (HS2.out.alloc (.cells #[.int .u8 ((k : Int) % 256)] 5)).stepP hown hg (by simpa using hat)
                    have HS3 : Hid _ := S3
                    clear hown hg hat hlt5 S3
                    go_wp2
                    go_roundw
                    case rel =>
                      have es : gN I k ++ (List.range (j + 1)).map (I k).zs = gN I k ++ (List.range j).map (I k).zs ++ [(I k).zs j] := by simp [List.range_succ]
                      have ep : gP I k ++ (List.range (j + 1)).map (fun _ => proto k) = gP I k ++ (List.range j).map (fun _ => proto k) ++ [(k : Int) % 256] := by simp [List.range_succ, proto]
                      refine ⟨j + 1, .slice (some ⟨g, 0, none⟩) (j + 1) cap2, by omega, by go_num, ?_⟩
                      rw [es, ep, ← HNS.out, ← HPS.out]
                      exact HS3.out
                    case measure => simp [intOf]; omega
            · have ej : j = (I k).len := by omega
              have hbi := hsj.bi.alloc (.cells #[.iface 74 (.pointer (some ⟨wo.heap.size + 1, 0, none⟩))] 48)
              have hgd : CGood _ _ k (I k) _ := (by rw [ej] at hsj; exact (hsj.alloc (.cells #[.iface 74 (.pointer (some ⟨wo.heap.size + 1, 0, none⟩))] 48)).good H0.out)
              obtain ⟨V, hV, hVg⟩ := hbi.con
              have HB : Hid _ := hbi
              have HV : Hid _ := hV
              have HVg : Hid _ := hVg
              have HG : Hid _ := hgd
              have HJ : Hid _ := ej
              have hsz2 := hbi.sz2
              clear hbi hV hVg hgd ej hsj
              go_wp2_with (at_builtin; refine wpList_append_lies _ rfl (.tmp 68) (.tmp 71) 56 rfl w.heap.size 48 i0 .nilIface 1 16 Yba.underlying56 hi hz0 hz1 hz2 rfl (by decide) u5 k ((List.range k).map V) rfl HV.out ⟨wr.heap.size, 0, none⟩ 1 1 [.iface 74 (.pointer (some ⟨wo.heap.size + 1, 0, none⟩))] rfl rfl ?o1 (one_iface _ _) (by decide) ?o2 ?o3 ?o4 (wr.heap.size + 1) ?o5 ?o6)
              case o1 => exact news_alloc (cs := #[.iface 74 (.pointer (some ⟨wo.heap.size + 1, 0, none⟩))]) rfl
              case o2 => unfold maxLen; omega
              case o3 => omega
              case o4 => omega
              case o5 => simp
              case o6 =>
                intro g cap2 w3 hown hg hat hlt3
                have h3 := HB.out.stepC HG.out V HV.out HVg.out hown hg
                have R : Hid _ := h3
                clear h3 hown hg hat hlt3
                go_wp2
                go_roundw
                case rel =>
                  refine ⟨k + 1, by omega, by go_num, ?_⟩
                  rw [gN_live H0.out, gP_live H0.out, ← HJ.out, ← HNS.out, ← HPS.out]
                  exact R.out
                case measure => simp [intOf]; omega
        · by_cases h1 : (I k).kind % 4 = 1
          · have hbi := (HI.out.alloc (.cells #[.int .u8 (I k).kind, .slice a (I k).len (I k).cap] 73)).alloc (.cells #[.slice none 0 0] 80)
            have hsab := heap_alloc_new (wo.alloc (.cells #[.int .u8 (I k).kind, .slice a (I k).len (I k).cap] 73)) (.cells #[.slice none 0 0] 80)
            have hsz := hbi.sz
            have HB0 : Hid _ := hbi
            have HS0 : Hid _ := hsab
            clear hbi hsab
            go_wp2
            clear h1
            go_loopw [80] (fun i ws => ∃ (j : Nat) (pv : Value) (xs : List Value), j ≤ (I k).len ∧ i = .int .i64 j ∧ BInv w.heap.size wo.heap.size w I k u5 u6 u7 (gN I k) (gP I k) ws ∧ ws.heap[wo.heap.size + 1]? = some (.cells #[pv] 80 (0, 0)) ∧ ws.ownsRow wo.heap.size 82 8 pv j xs) (fun i _ => (I k).len - (intOf i).toNat)
            case atStart => exact ⟨0, _, [], Nat.zero_le _, rfl, HB0.out, by simpa using HS0.out, World.ownsRow_nil _ _ _ _⟩
            case round =>
              obtain ⟨j, pv, xs, hj, rfl, hbj, hsj, hpv⟩ := hrel
              have HBj : Hid _ := hbj
              have HSj : Hid _ := hsj
              have HPj : Hid (wr.ownsRow wo.heap.size 82 8 pv j xs) := hpv
              have csa := cell_of_one hsj
              clear hsj hpv HB0 HS0
              by_cases hjl : j < (I k).len
              · obtain ⟨y, z, hay, hy, hcell⟩ := HN.out (by omega)
                subst hay
                have cy := (hbj.below.cell (p := ⟨y, z + j, none⟩) hy).trans (hcell j hjl).1
                clear hcell hbj
                have hszj := HBj.out.sz2
                go_wp2_with (at_builtin; refine wpList_append_lies _ rfl (.tmp 88) (.tmp 93) 37 rfl wo.heap.size 82 i2 (.agg #[.int .u8 0, .int .u8 0, .int .u16 0, .int .u8 0, .int .u8 0, .slice none 0 0, .int .u8 0, .slice none 0 0]) 8 64 Yba.underlying37 ji jz0 jz1 jz2 rfl (by decide) pv j xs rfl (HPj.out.alloc _) ⟨wr.heap.size, 0, none⟩ 1 1 [.int .u8 0, .int .u8 0, .int .u16 0, .int .u8 ((I k).zs j), .int .u8 ((k : Int) % 256), .slice none 0 0, .int .u8 0, .slice none 0 0] rfl rfl ?g1 (one_eight _ _) (by decide) ?g2 ?g3 ?g4 (wr.heap.size + 1) ?g5 ?g6)
                case g1 => exact news_alloc (cs := #[.int .u8 0, .int .u8 0, .int .u16 0, .int .u8 ((I k).zs j), .int .u8 ((k : Int) % 256), .slice none 0 0, .int .u8 0, .slice none 0 0]) rfl
                case g2 => unfold maxLen; omega
                case g3 => omega
                case g4 => simp; omega
                case g5 => simp
                case g6 =>
                  intro g cap2 w3 hown hg hat hlt3
                  have ho1 := HPj.out.alloc (.cells #[.int .u8 0, .int .u8 0, .int .u16 0, .int .u8 ((I k).zs j), .int .u8 ((k : Int) % 256), .slice none 0 0, .int .u8 0, .slice none 0 0] 82)
                  have hs1 := blk_kept hg (blk_alloc HSj.out _) (own_not ho1 (blk_alloc HSj.out _) (by decide))
                  have hb1 := (HBj.out.alloc _).grow ho1 hg hsz (by decide) (by decide) (fun h => by rcases h with h | h <;> simp at h)
                  have cs1 := cell_of_one hs1
                  have fs1 := free_of_one hs1
                  have hb2 := hb1.set ⟨wo.heap.size + 1, 0, none⟩ (.slice (some ⟨g, 0, none⟩) (j + 1) cap2) (Nat.le_trans hsz (Nat.le_succ _)) hs1 (by decide) (by decide) (fun h => by rcases h with h | h <;> simp at h)
                  have hs2 := one_setCell (u := .slice (some ⟨g, 0, none⟩) (j + 1) cap2) hs1
                  have ho2 := ownsRow_setCell_other hown (a := ⟨wo.heap.size + 1, 0, none⟩) (own_not hown hs1 (by decide)) (.slice (some ⟨g, 0, none⟩) (j + 1) cap2)
                  have R : Hid (_ ∧ _ ∧ _) := ⟨hb2, hs2, ho2⟩
                  clear ho1 hs1 hb1 hb2 hs2 ho2 hown hg hat hlt3
                  go_wp2
                  go_roundw
                  case rel => exact ⟨j + 1, _, _, by omega, by go_num, R.out.1, R.out.2.1, R.out.2.2⟩
                  case measure => simp [intOf]; omega
              · clear csa hbj
                have hbi := HBj.out.alloc (.cells #[.iface 78 (.pointer (some ⟨wo.heap.size + 1, 0, none⟩))] 48)
                obtain ⟨V, hV, hVg⟩ := hbi.con
                have HB : Hid _ := hbi
                have HV : Hid _ := hV
                have HVg : Hid _ := hVg
                have hsz2 := hbi.sz2
                clear hbi hV hVg
                go_wp2_with (at_builtin; refine wpList_append_lies _ rfl (.tmp 98) (.tmp 101) 56 rfl w.heap.size 48 i0 .nilIface 1 16 Yba.underlying56 hi hz0 hz1 hz2 rfl (by decide) u5 k ((List.range k).map V) rfl HV.out ⟨wr.heap.size, 0, none⟩ 1 1 [.iface 78 (.pointer (some ⟨wo.heap.size + 1, 0, none⟩))] rfl rfl ?k1 (one_iface _ _) (by decide) ?k2 ?k3 ?k4 (wr.heap.size + 1) ?k5 ?k6)
                case k1 => exact news_alloc (cs := #[.iface 78 (.pointer (some ⟨wo.heap.size + 1, 0, none⟩))]) rfl
                case k2 => unfold maxLen; omega
                case k3 => omega
                case k4 => omega
                case k5 => simp
                case k6 =>
                  intro g cap2 w3 hown hg hat hlt3
                  have h3 := HB.out.stepC (CGood.of_dead h0 (Or.inr ⟨_, Or.inl rfl⟩)) V HV.out HVg.out hown hg
                  have R : Hid _ := h3
                  clear h3 hown hg hat hlt3
                  go_wp2
                  go_roundw
                  case rel => exact ⟨k + 1, by omega, by go_num, by rw [gN_dead h0, gP_dead h0]; exact R.out⟩
                  case measure => simp [intOf]; omega
          · by_cases h2 : (I k).kind % 4 = 2
            · have hbi := ((HI.out.alloc (.cells #[.int .u8 (I k).kind, .slice a (I k).len (I k).cap] 73)).alloc (.cells #[.int .u8 (I k).kind, .slice none 0 0] 85)).alloc (.cells #[.iface 83 (.pointer (some ⟨wo.heap.size + 1, 0, none⟩))] 48)
              obtain ⟨V, hV, hVg⟩ := hbi.con
              have HB : Hid _ := hbi
              have HV : Hid _ := hV
              have HVg : Hid _ := hVg
              have hsz := hbi.sz
              clear hbi hV hVg
              go_wp2_with (at_builtin; refine wpList_append_lies _ rfl (.tmp 105) (.tmp 111) 56 rfl w.heap.size 48 i0 .nilIface 1 16 Yba.underlying56 hi hz0 hz1 hz2 rfl (by decide) u5 k ((List.range k).map V) rfl HV.out ⟨wo.heap.size + 2, 0, none⟩ 1 1 [.iface 83 (.pointer (some ⟨wo.heap.size + 1, 0, none⟩))] rfl rfl ?e1 (one_iface _ _) (by decide) ?e2 ?e3 ?e4 (wo.heap.size + 3) ?e5 ?e6)
              case e1 => exact news_alloc (cs := #[.iface 83 (.pointer (some ⟨wo.heap.size + 1, 0, none⟩))]) (by simp)
              case e2 => unfold maxLen; omega
              case e3 => omega
              case e4 => simp; omega
              case e5 => simp
              case e6 =>
                intro g cap2 w3 hown hg hat hlt3
                have h3 := HB.out.stepC (CGood.of_dead h0 (Or.inr ⟨_, Or.inr rfl⟩)) V HV.out HVg.out hown hg
                have R : Hid _ := h3
                clear h3 hown hg hat hlt3
                go_wp2
                go_roundw
                case rel => exact ⟨k + 1, by omega, by go_num, by rw [gN_dead h0, gP_dead h0]; exact R.out⟩
                case measure => simp [intOf]; omega
            · have h3 : (I k).kind % 4 = 3 := by omega
              have hbi := (HI.out.alloc (.cells #[.int .u8 (I k).kind, .slice a (I k).len (I k).cap] 73)).alloc (.cells #[.nilIface] 48)
              obtain ⟨V, hV, hVg⟩ := hbi.con
              have HB : Hid _ := hbi
              have HV : Hid _ := hV
              have HVg : Hid _ := hVg
              have hsz := hbi.sz
              clear hbi hV hVg
              go_wp2_with (at_builtin; refine wpList_append_lies _ rfl (.tmp 29) (.tmp 30) 56 rfl w.heap.size 48 i0 .nilIface 1 16 Yba.underlying56 hi hz0 hz1 hz2 rfl (by decide) u5 k ((List.range k).map V) rfl HV.out ⟨wo.heap.size + 1, 0, none⟩ 1 1 [.nilIface] rfl rfl ?f1 one_nil (by decide) ?f2 ?f3 ?f4 (wo.heap.size + 2) ?f5 ?f6)
              case f1 => exact news_alloc (cs := #[.nilIface]) (by simp)
              case f2 => unfold maxLen; omega
              case f3 => omega
              case f4 => simp; omega
              case f5 => simp
              case f6 =>
                intro g cap2 w3 hown hg hat hlt3
                have h3 := HB.out.stepC (CGood.of_dead h0 (Or.inl rfl)) V HV.out HVg.out hown hg
                have R : Hid _ := h3
                clear h3 hown hg hat hlt3
                go_wp2
                go_roundw
                case rel => exact ⟨k + 1, by omega, by go_num, by rw [gN_dead h0, gP_dead h0]; exact R.out⟩
                case measure => simp [intOf]; omega
      · clear hinv
        have ek : k = len := by omega
        subst ek
        go_wp2
        go_ret3
        exact ⟨_, _, _, rfl, HI.out⟩
end Go.Proofs.Ybulkabuo
