/-
  (*zzModel).object (30), out of value's contract further on in the text.
-/
import Derived.Test.Qxb6600463aArr
namespace Go.Proofs.Qxb6600463a
open Go.RowKit
set_option linter.unusedSimpArgs false
set_option linter.unusedVariables false

theorem inObj_key {b off n cap M : Nat} {c : Nat → Int} {i j e j1 j2 : Nat} {x : Int} {w wr w1 : World} (h : InArr b off n cap M c i w wr j) (hbM : b < M) (hv : PartOk c n M (.slice (some ⟨b, off, none⟩) n cap) j x w1) (hx : x = (e : Int)) (hbe : Below M wr w1)
    (hb : Blank c e j1) (hj : j1 < n) (hcl : c j1 = 58) (hb2 : Blank c (j1 + 1) j2) : InArr b off n cap M c i w w1 j2 ∧ j < j2 := by
  obtain ⟨e', d, v', L', h1, h2, h3, h4, ⟨m, hm, h5⟩, h6⟩ := hv
  obtain rfl : e' = e := by omega
  obtain ⟨d0, hd0⟩ := h.bal
  have hbl := hb.1
  have hbl2 := hb2.1
  have h31 := h3.1
  refine ⟨⟨⟨_, balSeg_trans (balSeg_trans (balSeg_trans (balSeg_trans hd0 h3.bal) (blank_bal hb)) (one_bal (by omega))) (blank_bal hb2)⟩, ⟨v', L', h4, h5.mono (by omega), h6⟩, h.below.trans hbe, txt_below h.txt hbM hbe⟩, by omega⟩

set_option maxRecDepth 100000 in
set_option maxHeartbeats 4000000 in
theorem object_calls (b off n cap i M : Nat) (c : Nat → Int) (v : Nat → Value) (L : Nat → List Int) (depth : Int) (w : World) (ht : Hid (Txt w b off n c)) (hn : n ≤ 1000000) (hi : i < n) (hbM : b < M)
    (hd0 : 0 ≤ depth) (hd1 : depth + ((n - (i + 1) : Nat) : Int) ≤ 3000000) (ih : ValueAt b off n cap M c (n - (i + 1)))
    (h123 : Hid (c i = 123)) (hMod : Hid (Mod w M (.slice (some ⟨b, off, none⟩) n cap) v L)) (hC : Hid (Cnt L i)) (hE : Hid (Ents c n (L 3) (L 4))) :
    Calls Try.prog 30 #[.pointer (some ⟨M, 0, none⟩), .int .i64 (i : Int), .int .i64 depth] w fun e w' => PartPost c n M (.slice (some ⟨b, off, none⟩) n cap) i w e w' := by
  obtain ⟨deep, m0, m1, m2, m3, m4, m5, mf, md0, md1⟩ := hMod.out.cells
  have mf5 := mf 5
  clear mf m1 m2 m3 m4
  have hdx : depth ≤ 3000000 := by omega
  go_enter Try.func30, Try.ntmps30
  go_upto_if 17 with fail
  go_cut [] (fun wx => Hid (Mod wx M (.slice (some ⟨b, off, none⟩) n cap) v L ∧ Below M w wx))
  case first =>
    by_cases hdd : deep < depth
    · have hdp := hMod.out.deepen (x := depth) (by omega) (by omega)
      have HDP : Hid (Mod (w.setCell ⟨M, 5, none⟩ (.int .i64 depth)) M (.slice (some ⟨b, off, none⟩) n cap) v L ∧ Below M w (w.setCell ⟨M, 5, none⟩ (.int .i64 depth))) := hdp
      clear hdp
      go_wp2
      go_meet
      case rel => exact HDP
    · go_wp2
      go_meet
      case rel => exact (⟨hMod.out, Below.refl _ _⟩ : Mod _ _ _ _ _ ∧ Below _ _ _)
  case rest =>
    clear m0 m5 mf5
    revert hcut
    revert wc
    intro wa hA
    obtain ⟨deep2, m0, m1, m2, m3, m4, m5, mf, md0', md1'⟩ := hA.out.1.cells
    clear mf m1 m2 m3 m4 m5
    have hT : Hid (Txt wa b off n c) := txt_below ht.out hbM hA.out.2
    go_wp2_with fail
    refine (skipWS_int b off n cap (i + 1) c wa hT hn (by omega) _ (by omega)).mono ?_
    rintro e w' ⟨j0, rfl, hbl0, hj0, hnw, rfl⟩
    have hbl : Hid (Blank c (i + 1) j0) := hbl0
    clear hbl0 hnw
    go_upto_region 5 with fail
    go_cut [40] (fun s40 wx => ∃ bb : Bool, s40 = .bool bb ∧ (bb = true → j0 < n ∧ c j0 = 125) ∧ wa = wx)
    case first =>
      by_cases hjn : j0 < n
      · have hcj := hT.out.1 j0 hjn
        cases hq : (c j0 == 125)
        · go_wp2
          go_meet
          case rel => exact ⟨false, by simp [hq], fun h => (by cases h), rfl⟩
        · go_wp2
          go_meet
          case rel => exact ⟨true, by simp [hq], fun _ => ⟨by omega, beq_iff_eq.1 hq⟩, rfl⟩
      · go_wp2
        go_meet
        case rel => exact ⟨false, by simp, fun h => (by cases h), rfl⟩
    case rest =>
      obtain ⟨bb, rfl, hbb0, hwy⟩ := hcut
      subst hwy
      have hbb : Hid (bb = true → j0 < n ∧ c j0 = 125) := hbb0
      clear hbb0
      cases bb
      rotate_left
      · go_wp2
        go_ret2
        obtain ⟨g1, g2⟩ := hbb.out (by first | rfl | trivial)
        refine ⟨(j0 : Int) + 1, true, rfl, hA.out.2, fun _ => ⟨j0 + 1, _, v, L, by omega, by omega, valSeg_cont (.inl h123.out) (.inl g2) (blank_bal hbl.out), hA.out.1, ⟨i, ?_, hC.out⟩, hE.out⟩⟩
        have := hbl.out.1
        omega
      · have hA0 : Hid (InArr b off n cap M c i w wa j0) := inArr_start hbl.out hA.out.1 hC.out hE.out hA.out.2 hT.out
        clear hbb
        go_wp2
        go_loopw [9] (fun vj wr => ∃ j : Nat, vj = .int .i64 (j : Int) ∧ j ≤ n ∧ i + 1 ≤ j ∧ Hid (InArr b off n cap M c i w wr j)) (fun vj _ => n + 1 - (intOf vj).toNat)
        case atStart => exact ⟨j0, rfl, hj0, hbl.out.1, hA0⟩
        case round =>
          obtain ⟨j, rfl, hjn, hij, hI⟩ := hrel
          have hTr : Hid (Txt wr b off n c) := hI.out.txt
          obtain ⟨vr, Lr, hMr, hCr, hEr⟩ := hI.out.mod
          by_cases hjn2 : j < n
          rotate_left
          · clear hMr hCr hEr
            go_wp2
            go_ret2
            exact partPost_no hI.out.below
          have hcj := hTr.out.1 j hjn2
          by_cases hq : c j = 34
          rotate_left
          · have f1 : (c j != 34) = true := bne_iff_ne.2 hq
            clear hq hMr hCr hEr
            go_wp2
            go_ret2
            exact partPost_no hI.out.below
          have f1 : (c j != 34) = false := by rw [hq]; rfl
          have HQ : Hid (c j = 34) := hq
          clear hq
          go_wp2_with fail
          refine (str_calls b off n cap j M c vr Lr wr hTr hn hjn2 hbM HQ hMr hCr hEr).mono ?_
          rintro e w1 ⟨x, ok, rfl, hB1, hok⟩
          have HB1 : Hid (Below M wr w1) := hB1
          have HOK : Hid (ok = true → PartOk c n M (.slice (some ⟨b, off, none⟩) n cap) j x w1) := hok
          clear hB1 hok hMr hCr hEr f1 hcj
          cases ok
          · go_wp2
            go_ret2
            exact partPost_no (hI.out.below.trans HB1.out)
          obtain ⟨e, hxe, hen, hje⟩ : ∃ e : Nat, x = (e : Int) ∧ e ≤ n ∧ j < e := by
            obtain ⟨e, d, v', L', h1, h2, h3, _⟩ := HOK.out rfl
            exact ⟨e, h1, h2, h3.1⟩
          have HV : Hid (PartOk c n M (.slice (some ⟨b, off, none⟩) n cap) j x w1) := HOK.out rfl
          clear HOK
          have HX : Hid (x = (e : Int)) := hxe
          clear hxe
          have hT1 : Hid (Txt w1 b off n c) := txt_below hTr.out hbM HB1.out
          go_wp2_with fail
          refine (skipWS_int b off n cap e c w1 hT1 hn hen _ HX.out).mono ?_
          rintro e' w' ⟨j1, rfl, hbl1, hj1, hnw1, rfl⟩
          have HBL1 : Hid (Blank c e j1) := hbl1
          clear hbl1 hnw1
          by_cases hj1n : j1 < n
          rotate_left
          · go_wp2
            go_ret2
            exact partPost_no (hI.out.below.trans HB1.out)
          have hcx := hT1.out.1 j1 hj1n
          by_cases h58 : c j1 = 58
          rotate_left
          · have f1 : (c j1 != 58) = true := bne_iff_ne.2 h58
            clear h58
            go_wp2
            go_ret2
            exact partPost_no (hI.out.below.trans HB1.out)
          have f1 : (c j1 != 58) = false := by rw [h58]; rfl
          have H58 : Hid (c j1 = 58) := h58
          clear h58
          go_wp2_with fail
          refine (skipWS_int b off n cap (j1 + 1) c w1 hT1 hn (by omega) _ (by omega)).mono ?_
          rintro e' w' ⟨j2, rfl, hbl2, hj2, hnw2, rfl⟩
          have hK := inObj_key hI.out hbM HV.out HX.out HB1.out HBL1.out hj1n H58.out hbl2
          have HI2 : Hid (InArr b off n cap M c i w w1 j2) := hK.1
          have hjj2 := hK.2
          clear hK hbl2 hnw2 HV HX HBL1 hcx f1 H58
          obtain ⟨vs, Ls, hMs, hCs, hEs⟩ := HI2.out.mod
          go_wp2_with fail
          refine (ih j2 depth vs Ls w1 hj2 (by omega) hd0 (by omega) hT1.out hMs hCs hEs).mono ?_
          rintro e' w2 ⟨y, ok2, rfl, hB2, hok2⟩
          have HB2 : Hid (Below M w1 w2) := hB2
          have HOK2 : Hid (ok2 = true → ValOk c n M (.slice (some ⟨b, off, none⟩) n cap) j2 y w2) := hok2
          clear hB2 hok2 hMs hCs hEs
          cases ok2
          · go_wp2
            go_ret2
            exact partPost_no (HI2.out.below.trans HB2.out)
          obtain ⟨e2, hye, hen2, hje2⟩ : ∃ e : Nat, y = (e : Int) ∧ e ≤ n ∧ j2 < e := by
            obtain ⟨e, d, v', L', h1, h2, h3, _⟩ := HOK2.out rfl
            exact ⟨e, h1, h2, h3.1⟩
          have HV2 : Hid (ValOk c n M (.slice (some ⟨b, off, none⟩) n cap) j2 y w2) := HOK2.out rfl
          clear HOK2
          have HY : Hid (y = (e2 : Int)) := hye
          clear hye
          have hT2 : Hid (Txt w2 b off n c) := txt_below hT1.out hbM HB2.out
          go_wp2_with fail
          refine (skipWS_int b off n cap e2 c w2 hT2 hn hen2 _ HY.out).mono ?_
          rintro e' w' ⟨j3, rfl, hbl3, hj3, hnw3, rfl⟩
          have HBL3 : Hid (Blank c e2 j3) := hbl3
          clear hbl3 hnw3
          by_cases hj3n : j3 < n
          rotate_left
          · go_wp2
            go_ret2
            exact partPost_no (HI2.out.below.trans HB2.out)
          have hcx := hT2.out.1 j3 hj3n
          by_cases h125 : c j3 = 125
          · have f1 : (c j3 == 125) = true := beq_iff_eq.2 h125
            have HP : Hid (PartOk c n M (.slice (some ⟨b, off, none⟩) n cap) i ((j3 + 1 : Nat) : Int) w2) := inArr_close HI2.out HV2.out HY.out (.inl h123.out) HBL3.out hj3n (.inl h125)
            clear h125
            go_wp2
            go_ret2
            exact ⟨(j3 : Int) + 1, true, rfl, HI2.out.below.trans HB2.out, fun _ => HP.out⟩
          have f1 : (c j3 == 125) = false := beq_eq_false_iff_ne.2 h125
          clear h125
          by_cases h44 : c j3 = 44
          · have f2 : (c j3 != 44) = false := by rw [h44]; rfl
            have H44 : Hid (c j3 = 44) := h44
            clear h44
            go_wp2_with fail
            refine (skipWS_int b off n cap (j3 + 1) c w2 hT2 hn (by omega) _ (by omega)).mono ?_
            rintro e' w' ⟨j4, rfl, hbl4, hj4, hnw4, rfl⟩
            have hN := inArr_next HI2.out hbM HV2.out HY.out HB2.out HBL3.out hj3n H44.out hbl4
            have HN : Hid (InArr b off n cap M c i w w2 j4) := hN.1
            have hjj := hN.2
            clear hN hbl4 hnw4
            go_wp2
            go_roundw
            case rel => exact ⟨j4, rfl, hj4, by omega, HN⟩
            case measure => simp [intOf]; omega
          · have f2 : (c j3 != 44) = true := bne_iff_ne.2 h44
            clear h44
            go_wp2
            go_ret2
            exact partPost_no (HI2.out.below.trans HB2.out)

end Go.Proofs.Qxb6600463a
