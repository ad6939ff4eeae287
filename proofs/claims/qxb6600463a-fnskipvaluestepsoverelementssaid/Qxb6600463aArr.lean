/-
  (*zzModel).array (29), out of value's contract further on in the text.
-/
import Derived.Test.Qxb6600463aStrP
namespace Go.Proofs.Qxb6600463a
open Go.RowKit
set_option linter.unusedSimpArgs false
set_option linter.unusedVariables false

/-- at a yes of value: .. its own entry is the last -/
def ValOk (c : Nat → Int) (n M : Nat) (tx : Value) (i : Nat) (x : Int) (w' : World) : Prop :=
  ∃ (j d : Nat) (v' : Nat → Value) (L' : Nat → List Int), x = (j : Int) ∧ j ≤ n ∧ ValSeg c i j d ∧ Mod w' M tx v' L' ∧ Cnt L' j ∧ EntsL c n j (L' 3) (L' 4)

/-- what value hands back -/
def ValPost (c : Nat → Int) (n M : Nat) (tx : Value) (i : Nat) (w : World) (e : Ending) (w' : World) : Prop :=
  ∃ (x : Int) (ok : Bool), e = .returned (.tuple #[.int .i64 x, .bool ok]) ∧ Below M w w' ∧ (ok = true → ValOk c n M tx i x w')

/-- value's contract, where at most N bytes are left -/
def ValueAt (b off n cap M : Nat) (c : Nat → Int) (N : Nat) : Prop :=
  ∀ (i : Nat) (depth : Int) (v : Nat → Value) (L : Nat → List Int) (w : World), i ≤ n → n - i ≤ N → 0 ≤ depth → depth + ((n - i : Nat) : Int) ≤ 3000000 → Txt w b off n c →
    Mod w M (.slice (some ⟨b, off, none⟩) n cap) v L → Cnt L i → Ents c n (L 3) (L 4) →
    Calls Try.prog 23 #[.pointer (some ⟨M, 0, none⟩), .int .i64 (i : Int), .int .i64 depth] w fun e w' => ValPost c n M (.slice (some ⟨b, off, none⟩) n cap) i w e w'

theorem txt_below {w w' : World} {b off n M : Nat} {c : Nat → Int} (h : Txt w b off n c) (hbM : b < M) (hb : Below M w w') : Txt w' b off n c :=
  ⟨fun j hj => (hb.cell (p := ⟨b, off + j, none⟩) hbM).trans (h.1 j hj), h.2⟩

/-- what stands at the head of each round of array and object -/
structure InArr (b off n cap M : Nat) (c : Nat → Int) (i : Nat) (w wr : World) (j : Nat) : Prop where
  bal : ∃ d, BalSeg c (i + 1) j d
  mod : ∃ v L, Mod wr M (.slice (some ⟨b, off, none⟩) n cap) v L ∧ Cnt L j ∧ Ents c n (L 3) (L 4)
  below : Below M w wr
  txt : Txt wr b off n c

theorem inArr_start {b off n cap M : Nat} {c : Nat → Int} {i j : Nat} {w wr : World} {v : Nat → Value} {L : Nat → List Int} (hb : Blank c (i + 1) j) (hM : Mod wr M (.slice (some ⟨b, off, none⟩) n cap) v L) (hC : Cnt L i) (hE : Ents c n (L 3) (L 4))
    (hB : Below M w wr) (hT : Txt wr b off n c) : InArr b off n cap M c i w wr j :=
  ⟨⟨0, blank_bal hb⟩, ⟨v, L, hM, hC.mono (by have := hb.1; omega), hE⟩, hB, hT⟩

theorem skipWS_int (b off n cap i : Nat) (c : Nat → Int) (w : World) (ht : Hid (Txt w b off n c)) (hn : n ≤ 1000000) (hi : i ≤ n) (x : Int) (hx : x = (i : Int)) :
    Calls Try.prog 24 #[.slice (some ⟨b, off, none⟩) n cap, .int .i64 x] w fun e w' => ∃ j : Nat, e = .returned (.int .i64 (j : Int)) ∧ Blank c i j ∧ j ≤ n ∧ (j < n → wsB (c j) = false) ∧ w = w' := by
  subst hx
  exact skipWS_calls b off n cap i c w ht hn hi

/-- behind a value that ended at e: blanks, then a byte at j1 that ends it -/
theorem follow {c : Nat → Int} {n e j1 : Nat} (h : Blank c e j1) (hx : EntsL.delimP (c j1)) : e < n → EntsL.delimP (c e) := by
  intro _
  by_cases e1 : e = j1
  · rw [e1]; exact hx
  · have := h.1
    exact .inl (h.2 e (Nat.le_refl _) (by omega))

theorem inArr_close {b off n cap M : Nat} {c : Nat → Int} {i j e j1 : Nat} {x : Int} {w wr w1 : World} (h : InArr b off n cap M c i w wr j) (hv : ValOk c n M (.slice (some ⟨b, off, none⟩) n cap) j x w1) (hx : x = (e : Int)) (ho : c i = 123 ∨ c i = 91)
    (hb : Blank c e j1) (hj : j1 < n) (hcl : c j1 = 125 ∨ c j1 = 93) : PartOk c n M (.slice (some ⟨b, off, none⟩) n cap) i ((j1 + 1 : Nat) : Int) w1 := by
  obtain ⟨e', d, v', L', h1, h2, h3, h4, h5, h6⟩ := hv
  obtain rfl : e' = e := by omega
  obtain ⟨d0, hd0⟩ := h.bal
  have hbl := hb.1
  refine ⟨j1 + 1, _, v', L', rfl, by omega, valSeg_cont ho hcl (balSeg_trans (balSeg_trans hd0 h3.bal) (blank_bal hb)), h4, ⟨e', by omega, h5⟩, h6.good (follow hb ?_)⟩
  rcases hcl with h | h
  · exact .inr (.inr (.inl h))
  · exact .inr (.inr (.inr h))

theorem inArr_next {b off n cap M : Nat} {c : Nat → Int} {i j e j1 j2 : Nat} {x : Int} {w wr w1 : World} (h : InArr b off n cap M c i w wr j) (hbM : b < M) (hv : ValOk c n M (.slice (some ⟨b, off, none⟩) n cap) j x w1) (hx : x = (e : Int)) (hbe : Below M wr w1)
    (hb : Blank c e j1) (hj : j1 < n) (hcl : c j1 = 44) (hb2 : Blank c (j1 + 1) j2) : InArr b off n cap M c i w w1 j2 ∧ j < j2 := by
  obtain ⟨e', d, v', L', h1, h2, h3, h4, h5, h6⟩ := hv
  obtain rfl : e' = e := by omega
  obtain ⟨d0, hd0⟩ := h.bal
  have hbl := hb.1
  have hbl2 := hb2.1
  have h31 := h3.1
  refine ⟨⟨⟨_, balSeg_trans (balSeg_trans (balSeg_trans (balSeg_trans hd0 h3.bal) (blank_bal hb)) (one_bal (by omega))) (blank_bal hb2)⟩, ⟨v', L', h4, h5.mono (by omega), h6.good (follow hb (.inr (.inl hcl)))⟩, h.below.trans hbe, txt_below h.txt hbM hbe⟩, by omega⟩

set_option maxRecDepth 100000 in
set_option maxHeartbeats 4000000 in
theorem array_calls (b off n cap i M : Nat) (c : Nat → Int) (v : Nat → Value) (L : Nat → List Int) (depth : Int) (w : World) (ht : Hid (Txt w b off n c)) (hn : n ≤ 1000000) (hi : i < n) (hbM : b < M)
    (hd0 : 0 ≤ depth) (hd1 : depth + ((n - (i + 1) : Nat) : Int) ≤ 3000000) (ih : ValueAt b off n cap M c (n - (i + 1)))
    (h91 : Hid (c i = 91)) (hMod : Hid (Mod w M (.slice (some ⟨b, off, none⟩) n cap) v L)) (hC : Hid (Cnt L i)) (hE : Hid (Ents c n (L 3) (L 4))) :
    Calls Try.prog 29 #[.pointer (some ⟨M, 0, none⟩), .int .i64 (i : Int), .int .i64 depth] w fun e w' => PartPost c n M (.slice (some ⟨b, off, none⟩) n cap) i w e w' := by
  obtain ⟨deep, m0, m1, m2, m3, m4, m5, mf, md0, md1⟩ := hMod.out.cells
  have mf5 := mf 5
  clear mf m1 m2 m3 m4
  have hdx : depth ≤ 3000000 := by omega
  go_enter Try.func29, Try.ntmps29
  go_upto_if 17 with fail
  go_cut [] (fun wx => Hid (Mod wx M (.slice (some ⟨b, off, none⟩) n cap) v L ∧ Below M w wx))
  case first =>
    by_cases hdd : deep < depth
    · have hdp := hMod.out.deepen (x := depth) (by omega) (by omega)
      have HDP : Hid (Mod (w.setCell ⟨M, 5, none⟩ (.int .i64 depth)) M (.slice (some ⟨b, off, none⟩) n cap) v L ∧ Below M w (w.setCell ⟨M, 5, none⟩ (.int .i64 depth))) := hdp
      clear hdp
      go_wp2
      go_meet
      case rel => exact HDP
    · go_wp2
      go_meet
      case rel => exact (⟨hMod.out, Below.refl _ _⟩ : Mod _ _ _ _ _ ∧ Below _ _ _)
  case rest =>
    clear m0 m5 mf5
    revert hcut
    revert wc
    intro wa hA
    obtain ⟨deep2, m0, m1, m2, m3, m4, m5, mf, md0', md1'⟩ := hA.out.1.cells
    clear mf m1 m2 m3 m4 m5
    have hT : Hid (Txt wa b off n c) := txt_below ht.out hbM hA.out.2
    go_wp2_with fail
    refine (skipWS_int b off n cap (i + 1) c wa hT hn (by omega) _ (by omega)).mono ?_
    rintro e w' ⟨j0, rfl, hbl0, hj0, hnw, rfl⟩
    have hbl : Hid (Blank c (i + 1) j0) := hbl0
    clear hbl0 hnw
    go_upto_region 5 with fail
    go_cut [40] (fun s40 wx => ∃ bb : Bool, s40 = .bool bb ∧ (bb = true → j0 < n ∧ c j0 = 93) ∧ wa = wx)
    case first =>
      by_cases hjn : j0 < n
      · have hcj := hT.out.1 j0 hjn
        cases hq : (c j0 == 93)
        · go_wp2
          go_meet
          case rel => exact ⟨false, by simp [hq], fun h => (by cases h), rfl⟩
        · go_wp2
          go_meet
          case rel => exact ⟨true, by simp [hq], fun _ => ⟨by omega, beq_iff_eq.1 hq⟩, rfl⟩
      · go_wp2
        go_meet
        case rel => exact ⟨false, by simp, fun h => (by cases h), rfl⟩
    case rest =>
      obtain ⟨bb, rfl, hbb0, hwy⟩ := hcut
      subst hwy
      have hbb : Hid (bb = true → j0 < n ∧ c j0 = 93) := hbb0
      clear hbb0
      cases bb
      rotate_left
      · go_wp2
        go_ret2
        obtain ⟨g1, g2⟩ := hbb.out (by first | rfl | trivial)
        refine ⟨(j0 : Int) + 1, true, rfl, hA.out.2, fun _ => ⟨j0 + 1, _, v, L, by omega, by omega, valSeg_cont (.inr h91.out) (.inr g2) (blank_bal hbl.out), hA.out.1, ⟨i, ?_, hC.out⟩, hE.out⟩⟩
        have := hbl.out.1
        omega
      · have hA0 : Hid (InArr b off n cap M c i w wa j0) := inArr_start hbl.out hA.out.1 hC.out hE.out hA.out.2 hT.out
        clear hbb
        go_wp2
        go_loopw [9] (fun vj wr => ∃ j : Nat, vj = .int .i64 (j : Int) ∧ j ≤ n ∧ i + 1 ≤ j ∧ Hid (InArr b off n cap M c i w wr j)) (fun vj _ => n + 1 - (intOf vj).toNat)
        case atStart => exact ⟨j0, rfl, hj0, hbl.out.1, hA0⟩
        case round =>
          obtain ⟨j, rfl, hjn, hij, hI⟩ := hrel
          have hTr : Hid (Txt wr b off n c) := hI.out.txt
          obtain ⟨vr, Lr, hMr, hCr, hEr⟩ := hI.out.mod
          go_wp2_with fail
          refine (ih j depth vr Lr wr hjn (by omega) hd0 (by omega) hTr.out hMr hCr hEr).mono ?_
          rintro e w1 ⟨x, ok, rfl, hB1, hok⟩
          have HB1 : Hid (Below M wr w1) := hB1
          have HOK : Hid (ok = true → ValOk c n M (.slice (some ⟨b, off, none⟩) n cap) j x w1) := hok
          clear hB1 hok hMr hCr hEr
          cases ok
          · go_wp2
            go_ret2
            exact partPost_no (hI.out.below.trans HB1.out)
          · obtain ⟨e, hxe, hen, hje⟩ : ∃ e : Nat, x = (e : Int) ∧ e ≤ n ∧ j < e := by
              obtain ⟨e, d, v', L', h1, h2, h3, _⟩ := HOK.out rfl
              exact ⟨e, h1, h2, h3.1⟩
            have HV : Hid (ValOk c n M (.slice (some ⟨b, off, none⟩) n cap) j x w1) := HOK.out rfl
            clear HOK
            have HX : Hid (x = (e : Int)) := hxe
            clear hxe
            have hT1 : Hid (Txt w1 b off n c) := txt_below hTr.out hbM HB1.out
            go_wp2_with fail
            refine (skipWS_int b off n cap e c w1 hT1 hn hen _ HX.out).mono ?_
            rintro e' w' ⟨j1, rfl, hbl1, hj1, hnw1, rfl⟩
            have HBL1 : Hid (Blank c e j1) := hbl1
            clear hbl1 hnw1
            by_cases hj1n : j1 < n
            · have hcx := hT1.out.1 j1 hj1n
              by_cases h93 : c j1 = 93
              · have f1 : (c j1 == 93) = true := beq_iff_eq.2 h93
                have HP : Hid (PartOk c n M (.slice (some ⟨b, off, none⟩) n cap) i ((j1 + 1 : Nat) : Int) w1) := inArr_close hI.out HV.out HX.out (.inr h91.out) HBL1.out hj1n (.inr h93)
                clear h93
                go_wp2
                go_ret2
                exact ⟨(j1 : Int) + 1, true, rfl, hI.out.below.trans HB1.out, fun _ => HP.out⟩
              · have f1 : (c j1 == 93) = false := beq_eq_false_iff_ne.2 h93
                by_cases h44 : c j1 = 44
                · have f2 : (c j1 != 44) = false := by rw [h44]; rfl
                  have H44 : Hid (c j1 = 44) := h44
                  clear h93 h44
                  go_wp2_with fail
                  refine (skipWS_int b off n cap (j1 + 1) c w1 hT1 hn (by omega) _ (by omega)).mono ?_
                  rintro e' w' ⟨j2, rfl, hbl2, hj2, hnw2, rfl⟩
                  have hN := inArr_next hI.out hbM HV.out HX.out HB1.out HBL1.out hj1n H44.out hbl2
                  have HN : Hid (InArr b off n cap M c i w w1 j2) := hN.1
                  have hjj := hN.2
                  clear hN hbl2 hnw2
                  go_wp2
                  go_roundw
                  case rel => exact ⟨j2, rfl, hj2, by omega, HN⟩
                  case measure => simp [intOf]; omega
                · have f2 : (c j1 != 44) = true := bne_iff_ne.2 h44
                  clear h93 h44
                  go_wp2
                  go_ret2
                  exact partPost_no (hI.out.below.trans HB1.out)
            · go_wp2
              go_ret2
              exact partPost_no (hI.out.below.trans HB1.out)

end Go.Proofs.Qxb6600463a
