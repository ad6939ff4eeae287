/-
  (*zzModel).value (23): by induction on what is left of the text.
-/
import Derived.Test.Qxb6600463aObj
namespace Go.Proofs.Qxb6600463a
open Go.RowKit
set_option linter.unusedSimpArgs false
set_option linter.unusedVariables false

theorem valPost_no {c : Nat → Int} {n M : Nat} {tx : Value} {i : Nat} {w w' : World} (h : Below M w w') : ValPost c n M tx i w (.returned (.tuple #[.int .i64 0, .bool false])) w' :=
  ⟨0, false, rfl, h, fun h => by cases h⟩

theorem ValueAt.mono {b off n cap M : Nat} {c : Nat → Int} {N N' : Nat} (h : ValueAt b off n cap M c N) (hN : N' ≤ N) : ValueAt b off n cap M c N' :=
  fun i depth v L w h1 h2 => h i depth v L w h1 (by omega)

/-- a number or a word is a value -/
theorem partOk_scal {c : Nat → Int} {n M : Nat} {tx : Value} {i : Nat} {x : Int} {w' : World} {v : Nat → Value} {L : Nat → List Int} (h : ∃ j : Nat, x = (j : Int) ∧ i < j ∧ j ≤ n ∧ ScTo c i j) (hM : Mod w' M tx v L) (hC : Cnt L i) (hE : Ents c n (L 3) (L 4)) :
    PartOk c n M tx i x w' := by
  obtain ⟨j, h1, h2, h3, h4⟩ := h
  exact ⟨j, 0, v, L, h1, h3, valSeg_scal h2 h4.2, hM, ⟨i, by omega, hC⟩, hE⟩

/-- what the if-chain of value leaves -/
def Mid (c : Nat → Int) (n M : Nat) (tx : Value) (i : Nat) (w : World) (x : Int) (ok : Bool) (wx : World) : Prop := Below M w wx ∧ (ok = true → PartOk c n M tx i x wx)

theorem sc_true : ∀ k, (h : k < (ByteArray.mk #[116, 114, 117, 101]).size) → sc (((ByteArray.mk #[116, 114, 117, 101])[k].toNat : Nat) : Int) := by
  intro k h
  have h' : k < 4 := h
  match k, h' with
  | 0, _ => exact (by unfold sc; omega : sc ((116 : Nat) : Int))
  | 1, _ => exact (by unfold sc; omega : sc ((114 : Nat) : Int))
  | 2, _ => exact (by unfold sc; omega : sc ((117 : Nat) : Int))
  | 3, _ => exact (by unfold sc; omega : sc ((101 : Nat) : Int))
theorem sc_false : ∀ k, (h : k < (ByteArray.mk #[102, 97, 108, 115, 101]).size) → sc (((ByteArray.mk #[102, 97, 108, 115, 101])[k].toNat : Nat) : Int) := by
  intro k h
  have h' : k < 5 := h
  match k, h' with
  | 0, _ => exact (by unfold sc; omega : sc ((102 : Nat) : Int))
  | 1, _ => exact (by unfold sc; omega : sc ((97 : Nat) : Int))
  | 2, _ => exact (by unfold sc; omega : sc ((108 : Nat) : Int))
  | 3, _ => exact (by unfold sc; omega : sc ((115 : Nat) : Int))
  | 4, _ => exact (by unfold sc; omega : sc ((101 : Nat) : Int))
theorem sc_null : ∀ k, (h : k < (ByteArray.mk #[110, 117, 108, 108]).size) → sc (((ByteArray.mk #[110, 117, 108, 108])[k].toNat : Nat) : Int) := by
  intro k h
  have h' : k < 4 := h
  match k, h' with
  | 0, _ => exact (by unfold sc; omega : sc ((110 : Nat) : Int))
  | 1, _ => exact (by unfold sc; omega : sc ((117 : Nat) : Int))
  | 2, _ => exact (by unfold sc; omega : sc ((108 : Nat) : Int))
  | 3, _ => exact (by unfold sc; omega : sc ((108 : Nat) : Int))


set_option maxRecDepth 100000 in
set_option maxHeartbeats 8000000 in
theorem value_step (b off n cap M : Nat) (c : Nat → Int) (hn : n ≤ 1000000) (hbM : b < M) (i : Nat) (depth : Int) (v : Nat → Value) (L : Nat → List Int) (w : World) (hi : i < n) (ih : ValueAt b off n cap M c (n - (i + 1)))
    (hd0 : 0 ≤ depth) (hd1 : depth + ((n - i : Nat) : Int) ≤ 3000000) (ht : Hid (Txt w b off n c))
    (hMod : Hid (Mod w M (.slice (some ⟨b, off, none⟩) n cap) v L)) (hC : Hid (Cnt L i)) (hE : Hid (Ents c n (L 3) (L 4))) :
    Calls Try.prog 23 #[.pointer (some ⟨M, 0, none⟩), .int .i64 (i : Int), .int .i64 depth] w fun e w' => ValPost c n M (.slice (some ⟨b, off, none⟩) n cap) i w e w' := by
  obtain ⟨i3, hi3, hz0, hz1, hz2⟩ := info_parts Try.info3
  obtain ⟨deep, m0, m1, m2, m3, m4, m5, mf, md0, md1⟩ := hMod.out.cells
  clear mf m1 m2 m3 m4 m5 md0 md1
  have hcx := ht.out.1 i hi
  have hdx : depth ≤ 3000000 := by omega
  go_enter Try.func23, Try.ntmps23
  go_upto_if 25 with fail
  go_cut [9, 10] (fun s9 s10 wx => ∃ (x : Int) (ok : Bool), s9 = .int .i64 x ∧ s10 = .bool ok ∧ Hid (Mid c n M (.slice (some ⟨b, off, none⟩) n cap) i w x ok wx))
  case first =>
    by_cases h34 : c i = 34
    · have f : (c i == 34) = true := beq_iff_eq.2 h34
      have HQ : Hid (c i = 34) := h34
      clear h34
      go_wp2_with fail
      refine (str_calls b off n cap i M c v L w ht hn hi hbM HQ hMod hC hE).mono ?_
      rintro e w1 ⟨x, ok, rfl, hB1, hok⟩
      have HM : Hid (Mid c n M (.slice (some ⟨b, off, none⟩) n cap) i w x ok w1) := ⟨hB1, hok⟩
      clear hB1 hok
      go_wp2
      go_meet
      case rel => exact ⟨x, ok, rfl, rfl, HM⟩
    have f34 : (c i == 34) = false := beq_eq_false_iff_ne.2 h34
    by_cases h91 : c i = 91
    · have f : (c i == 91) = true := beq_iff_eq.2 h91
      have HQ : Hid (c i = 91) := h91
      clear h34 h91
      go_wp2_with fail
      refine (array_calls b off n cap i M c v L _ w ht hn hi hbM (by omega) (by omega) ih HQ hMod hC hE).mono ?_
      rintro e w1 ⟨x, ok, rfl, hB1, hok⟩
      have HM : Hid (Mid c n M (.slice (some ⟨b, off, none⟩) n cap) i w x ok w1) := ⟨hB1, hok⟩
      clear hB1 hok
      go_wp2
      go_meet
      case rel => exact ⟨x, ok, rfl, rfl, HM⟩
    have f91 : (c i == 91) = false := beq_eq_false_iff_ne.2 h91
    by_cases h123 : c i = 123
    · have f : (c i == 123) = true := beq_iff_eq.2 h123
      have HQ : Hid (c i = 123) := h123
      clear h34 h91 h123
      go_wp2_with fail
      refine (object_calls b off n cap i M c v L _ w ht hn hi hbM (by omega) (by omega) ih HQ hMod hC hE).mono ?_
      rintro e w1 ⟨x, ok, rfl, hB1, hok⟩
      have HM : Hid (Mid c n M (.slice (some ⟨b, off, none⟩) n cap) i w x ok w1) := ⟨hB1, hok⟩
      clear hB1 hok
      go_wp2
      go_meet
      case rel => exact ⟨x, ok, rfl, rfl, HM⟩
    have f123 : (c i == 123) = false := beq_eq_false_iff_ne.2 h123
    by_cases h116 : c i = 116
    · have f : (c i == 116) = true := beq_iff_eq.2 h116
      clear h34 h91 h123 h116
      go_wp2_with fail
      refine (literal_calls b off n cap i c _ w ht hn hi (by decide) (by decide) sc_true).mono ?_
      rintro e w1 ⟨⟨x, ok, rfl, hok⟩, m, rfl⟩
      have HM : Hid (Mid c n M (.slice (some ⟨b, off, none⟩) n cap) i w x ok (w.drewN m)) := ⟨below_drewN' (Below.refl _ _) m, fun h => partOk_scal (hok h) (hMod.out.drewN m) hC.out hE.out⟩
      clear hok
      go_wp2
      go_meet
      case rel => exact ⟨x, ok, rfl, rfl, HM⟩
    have f116 : (c i == 116) = false := beq_eq_false_iff_ne.2 h116
    by_cases h102 : c i = 102
    · have f : (c i == 102) = true := beq_iff_eq.2 h102
      clear h34 h91 h123 h116 h102
      go_wp2_with fail
      refine (literal_calls b off n cap i c _ w ht hn hi (by decide) (by decide) sc_false).mono ?_
      rintro e w1 ⟨⟨x, ok, rfl, hok⟩, m, rfl⟩
      have HM : Hid (Mid c n M (.slice (some ⟨b, off, none⟩) n cap) i w x ok (w.drewN m)) := ⟨below_drewN' (Below.refl _ _) m, fun h => partOk_scal (hok h) (hMod.out.drewN m) hC.out hE.out⟩
      clear hok
      go_wp2
      go_meet
      case rel => exact ⟨x, ok, rfl, rfl, HM⟩
    have f102 : (c i == 102) = false := beq_eq_false_iff_ne.2 h102
    by_cases h110 : c i = 110
    · have f : (c i == 110) = true := beq_iff_eq.2 h110
      clear h34 h91 h123 h116 h102 h110
      go_wp2_with fail
      refine (literal_calls b off n cap i c _ w ht hn hi (by decide) (by decide) sc_null).mono ?_
      rintro e w1 ⟨⟨x, ok, rfl, hok⟩, m, rfl⟩
      have HM : Hid (Mid c n M (.slice (some ⟨b, off, none⟩) n cap) i w x ok (w.drewN m)) := ⟨below_drewN' (Below.refl _ _) m, fun h => partOk_scal (hok h) (hMod.out.drewN m) hC.out hE.out⟩
      clear hok
      go_wp2
      go_meet
      case rel => exact ⟨x, ok, rfl, rfl, HM⟩
    have f110 : (c i == 110) = false := beq_eq_false_iff_ne.2 h110
    clear h34 h91 h123 h116 h102 h110
    cases f45 : (c i == 45)
    · cases fd : digB (c i)
      · have HM : Hid (Mid c n M (.slice (some ⟨b, off, none⟩) n cap) i w 0 false w) := ⟨Below.refl _ _, fun h => by cases h⟩
        go_wp2_with (go_at_call 32; refine (isDigit_calls _ _).mono ?_; rintro e w' ⟨rfl, rfl⟩)
        go_meet
        case rel => exact ⟨0, false, rfl, rfl, HM⟩
      · go_wp2_with (go_at_call 32; refine (isDigit_calls _ _).mono ?_; rintro e w' ⟨rfl, rfl⟩)
        refine (number_calls b off n cap i c w ht hn hi).mono ?_
        rintro e w1 ⟨⟨x, ok, rfl, hok⟩, rfl⟩
        have HM : Hid (Mid c n M (.slice (some ⟨b, off, none⟩) n cap) i w x ok w) := ⟨Below.refl _ _, fun h => partOk_scal (hok h) hMod.out hC.out hE.out⟩
        clear hok
        go_wp2
        go_meet
        case rel => exact ⟨x, ok, rfl, rfl, HM⟩
    · go_wp2_with fail
      refine (number_calls b off n cap i c w ht hn hi).mono ?_
      rintro e w1 ⟨⟨x, ok, rfl, hok⟩, rfl⟩
      have HM : Hid (Mid c n M (.slice (some ⟨b, off, none⟩) n cap) i w x ok w) := ⟨Below.refl _ _, fun h => partOk_scal (hok h) hMod.out hC.out hE.out⟩
      clear hok
      go_wp2
      go_meet
      case rel => exact ⟨x, ok, rfl, rfl, HM⟩
  case rest =>
    clear m0 hcx
    revert hcut
    revert wc
    intro wa hA
    obtain ⟨x, ok, rfl, rfl, hM⟩ := hA
    cases ok
    · go_wp2
      go_ret2
      exact valPost_no hM.out.1
    · obtain ⟨e, d, v1, L1, hxe, hen, hVS, hMod1, ⟨m, hm, hC1⟩, hE1⟩ := hM.out.2 rfl
      have HX : Hid (x = (e : Int)) := hxe
      have HV : Hid (ValSeg c i e d) := hVS
      have M1 : Hid (Mod wa M (.slice (some ⟨b, off, none⟩) n cap) v1 L1) := hMod1
      have C1 : Hid (Cnt L1 m) := hC1
      have E1 : Hid (Ents c n (L1 3) (L1 4)) := hE1
      have B1 : Hid (Below M w wa) := hM.out.1
      clear hxe hVS hMod1 hC1 hE1 hM hMod hC hE
      obtain ⟨dp1, a0, a1, a2, a3, a4, a5, af, _, _⟩ := M1.out.cells
      have af3 := af 3
      clear af a0 a1 a2 a4 a5
      have hc3 : (L1 3).length ≤ m := C1.out.2.2.1
      go_upto_region 23 with (at_builtin; refine wpList_append_lies _ rfl (.tmp 94) (.tmp 96) 30 rfl (M + 1) 3 i3 (.int .i64 0) 1 8 Try.underlying30 hi3 hz0 hz1 hz2 rfl (by decide) (v1 3) (L1 3).length ((L1 3).map I64) rfl ((M1.out.own 3).alloc _) ⟨wa.heap.size, 0, none⟩ 1 1 [.int .i64 (i : Int)] rfl rfl (World.news_of_block (heap_alloc_new wa _)) (I64_one [(i : Int)]) (by decide) (by unfold maxLen; omega) (by omega) (by have := M1.out.lt; simp; omega) (wa.heap.size + 1) (by simp) ?_; intro g1 cap1 w1 hown1 hgr1 hat1 hlt1; obtain ⟨dp2, k0, k1, k2, k3, k4, k5, kf⟩ := M1.out.cells1 (M1.out.before hgr1); have kf3 := kf 3; clear kf k0 k1 k2 k4 k5)
      obtain ⟨v2, L2, hMod2, hB2, hL3, hLo⟩ := M1.out.push2 (k := 3) (.inr (.inr (.inl rfl))) hown1 hgr1 hat1
      have E2 : Hid (L2 3 = L1 3 ++ [(i : Int)] ∧ L2 1 = L1 1 ∧ L2 2 = L1 2 ∧ L2 4 = L1 4) := ⟨hL3, hLo 1 (by decide), hLo 2 (by decide), hLo 4 (by decide)⟩
      have M2 : Hid (Mod (w1.setCell ⟨M, 3, none⟩ (.slice (some ⟨g1, 0, none⟩) ((L1 3).length + 1) cap1)) M (.slice (some ⟨b, off, none⟩) n cap) v2 L2) := hMod2
      have B2 : Hid (Below M wa (w1.setCell ⟨M, 3, none⟩ (.slice (some ⟨g1, 0, none⟩) ((L1 3).length + 1) cap1))) := hB2
      clear hMod2 hB2 hL3 hLo hown1 hgr1 hat1 hlt1 k3 kf3 a3 af3
      generalize w1.setCell ⟨M, 3, none⟩ (.slice (some ⟨g1, 0, none⟩) ((L1 3).length + 1) cap1) = w2 at M2 B2 ⊢
      obtain ⟨dp3, n0, n1, n2, n3, n4, n5, nf, _, _⟩ := M2.out.cells
      have nf4 := nf 4
      clear nf n0 n1 n2 n3 n5
      have hL4 : (L2 4).length ≤ m := by rw [E2.out.2.2.2]; exact C1.out.2.2.2
      go_wp2_with (at_builtin; refine wpList_append_lies _ rfl (.tmp 104) (.tmp 106) 30 rfl (M + 1) 3 i3 (.int .i64 0) 1 8 Try.underlying30 hi3 hz0 hz1 hz2 rfl (by decide) (v2 4) (L2 4).length ((L2 4).map I64) rfl ((M2.out.own 4).alloc _) ⟨w2.heap.size, 0, none⟩ 1 1 [.int .i64 x] rfl rfl (World.news_of_block (heap_alloc_new w2 _)) (I64_one [x]) (by decide) (by unfold maxLen; omega) (by omega) (by have := M2.out.lt; simp; omega) (w2.heap.size + 1) (by simp) ?_; intro g2 cap2 w3 hown2 hgr2 hat2 hlt2; obtain ⟨dp4, k0, k1, k2, k3, k4, k5, kf⟩ := M2.out.cells1 (M2.out.before hgr2); have kf4 := kf 4; clear kf k0 k1 k2 k3 k5)
      go_ret2
      obtain ⟨v4, L4, hMod4, hB4, hL4', hLo'⟩ := M2.out.push2 (k := 4) (.inr (.inr (.inr rfl))) hown2 hgr2 hat2
      obtain ⟨e3, e1, e2, e4⟩ := E2.out
      have q1 := hLo' 1 (by decide)
      have q2 := hLo' 2 (by decide)
      have q3 := hLo' 3 (by decide)
      refine ⟨x, true, rfl, (B1.out.trans B2.out).trans hB4, fun _ => ⟨e, d, v4, L4, HX.out, hen, HV.out, hMod4, ?_, ?_⟩⟩
      · have c1 := C1.out
        unfold Cnt at c1 ⊢
        rw [q1, q2, q3, hL4', e1, e2, e3, e4, List.length_append, List.length_append]
        simp only [List.length_cons, List.length_nil]
        omega
      · rw [q3, hL4', e3, e4, HX.out]
        exact (E1.out.lim e).push HV.out hen

set_option maxRecDepth 100000 in
set_option maxHeartbeats 1000000 in
theorem value_end (b off n cap M : Nat) (c : Nat → Int) (hn : n ≤ 1000000) (i : Nat) (depth : Int) (v : Nat → Value) (L : Nat → List Int) (w : World) (hi : ¬ i < n) (hin : i ≤ n)
    (hMod : Hid (Mod w M (.slice (some ⟨b, off, none⟩) n cap) v L)) :
    Calls Try.prog 23 #[.pointer (some ⟨M, 0, none⟩), .int .i64 (i : Int), .int .i64 depth] w fun e w' => ValPost c n M (.slice (some ⟨b, off, none⟩) n cap) i w e w' := by
  obtain ⟨deep, m0, m1, m2, m3, m4, m5, mf, md0, md1⟩ := hMod.out.cells
  clear mf m1 m2 m3 m4 m5 md0 md1
  go_enter Try.func23, Try.ntmps23
  go_wp2
  go_ret2
  exact valPost_no (Below.refl _ _)

theorem value_all (b off n cap M : Nat) (c : Nat → Int) (hn : n ≤ 1000000) (hbM : b < M) : ∀ N, ValueAt b off n cap M c N
  | 0 => fun i depth v L w h1 h2 h3 h4 h5 h6 h7 h8 => value_end b off n cap M c hn i depth v L w (by omega) h1 h6
  | N + 1 => fun i depth v L w h1 h2 h3 h4 h5 h6 h7 h8 => by
    by_cases hi : i < n
    · exact value_step b off n cap M c hn hbM i depth v L w hi ((value_all b off n cap M c hn hbM N).mono (by omega)) h3 h4 h5 h6 h7 h8
    · exact value_end b off n cap M c hn i depth v L w hi h1 h6

end Go.Proofs.Qxb6600463a
