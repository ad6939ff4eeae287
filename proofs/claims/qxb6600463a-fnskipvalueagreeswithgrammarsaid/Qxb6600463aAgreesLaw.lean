/-
  The law FnSkipValueAgreesWithGrammar (7), walked.
-/
import Derived.Test.Qxb6600463aKit
namespace Go.Proofs.Qxb6600463a.fnSkipValueAgreesWithGrammar
open Go.RowKit
set_option linter.unusedSimpArgs false
set_option linter.unusedVariables false

theorem cs_len (c : Nat → Int) (n : Nat) : ((bytesL c n).map V).length = Nat.min n n := by
  rw [List.length_map, bytesL_len]; exact (Nat.min_self n).symm
theorem cs_fit {c : Nat → Int} {n : Nat} {cur : List Value} (h : cur.length = n) : 0 + ((bytesL c n).map V).length ≤ cur.length := by
  rw [List.length_map, bytesL_len, h]; omega

theorem txt_drewN {w : World} {b off n : Nat} {c : Nat → Int} (h : Txt w b off n c) (m : Nat) : Txt (w.drewN m) b off n c := ⟨fun j hj => h.1 j hj, h.2⟩

/-- a list that the record owns: its slice, and where its numbers lie -/
theorem own_shape {w : World} {base : Nat} {v : Value} {l : List Int} (h : w.ownsRow base 3 1 v l.length (l.map I64)) :
    ∃ (ao : Option Addr) (cap : Nat), v = .slice ao l.length cap ∧ l.length ≤ cap ∧ ∀ k, k < l.length → ∃ g, ao = some ⟨g, 0, none⟩ ∧ w.cell? ⟨g, k, none⟩ = some (.int .i64 (l.getD k 0)) := by
  rcases h.2 with ⟨h1, h2⟩ | ⟨g, cap, cur, h1, h2, h3, h4, h5, h6, h7⟩
  · refine ⟨none, 0, ?_, by omega, fun k hk => by omega⟩
    rw [h1, h2]
  · refine ⟨some ⟨g, 0, none⟩, cap, h1, h4, fun k hk => ⟨g, rfl, ?_⟩⟩
    rw [h1] at h
    rw [h.cellAt k (by omega)]
    simp [I64, List.getD, List.getElem?_eq_getElem hk]

set_option maxHeartbeats 1000000 in
theorem walk_big (a0 : Option Addr) (len0 cap0 : Nat) (w : World) (l0 : len0 ≤ maxLen) (h : ¬ len0 ≤ 65536) :
    Calls Try.prog 7 #[.slice a0 len0 cap0] w fun e w' => e = .returned (.bool true) ∧ Below w.heap.size w w' := by
  by_cases hs : len0 ≤ 1048576
  · have h2 : 65536 < len0 := by omega
    clear h
    go_enter Try.func7, Try.ntmps7
    go_wp2_with (go_at_call 17; refine (bytes17_small _ _ _ _ hs).mono ?_; rintro e w' ⟨rfl, rfl⟩)
    go_ret
    exact ⟨rfl, Below.refl _ _⟩
  · clear h
    go_enter Try.func7, Try.ntmps7
    go_wp2_with (go_at_call 17; refine (bytes17_big _ _ _ _ l0 hs).mono ?_; rintro e w' ⟨rfl, rfl⟩)
    go_ret
    exact ⟨rfl, Below.refl _ _⟩

set_option maxRecDepth 100000 in
set_option maxHeartbeats 2000000 in
theorem walk_empty (a0 : Option Addr) (cap0 : Nat) (w : World) :
    Calls Try.prog 7 #[.slice a0 0 cap0] w fun e w' => e = .returned (.bool true) ∧ Below w.heap.size w w' := by
  obtain ⟨i5, hi, hz0, hz1, hz2⟩ := info_parts Try.info5
  have hs5 : (Try.prog.info? 5).map (·.size) = some 1 := by rw [hi]; simp [hz1]
  have hnn0 := fun wx => run_neq_slice_nil_any (P := Try.prog) wx 22 5 a0 0 cap0 0 0 Try.underlying22
  cases a0 with
  | none =>
    go_enter Try.func7, Try.ntmps7
    go_wp2_with (go_at_call 17; refine (bytes17_small _ _ _ _ (by omega)).mono ?_; rintro e w' ⟨rfl, rfl⟩)
    refine (parse_empty _ _ _).mono ?_
    rintro e w1 ⟨rfl, hB⟩
    have B1 : Hid (Below w.heap.size w w1) := hB
    clear hB
    go_wp2
    go_ret
    exact ⟨rfl, B1.out⟩
  | some ad =>
    go_enter Try.func7, Try.ntmps7
    go_upto_region 7 with (first | (go_at_call 17; refine (bytes17_small _ _ _ _ (by omega)).mono ?_; rintro e w' ⟨rfl, rfl⟩) | (at_make; refine wpList_make_full _ rfl _ _ 22 rfl w.heap.size 5 i5 (.int .u8 0) 1 Try.underlying22 hi hz0 hz1 .i64 .i64 _ _ 0 rfl rfl (by omega) (by omega) (by rw [hz2]; omega) (by unfold maxLen; omega) (Nat.le_refl _) ?_; intro w1 hown1 hgr1))
    obtain ⟨cur1, hcur1, hlen1⟩ := made_block hown1
    have HC1 : Hid (w1.heap[w.heap.size]? = some (.cells cur1.toArray 5 (0, 0))) := hcur1
    have B1 : Hid (Below w.heap.size w w1) := (Below.refl _ _).grown hgr1 (Nat.le_refl _) (fun q hq => by cases hq)
    clear hown1 hgr1 hcur1
    go_upto_region 9 with (refine wpList_copy_splice rfl (.tmp 18) (.tmp 19) 22 22 rfl 5 Try.underlying22 hs5 _ _ _ _ _ _ rfl rfl w.heap.size 0 cur1 5 HC1.out [] rfl (fun h => absurd h (by simp)) (by simp) (by simp) w.heap.size w B1.out (Nat.le_refl _) ?_; intro w2 hcp2 hB2)
    have B2 : Hid (Below w.heap.size w w2) := hB2
    clear hcp2 hB2 B1 HC1 hnn0
    go_wp2_with fail
    refine (parse_empty _ _ _).mono ?_
    rintro e w3 ⟨rfl, hB⟩
    have B3 : Hid (Below w.heap.size w w3) := B2.out.trans (hB.mono B2.out.size)
    clear hB
    go_wp2
    go_ret
    exact ⟨rfl, B3.out⟩

set_option maxRecDepth 100000 in
set_option maxHeartbeats 8000000 in
theorem walk_main (b0 off0 n0 cap0 : Nat) (c0 : Nat → Int) (w : World) (l0 : n0 ≤ 65536) (p0 : 0 < n0) (t0 : Hid (Txt w b0 off0 n0 c0)) (hb0 : b0 < w.heap.size) :
    Calls Try.prog 7 #[.slice (some ⟨b0, off0, none⟩) n0 cap0] w fun e w' => e = .returned (.bool true) ∧ Below w.heap.size w w' := by
  obtain ⟨i5, hi, hz0, hz1, hz2⟩ := info_parts Try.info5
  have hs5 : (Try.prog.info? 5).map (·.size) = some 1 := by rw [hi]; simp [hz1]
  have hnn0 := fun wx => run_neq_slice_nil_any (P := Try.prog) wx 22 5 (some ⟨b0, off0, none⟩) n0 cap0 0 0 Try.underlying22
  go_enter Try.func7, Try.ntmps7
  go_upto_region 7 with (first | (go_at_call 17; refine (bytes17_small _ _ _ _ (by omega)).mono ?_; rintro e w' ⟨rfl, rfl⟩) | (at_make; refine wpList_make_full _ rfl _ _ 22 rfl w.heap.size 5 i5 (.int .u8 0) 1 Try.underlying22 hi hz0 hz1 .i64 .i64 _ _ n0 rfl rfl (by omega) (by omega) (by rw [hz2]; omega) (by unfold maxLen; omega) (Nat.le_refl _) ?_; intro w1 hown1 hgr1))
  obtain ⟨cur1, hcur1, hlen1⟩ := made_block hown1
  have HC1 : Hid (w1.heap[w.heap.size]? = some (.cells cur1.toArray 5 (0, 0))) := hcur1
  have B1 : Hid (Below w.heap.size w w1) := (Below.refl _ _).grown hgr1 (Nat.le_refl _) (fun q hq => by cases hq)
  have T1 : Hid (Txt w1 b0 off0 n0 c0) := txt_below t0.out hb0 B1.out
  clear hown1 hgr1 hcur1
  go_upto_region 9 with (refine wpList_copy_splice rfl (.tmp 18) (.tmp 19) 22 22 rfl 5 Try.underlying22 hs5 _ _ _ _ _ _ rfl rfl w.heap.size 0 cur1 5 HC1.out ((bytesL c0 n0).map V) (cs_len c0 n0) (fun _ => ⟨rfl, _, rfl, T1.out.news⟩) (cs_fit hlen1) (V_one _) w.heap.size w B1.out (Nat.le_refl _) ?_; intro w2 hcp2 hB2)
  have TA : Hid (Txt w2 w.heap.size 0 n0 c0) := copied hcp2.out hlen1 t0.out.2
  have hBa : w.heap.size < w2.heap.size := World.block_lt_of_cell? _ _ (TA.out.1 0 p0)
  have B2 : Hid (Below w.heap.size w w2) := hB2
  clear hcp2 hB2 B1 T1 HC1 hnn0
  go_wp2_with fail
  refine (parse_calls w.heap.size 0 n0 n0 c0 w2 TA (by omega) hBa).mono ?_
  rintro e w3 ⟨ok, rfl, hB, hok⟩
  have B3 : Hid (Below w.heap.size w w3) := B2.out.trans (hB.mono B2.out.size)
  have T3 : Hid (Txt w3 w.heap.size 0 n0 c0) := txt_below TA.out hBa hB
  have OK : Hid (ok = true → ∃ v L, Mod w3 w2.heap.size (.slice (some ⟨w.heap.size, 0, none⟩) n0 n0) v L ∧ Cnt L n0 ∧ Ents c0 n0 (L 3) (L 4)) := fun h => (hok h).2
  clear hB hok TA B2
  cases ok
  · go_wp2
    go_ret
    exact ⟨rfl, B3.out⟩
  obtain ⟨v, L, hM, hC, hE⟩ := OK.out rfl
  obtain ⟨dp, m0, m1, m2, m3, m4, m5, mf, _, _⟩ := hM.cells
  obtain ⟨ao3, cp3, e3, lc3, s3⟩ := own_shape (hM.own 3)
  obtain ⟨ao4, cp4, e4, lc4, s4⟩ := own_shape (hM.own 4)
  rw [e3] at m3
  rw [e4] at m4
  have HE : Hid (Ents c0 n0 (L 3) (L 4)) := hE
  have hl34 : (L 4).length = (L 3).length := hE.1.symm
  rw [hl34] at m4
  have S3 : Hid (∀ k, k < (L 3).length → ∃ g, ao3 = some ⟨g, 0, none⟩ ∧ w3.cell? ⟨g, k, none⟩ = some (.int .i64 ((L 3).getD k 0))) := s3
  have S4 : Hid (∀ k, k < (L 4).length → ∃ g, ao4 = some ⟨g, 0, none⟩ ∧ w3.cell? ⟨g, k, none⟩ = some (.int .i64 ((L 4).getD k 0))) := s4
  have HL : Hid ((L 4).length = (L 3).length) := hl34
  have hc3 : (L 3).length ≤ n0 := hC.2.2.1
  have lc4' : (L 3).length ≤ cp4 := by omega
  clear OK hM hC hE m0 m1 m2 m5 mf e3 e4 s3 s4 hl34 lc4
  generalize hA : (L 3).length = nn at *
  have HA : Hid ((L 3).length = nn) := hA
  clear hA
  go_wp2
  go_loopw [6] (fun vk wr => ∃ k m : Nat, k ≤ nn ∧ vk = .int .i64 (k : Int) ∧ wr = w3.drewN m) (fun vk _ => nn - (intOf vk).toNat)
  case atStart => exact ⟨0, 0, Nat.zero_le _, rfl, rfl⟩
  case round =>
    obtain ⟨k, m, hk, rfl, rfl⟩ := hrel
    by_cases hlt : k < nn
    · obtain ⟨g3, q3, c3⟩ := S3.out k (by have := HA.out; omega)
      obtain ⟨g4, q4, c4⟩ := S4.out k (by have := HA.out; have := HL.out; omega)
      obtain ⟨s, e, d, r1, r2, r3, r4, r5⟩ := HE.out.2 k (by have := HA.out; omega)
      rw [r1] at c3
      rw [r2] at c4
      subst q3
      subst q4
      have HV : Hid (ValSeg c0 s e d) := r3
      have HD : Hid (e < n0 → delim (c0 e)) := r5
      have f1 : ((e : Int) != (e : Int)) = false := by simp
      have k0 : (0 : Int) ≤ (k : Int) := by omega
      have k1 : (k : Int) < (nn : Int) := by omega
      clear r1 r2 r3 r5
      go_wp2
      go_quiet ((go_at_call 18; refine (skipZ w.heap.size 0 n0 n0 s e d c0 _ (txt_drewN T3.out _) (by omega) (Nat.le_refl _) HV r4 HD _ rfl).mono ?_; rintro e w' ⟨rfl, rfl⟩; exact ⟨rfl, _, rfl⟩))
      go_wp2
      go_roundw
      case rel => exact ⟨k + 1, _, by omega, by go_num, rfl⟩
      case measure => simp [intOf]; omega
    · go_wp2
      go_ret
      exact ⟨rfl, below_drewN' B3.out _⟩

end Go.Proofs.Qxb6600463a.fnSkipValueAgreesWithGrammar
