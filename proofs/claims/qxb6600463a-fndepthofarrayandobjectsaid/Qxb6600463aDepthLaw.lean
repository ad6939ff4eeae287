/-
  The law FnDepthOfArrayAndObject (6), walked.
-/
import Derived.Test.Qxb6600463aKit
namespace Go.Proofs.Qxb6600463a.fnDepthOfArrayAndObject
open Go.RowKit
set_option linter.unusedSimpArgs false
set_option linter.unusedVariables false

theorem arr_eq {N6 N7 N8 N9 N10 A B : List Int} (h6 : N6 = [91]) (h7 : N7 = N6 ++ A) (h8 : N8 = N7 ++ [44]) (h9 : N9 = N8 ++ B) (h10 : N10 = N9 ++ [93]) : N10 = (91 :: ((A ++ [44]) ++ B)) ++ [93] := by
  subst h6 h7 h8 h9 h10; simp

theorem arr_txt {w : World} {base g cap n0 n1 : Nat} {c0 c1 : Nat → Int} {N6 N7 N8 N9 N10 : List Int} (h6 : N6 = [91]) (h7 : N7 = N6 ++ bytesL c0 n0) (h8 : N8 = N7 ++ [44]) (h9 : N9 = N8 ++ bytesL c1 n1) (h10 : N10 = N9 ++ [93])
    (h : w.ownsRow base 5 1 (.slice (some ⟨g, 0, none⟩) (1 + n0 + 1 + n1 + 1) cap) (1 + n0 + 1 + n1 + 1) (N10.map V)) (b0 : ∀ j, 0 ≤ c0 j ∧ c0 j < 256) (b1 : ∀ j, 0 ≤ c1 j ∧ c1 j < 256) :
    Txt w g 0 (1 + n0 + 1 + n1 + 1) (fun j => N10.getD j 0) := by
  have e := arr_eq h6 h7 h8 h9 h10
  refine txt_of_own' h ?_ ?_
  · rw [e]; simp [bytesL]; omega
  · intro x hx
    rw [e] at hx
    simp only [List.mem_append, List.mem_cons, List.not_mem_nil, or_false] at hx
    rcases hx with (rfl | (hx | rfl) | hx) | rfl
    · omega
    · exact bytesL_mem b0 x hx
    · omega
    · exact bytesL_mem b1 x hx
    · omega

theorem arr_bal {n0 n1 d0 d1 : Nat} {c0 c1 : Nat → Int} {N6 N7 N8 N9 N10 : List Int} (h6 : N6 = [91]) (h7 : N7 = N6 ++ bytesL c0 n0) (h8 : N8 = N7 ++ [44]) (h9 : N9 = N8 ++ bytesL c1 n1) (h10 : N10 = N9 ++ [93])
    (D0 : Bal (seg c0 0 n0) d0) (D1 : Bal (seg c1 0 n1) d1) : Bal (seg (fun j => N10.getD j 0) 0 (1 + n0 + 1 + n1 + 1)) (max d0 d1 + 1) := by
  have e := arr_eq h6 h7 h8 h9 h10
  have hl : N10.length = 1 + n0 + 1 + n1 + 1 := by rw [e]; simp [bytesL]; omega
  rw [← hl, seg_getD, e]
  refine bal_wrap (.inr rfl) (.inr rfl) ?_
  have := bal_app (bal_app (by rw [bytesL_eq]; exact D0 : Bal (bytesL c0 n0) d0) (bal_plain [44] (by simp))) (by rw [bytesL_eq]; exact D1 : Bal (bytesL c1 n1) d1)
  rwa [show max (max d0 0) d1 = max d0 d1 by omega] at this

theorem obj_eq {N12 N13 N14 A : List Int} (h12 : N12 = [123, 34, 107, 34, 58]) (h13 : N13 = N12 ++ A) (h14 : N14 = N13 ++ [125]) : N14 = (123 :: ((((34 :: [107]) ++ [34]) ++ [58]) ++ A)) ++ [125] := by
  subst h12 h13 h14; simp

theorem obj_txt {w : World} {base g cap n0 : Nat} {c0 : Nat → Int} {N12 N13 N14 : List Int} (h12 : N12 = [123, 34, 107, 34, 58]) (h13 : N13 = N12 ++ bytesL c0 n0) (h14 : N14 = N13 ++ [125])
    (h : w.ownsRow base 5 1 (.slice (some ⟨g, 0, none⟩) (5 + n0 + 1) cap) (5 + n0 + 1) (N14.map V)) (b0 : ∀ j, 0 ≤ c0 j ∧ c0 j < 256) : Txt w g 0 (5 + n0 + 1) (fun j => N14.getD j 0) := by
  have e := obj_eq h12 h13 h14
  refine txt_of_own' h ?_ ?_
  · rw [e]; simp [bytesL]; omega
  · intro x hx
    rw [e] at hx
    simp only [List.mem_append, List.mem_cons, List.not_mem_nil, or_false] at hx
    rcases hx with (rfl | ((((rfl | rfl) | rfl) | rfl) | hx)) | rfl
    · omega
    · omega
    · omega
    · omega
    · omega
    · exact bytesL_mem b0 x hx
    · omega

theorem obj_bal {n0 d0 : Nat} {c0 : Nat → Int} {N12 N13 N14 : List Int} (h12 : N12 = [123, 34, 107, 34, 58]) (h13 : N13 = N12 ++ bytesL c0 n0) (h14 : N14 = N13 ++ [125])
    (D0 : Bal (seg c0 0 n0) d0) : Bal (seg (fun j => N14.getD j 0) 0 (5 + n0 + 1)) (d0 + 1) := by
  have e := obj_eq h12 h13 h14
  have hl : N14.length = 5 + n0 + 1 := by rw [e]; simp [bytesL]; omega
  rw [← hl, seg_getD, e]
  refine bal_wrap (.inl rfl) (.inl rfl) ?_
  have := bal_app (bal_app (bal_str (p := [107]) (by decide)) (bal_plain [58] (by simp))) (by rw [bytesL_eq]; exact D0 : Bal (bytesL c0 n0) d0)
  rwa [show max (max 0 0) d0 = d0 by omega] at this

theorem cs_len (c : Nat → Int) (n : Nat) : ((bytesL c n).map V).length = Nat.min n n := by
  rw [List.length_map, bytesL_len]; exact (Nat.min_self n).symm
theorem cs_fit {c : Nat → Int} {n : Nat} {cur : List Value} (h : cur.length = n) : 0 + ((bytesL c n).map V).length ≤ cur.length := by
  rw [List.length_map, bytesL_len, h]; omega

set_option maxHeartbeats 1000000 in
theorem walk_big (a0 : Option Addr) (len0 cap0 : Nat) (a1 : Option Addr) (len1 cap1 : Nat) (w : World) (l0 : len0 ≤ maxLen) (l1 : len1 ≤ maxLen) (h : ¬ (len0 ≤ 65536 ∧ len1 ≤ 65536)) :
    Calls Try.prog 6 #[.slice a0 len0 cap0, .slice a1 len1 cap1] w fun e w' => e = .returned (.bool true) ∧ Below w.heap.size w w' := by
  by_cases hs : len0 + len1 ≤ 1048576
  · by_cases h0 : len0 ≤ 65536
    · have h2 : 65536 < len1 := by omega
      clear h
      go_enter Try.func6, Try.ntmps6
      go_wp2_with (go_at_call 16; refine (bytes16_small _ _ _ _ _ _ _ hs).mono ?_; rintro e w' ⟨rfl, rfl⟩)
      go_ret
      exact ⟨rfl, Below.refl _ _⟩
    · have h2 : 65536 < len0 := by omega
      clear h
      go_enter Try.func6, Try.ntmps6
      go_wp2_with (go_at_call 16; refine (bytes16_small _ _ _ _ _ _ _ hs).mono ?_; rintro e w' ⟨rfl, rfl⟩)
      go_ret
      exact ⟨rfl, Below.refl _ _⟩
  · clear h
    go_enter Try.func6, Try.ntmps6
    go_wp2_with (go_at_call 16; refine (bytes16_big _ _ _ _ _ _ _ l0 l1 hs).mono ?_; rintro e w' ⟨rfl, rfl⟩)
    go_ret
    exact ⟨rfl, Below.refl _ _⟩

set_option maxHeartbeats 1000000 in
theorem walk_empty0 (a0 : Option Addr) (cap0 : Nat) (a1 : Option Addr) (len1 cap1 : Nat) (w : World) (l1 : len1 ≤ 65536) :
    Calls Try.prog 6 #[.slice a0 0 cap0, .slice a1 len1 cap1] w fun e w' => e = .returned (.bool true) ∧ Below w.heap.size w w' := by
  go_enter Try.func6, Try.ntmps6
  go_wp2_with (go_at_call 16; refine (bytes16_small _ _ _ _ _ _ _ (by omega)).mono ?_; rintro e w' ⟨rfl, rfl⟩)
  refine (parse_empty _ _ _).mono ?_
  rintro e w1 ⟨rfl, hB⟩
  have B1 : Hid (Below w.heap.size w w1) := hB
  clear hB
  go_wp2
  go_ret
  exact ⟨rfl, B1.out⟩

set_option maxHeartbeats 1000000 in
theorem walk_empty1 (b0 off0 n0 cap0 : Nat) (c0 : Nat → Int) (a1 : Option Addr) (cap1 : Nat) (w : World) (l0 : n0 ≤ 65536) (t0 : Hid (Txt w b0 off0 n0 c0)) (hb0 : b0 < w.heap.size) :
    Calls Try.prog 6 #[.slice (some ⟨b0, off0, none⟩) n0 cap0, .slice a1 0 cap1] w fun e w' => e = .returned (.bool true) ∧ Below w.heap.size w w' := by
  go_enter Try.func6, Try.ntmps6
  go_wp2_with (go_at_call 16; refine (bytes16_small _ _ _ _ _ _ _ (by omega)).mono ?_; rintro e w' ⟨rfl, rfl⟩)
  refine (parse_calls b0 off0 n0 cap0 c0 w t0 (by omega) hb0).mono ?_
  rintro e w1 ⟨ok, rfl, hB, hok⟩
  have B1 : Hid (Below w.heap.size w w1) := hB
  clear hB hok
  cases ok
  · go_wp2
    go_ret
    exact ⟨rfl, B1.out⟩
  · go_wp2_with fail
    refine (parse_empty _ _ _).mono ?_
    rintro e w2 ⟨rfl, hB2⟩
    have B2 : Hid (Below w.heap.size w w2) := B1.out.trans (hB2.mono B1.out.size)
    clear hB2
    go_wp2
    go_ret
    exact ⟨rfl, B2.out⟩

set_option maxRecDepth 100000 in
set_option maxHeartbeats 8000000 in
theorem walk_main (b0 off0 n0 cap0 : Nat) (c0 : Nat → Int) (b1 off1 n1 cap1 : Nat) (c1 : Nat → Int) (w : World) (l0 : n0 ≤ 65536) (l1 : n1 ≤ 65536) (p0 : 0 < n0) (p1 : 0 < n1)
    (t0 : Hid (Txt w b0 off0 n0 c0)) (hb0 : b0 < w.heap.size) (t1 : Hid (Txt w b1 off1 n1 c1)) (hb1 : b1 < w.heap.size) :
    Calls Try.prog 6 #[.slice (some ⟨b0, off0, none⟩) n0 cap0, .slice (some ⟨b1, off1, none⟩) n1 cap1] w fun e w' => e = .returned (.bool true) ∧ Below w.heap.size w w' := by
  obtain ⟨i5, hi, hz0, hz1, hz2⟩ := info_parts Try.info5
  have hs5 : (Try.prog.info? 5).map (·.size) = some 1 := by rw [hi]; simp [hz1]
  have hnn0 := fun wx => run_neq_slice_nil_any (P := Try.prog) wx 22 5 (some ⟨b0, off0, none⟩) n0 cap0 0 0 Try.underlying22
  have hnn1 := fun wx => run_neq_slice_nil_any (P := Try.prog) wx 22 5 (some ⟨b1, off1, none⟩) n1 cap1 0 0 Try.underlying22
  go_enter Try.func6, Try.ntmps6
  go_wp2_with (go_at_call 16; refine (bytes16_small _ _ _ _ _ _ _ (by omega)).mono ?_; rintro e w' ⟨rfl, rfl⟩)
  refine (parse_calls b0 off0 n0 cap0 c0 w t0 (by omega) hb0).mono ?_
  rintro e wa ⟨ok, rfl, hB, hok⟩
  have BA : Hid (Below w.heap.size w wa) := hB
  have OA : Hid (ok = true → ∃ j e d, Doc c0 n0 j e d) := fun h => (hok h).1
  clear hB hok
  cases ok
  · go_wp2
    go_ret
    exact ⟨rfl, BA.out⟩
  obtain ⟨ja, ea, d0, hD0⟩ := OA.out rfl
  have D0 : Hid (Bal (seg c0 0 n0) d0) := doc_bal hD0
  clear hD0 OA
  go_wp2_with fail
  have tA1 : Hid (Txt wa b1 off1 n1 c1) := txt_below t1.out hb1 BA.out
  refine (parse_calls b1 off1 n1 cap1 c1 wa tA1 (by omega) (Nat.lt_of_lt_of_le hb1 BA.out.size)).mono ?_
  rintro e wb ⟨ok, rfl, hB, hok⟩
  have BB : Hid (Below w.heap.size w wb) := BA.out.trans (hB.mono BA.out.size)
  have OB : Hid (ok = true → ∃ j e d, Doc c1 n1 j e d) := fun h => (hok h).1
  clear hB hok tA1
  cases ok
  · go_wp2
    go_ret
    exact ⟨rfl, BB.out⟩
  obtain ⟨jb, eb, d1, hD1⟩ := OB.out rfl
  have D1 : Hid (Bal (seg c1 0 n1) d1) := doc_bal hD1
  clear hD1 OB
  -- the copy of a
  go_upto_region 13 with (at_make; refine wpList_make_full _ rfl _ _ 22 rfl wb.heap.size 5 i5 (.int .u8 0) 1 Try.underlying22 hi hz0 hz1 .i64 .i64 _ _ n0 rfl rfl (by omega) (by omega) (by rw [hz2]; omega) (by unfold maxLen; omega) (Nat.le_refl _) ?_; intro w1 hown1 hgr1)
  obtain ⟨cur1, hcur1, hlen1⟩ := made_block hown1
  have HC1 : Hid (w1.heap[wb.heap.size]? = some (.cells cur1.toArray 5 (0, 0))) := hcur1
  have B1 : Hid (Below wb.heap.size wb w1) := (Below.refl _ _).grown hgr1 (Nat.le_refl _) (fun q hq => by cases hq)
  have T1 : Hid (Txt w1 b0 off0 n0 c0) := txt_below (txt_below t0.out hb0 BB.out) (Nat.lt_of_lt_of_le hb0 BB.out.size) B1.out
  clear hown1 hgr1 hcur1
  go_upto_region 16 with (refine wpList_copy_splice rfl (.tmp 47) (.tmp 48) 22 22 rfl 5 Try.underlying22 hs5 _ _ _ _ _ _ rfl rfl wb.heap.size 0 cur1 5 HC1.out ((bytesL c0 n0).map V) (cs_len c0 n0) (fun _ => ⟨rfl, _, rfl, T1.out.news⟩) (cs_fit hlen1) (V_one _) wb.heap.size wb B1.out (Nat.le_refl _) ?_; intro w2 hcp2 hB2)
  have TA : Hid (Txt w2 wb.heap.size 0 n0 c0) := copied hcp2.out hlen1 t0.out.2
  have hBa : wb.heap.size < w2.heap.size := World.block_lt_of_cell? _ _ (TA.out.1 0 p0)
  have B2 : Hid (Below w.heap.size w w2) := BB.out.trans (hB2.mono BB.out.size)
  have T2 : Hid (Txt w2 b1 off1 n1 c1) := txt_below t1.out hb1 B2.out
  clear hcp2 hB2 B1 T1 HC1
  -- the copy of b
  go_upto_region 17 with (at_make; refine wpList_make_full _ rfl _ _ 22 rfl w2.heap.size 5 i5 (.int .u8 0) 1 Try.underlying22 hi hz0 hz1 .i64 .i64 _ _ n1 rfl rfl (by omega) (by omega) (by rw [hz2]; omega) (by unfold maxLen; omega) (Nat.le_refl _) ?_; intro w3 hown3 hgr3)
  obtain ⟨cur3, hcur3, hlen3⟩ := made_block hown3
  have HC3 : Hid (w3.heap[w2.heap.size]? = some (.cells cur3.toArray 5 (0, 0))) := hcur3
  have B3 : Hid (Below w2.heap.size w2 w3) := (Below.refl _ _).grown hgr3 (Nat.le_refl _) (fun q hq => by cases hq)
  have T3 : Hid (Txt w3 b1 off1 n1 c1) := txt_below T2.out (Nat.lt_of_lt_of_le hb1 B2.out.size) B3.out
  clear hown3 hgr3 hcur3
  go_upto_region 19 with (refine wpList_copy_splice rfl (.tmp 56) (.tmp 57) 22 22 rfl 5 Try.underlying22 hs5 _ _ _ _ _ _ rfl rfl w2.heap.size 0 cur3 5 HC3.out ((bytesL c1 n1).map V) (cs_len c1 n1) (fun _ => ⟨rfl, _, rfl, T3.out.news⟩) (cs_fit hlen3) (V_one _) w2.heap.size w2 B3.out (Nat.le_refl _) ?_; intro w4 hcp4 hB4)
  have TB : Hid (Txt w4 w2.heap.size 0 n1 c1) := copied hcp4.out hlen3 t1.out.2
  have TA4 : Hid (Txt w4 wb.heap.size 0 n0 c0) := txt_below TA.out hBa hB4
  have hBb : w2.heap.size < w4.heap.size := World.block_lt_of_cell? _ _ (TB.out.1 0 p1)
  have B4 : Hid (Below w.heap.size w w4) := B2.out.trans (hB4.mono B2.out.size)
  clear hcp4 hB4 B3 T3 HC3 T2 TA hnn0 hnn1
  have hBa4 : wb.heap.size < w4.heap.size := by omega
  go_wp2_with fail
  refine (depth_calls wb.heap.size 0 n0 n0 d0 c0 w4 TA4 (by omega) (Nat.le_refl _) D0).mono ?_
  rintro e w' ⟨rfl, rfl⟩
  go_wp2_with fail
  refine (depth_calls w2.heap.size 0 n1 n1 d1 c1 w4 TB (by omega) (Nat.le_refl _) D1).mono ?_
  rintro e w' ⟨rfl, rfl⟩
  go_upto_region 22 with (at_make; refine wpList_make_own _ rfl _ _ 22 rfl w4.heap.size 5 i5 (.int .u8 0) 1 Try.underlying22 hi hz0 hz1 .i64 .i64 _ (n0 + n1 + 3) rfl rfl (by omega) (by rw [hz2]; omega) (by unfold maxLen; omega) (Nat.le_refl _) ?_; intro w5 hown5 hgr5)
  have ownw5 : Hid (w5.ownsRow w4.heap.size 5 1 (.slice (some ⟨w4.heap.size, 0, none⟩) 0 (n0 + n1 + 3)) 0 []) := hown5
  have BGw5 : Hid (Below w4.heap.size w4 w5) := (Below.refl _ _).grown hgr5 (Nat.le_refl _) (fun q hq => by cases hq)
  clear hown5 hgr5
  go_upto_region 23 with (at_builtin; refine wpList_append_fits _ rfl (.tmp 71) (.tmp 72) 22 rfl w4.heap.size 5 i5 1 Try.underlying22 hi hz1 w4.heap.size (0) (n0 + n1 + 3) [] rfl (ownw5.out.alloc _) ⟨w5.heap.size, 0, none⟩ 1 1 [.int .u8 91] rfl rfl (World.news_of_block (heap_alloc_new w5 _)) (V_one [91]) (by omega) ?_; intro w6 hown hgr; simp only [Nat.zero_add, List.nil_append] at hown)
  obtain ⟨N6, HN6⟩ : ∃ N : List Int, Hid (N = [91]) := ⟨_, rfl⟩
  have ownw6 : Hid (w6.ownsRow w4.heap.size 5 1 (.slice (some ⟨w4.heap.size, 0, none⟩) (1) (n0 + n1 + 3)) (1) (N6.map V)) := by
    have e := HN6.out
    subst e
    exact hown
  have BGw6 : Hid (Below w4.heap.size w4 w6) := (BGw5.out.alloc BGw5.out.size _).grown hgr (by have := BGw5.out.size; simp; omega) (fun q hq => by cases hq; exact Nat.le_refl _)
  clear hown hgr ownw5
  have TSw7 : Hid (Txt w6 wb.heap.size 0 n0 c0) := txt_below TA4.out hBa4 BGw6.out
  go_upto_region 24 with (at_builtin; refine wpList_append_fits _ rfl (.tmp 74) (.tmp 75) 22 rfl w4.heap.size 5 i5 1 Try.underlying22 hi hz1 w4.heap.size (1) (n0 + n1 + 3) (N6.map V) rfl ownw6.out ⟨wb.heap.size, 0, none⟩ n0 n0 ((bytesL c0 n0).map V) rfl (by simp [bytesL]) TSw7.out.news (V_one _) (by omega) ?_; intro w7 hown hgr)
  obtain ⟨N7, HN7⟩ : ∃ N : List Int, Hid (N = N6 ++ bytesL c0 n0) := ⟨_, rfl⟩
  have ownw7 : Hid (w7.ownsRow w4.heap.size 5 1 (.slice (some ⟨w4.heap.size, 0, none⟩) (1 + n0) (n0 + n1 + 3)) (1 + n0) (N7.map V)) := own_app hown HN7.out
  have BGw7 : Hid (Below w4.heap.size w4 w7) := BGw6.out.grown hgr BGw6.out.size (fun q hq => by cases hq; exact Nat.le_refl _)
  clear hown hgr ownw6 TSw7
  go_upto_region 25 with (at_builtin; refine wpList_append_fits _ rfl (.tmp 77) (.tmp 78) 22 rfl w4.heap.size 5 i5 1 Try.underlying22 hi hz1 w4.heap.size (1 + n0) (n0 + n1 + 3) (N7.map V) rfl (ownw7.out.alloc _) ⟨w7.heap.size, 0, none⟩ 1 1 [.int .u8 44] rfl rfl (World.news_of_block (heap_alloc_new w7 _)) (V_one [44]) (by omega) ?_; intro w8 hown hgr)
  obtain ⟨N8, HN8⟩ : ∃ N : List Int, Hid (N = N7 ++ [44]) := ⟨N7 ++ [44], rfl⟩
  have ownw8 : Hid (w8.ownsRow w4.heap.size 5 1 (.slice (some ⟨w4.heap.size, 0, none⟩) (1 + n0 + 1) (n0 + n1 + 3)) (1 + n0 + 1) (N8.map V)) := own_app (P := [44]) hown HN8.out
  have BGw8 : Hid (Below w4.heap.size w4 w8) := (BGw7.out.alloc BGw7.out.size _).grown hgr (by have := BGw7.out.size; simp; omega) (fun q hq => by cases hq; exact Nat.le_refl _)
  clear hown hgr ownw7
  have TSw9 : Hid (Txt w8 w2.heap.size 0 n1 c1) := txt_below TB.out hBb BGw8.out
  go_upto_region 26 with (at_builtin; refine wpList_append_fits _ rfl (.tmp 80) (.tmp 81) 22 rfl w4.heap.size 5 i5 1 Try.underlying22 hi hz1 w4.heap.size (1 + n0 + 1) (n0 + n1 + 3) (N8.map V) rfl ownw8.out ⟨w2.heap.size, 0, none⟩ n1 n1 ((bytesL c1 n1).map V) rfl (by simp [bytesL]) TSw9.out.news (V_one _) (by omega) ?_; intro w9 hown hgr)
  obtain ⟨N9, HN9⟩ : ∃ N : List Int, Hid (N = N8 ++ bytesL c1 n1) := ⟨_, rfl⟩
  have ownw9 : Hid (w9.ownsRow w4.heap.size 5 1 (.slice (some ⟨w4.heap.size, 0, none⟩) (1 + n0 + 1 + n1) (n0 + n1 + 3)) (1 + n0 + 1 + n1) (N9.map V)) := own_app hown HN9.out
  have BGw9 : Hid (Below w4.heap.size w4 w9) := BGw8.out.grown hgr BGw8.out.size (fun q hq => by cases hq; exact Nat.le_refl _)
  clear hown hgr ownw8 TSw9
  go_upto_region 27 with (at_builtin; refine wpList_append_fits _ rfl (.tmp 83) (.tmp 84) 22 rfl w4.heap.size 5 i5 1 Try.underlying22 hi hz1 w4.heap.size (1 + n0 + 1 + n1) (n0 + n1 + 3) (N9.map V) rfl (ownw9.out.alloc _) ⟨w9.heap.size, 0, none⟩ 1 1 [.int .u8 93] rfl rfl (World.news_of_block (heap_alloc_new w9 _)) (V_one [93]) (by omega) ?_; intro w10 hown hgr)
  obtain ⟨N10, HN10⟩ : ∃ N : List Int, Hid (N = N9 ++ [93]) := ⟨N9 ++ [93], rfl⟩
  have ownw10 : Hid (w10.ownsRow w4.heap.size 5 1 (.slice (some ⟨w4.heap.size, 0, none⟩) (1 + n0 + 1 + n1 + 1) (n0 + n1 + 3)) (1 + n0 + 1 + n1 + 1) (N10.map V)) := own_app (P := [93]) hown HN10.out
  have BGw10 : Hid (Below w4.heap.size w4 w10) := (BGw9.out.alloc BGw9.out.size _).grown hgr (by have := BGw9.out.size; simp; omega) (fun q hq => by cases hq; exact Nat.le_refl _)
  clear hown hgr ownw9
  have TR : Hid (Txt w10 w4.heap.size 0 (1 + n0 + 1 + n1 + 1) (fun j => N10.getD j 0)) := arr_txt HN6.out HN7.out HN8.out HN9.out HN10.out ownw10.out t0.out.2 t1.out.2
  have DR : Hid (Bal (seg (fun j => N10.getD j 0) 0 (1 + n0 + 1 + n1 + 1)) (max d0 d1 + 1)) := arr_bal HN6.out HN7.out HN8.out HN9.out HN10.out D0.out D1.out
  have hG10 : w4.heap.size < w10.heap.size := World.block_lt_of_cell? _ _ (TR.out.1 0 (by omega))
  have B10 : Hid (Below w.heap.size w w10) := B4.out.trans (BGw10.out.mono B4.out.size)
  have TA10 : Hid (Txt w10 wb.heap.size 0 n0 c0) := txt_below TA4.out hBa4 BGw10.out
  have hBa10 : wb.heap.size < w10.heap.size := by omega
  clear HN6 HN7 HN8 HN9 HN10 ownw10 TB TA4 BGw5 BGw6 BGw7 BGw8 BGw9 BGw10
  go_upto_region 28 with (at_make; refine wpList_make_own _ rfl _ _ 22 rfl w10.heap.size 5 i5 (.int .u8 0) 1 Try.underlying22 hi hz0 hz1 .i64 .i64 _ (n0 + 6) rfl rfl (by omega) (by rw [hz2]; omega) (by unfold maxLen; omega) (Nat.le_refl _) ?_; intro w11 hown11 hgr11)
  have ownw11 : Hid (w11.ownsRow w10.heap.size 5 1 (.slice (some ⟨w10.heap.size, 0, none⟩) 0 (n0 + 6)) 0 []) := hown11
  have BGw11 : Hid (Below w10.heap.size w10 w11) := (Below.refl _ _).grown hgr11 (Nat.le_refl _) (fun q hq => by cases hq)
  clear hown11 hgr11
  go_upto_region 29 with (at_builtin; refine wpList_append_fits _ rfl (.tmp 90) (.tmp 91) 22 rfl w10.heap.size 5 i5 1 Try.underlying22 hi hz1 w10.heap.size (0) (n0 + 6) [] rfl (ownw11.out.alloc _) ⟨w11.heap.size, 0, none⟩ 5 5 [.int .u8 123, .int .u8 34, .int .u8 107, .int .u8 34, .int .u8 58] rfl rfl (World.news_of_block (heap_alloc_new w11 _)) (V_one [123, 34, 107, 34, 58]) (by omega) ?_; intro w12 hown hgr; simp only [Nat.zero_add, List.nil_append] at hown)
  obtain ⟨N12, HN12⟩ : ∃ N : List Int, Hid (N = [123, 34, 107, 34, 58]) := ⟨_, rfl⟩
  have ownw12 : Hid (w12.ownsRow w10.heap.size 5 1 (.slice (some ⟨w10.heap.size, 0, none⟩) (5) (n0 + 6)) (5) (N12.map V)) := by
    have e := HN12.out
    subst e
    exact hown
  have BGw12 : Hid (Below w10.heap.size w10 w12) := (BGw11.out.alloc BGw11.out.size _).grown hgr (by have := BGw11.out.size; simp; omega) (fun q hq => by cases hq; exact Nat.le_refl _)
  clear hown hgr ownw11
  have TSw13 : Hid (Txt w12 wb.heap.size 0 n0 c0) := txt_below TA10.out hBa10 BGw12.out
  go_upto_region 30 with (at_builtin; refine wpList_append_fits _ rfl (.tmp 93) (.tmp 94) 22 rfl w10.heap.size 5 i5 1 Try.underlying22 hi hz1 w10.heap.size (5) (n0 + 6) (N12.map V) rfl ownw12.out ⟨wb.heap.size, 0, none⟩ n0 n0 ((bytesL c0 n0).map V) rfl (by simp [bytesL]) TSw13.out.news (V_one _) (by omega) ?_; intro w13 hown hgr)
  obtain ⟨N13, HN13⟩ : ∃ N : List Int, Hid (N = N12 ++ bytesL c0 n0) := ⟨_, rfl⟩
  have ownw13 : Hid (w13.ownsRow w10.heap.size 5 1 (.slice (some ⟨w10.heap.size, 0, none⟩) (5 + n0) (n0 + 6)) (5 + n0) (N13.map V)) := own_app hown HN13.out
  have BGw13 : Hid (Below w10.heap.size w10 w13) := BGw12.out.grown hgr BGw12.out.size (fun q hq => by cases hq; exact Nat.le_refl _)
  clear hown hgr ownw12 TSw13
  go_upto_region 31 with (at_builtin; refine wpList_append_fits _ rfl (.tmp 96) (.tmp 97) 22 rfl w10.heap.size 5 i5 1 Try.underlying22 hi hz1 w10.heap.size (5 + n0) (n0 + 6) (N13.map V) rfl (ownw13.out.alloc _) ⟨w13.heap.size, 0, none⟩ 1 1 [.int .u8 125] rfl rfl (World.news_of_block (heap_alloc_new w13 _)) (V_one [125]) (by omega) ?_; intro w14 hown hgr)
  obtain ⟨N14, HN14⟩ : ∃ N : List Int, Hid (N = N13 ++ [125]) := ⟨N13 ++ [125], rfl⟩
  have ownw14 : Hid (w14.ownsRow w10.heap.size 5 1 (.slice (some ⟨w10.heap.size, 0, none⟩) (5 + n0 + 1) (n0 + 6)) (5 + n0 + 1) (N14.map V)) := own_app (P := [125]) hown HN14.out
  have BGw14 : Hid (Below w10.heap.size w10 w14) := (BGw13.out.alloc BGw13.out.size _).grown hgr (by have := BGw13.out.size; simp; omega) (fun q hq => by cases hq; exact Nat.le_refl _)
  clear hown hgr ownw13
  have TO : Hid (Txt w14 w10.heap.size 0 (5 + n0 + 1) (fun j => N14.getD j 0)) := obj_txt HN12.out HN13.out HN14.out ownw14.out t0.out.2
  have DO : Hid (Bal (seg (fun j => N14.getD j 0) 0 (5 + n0 + 1)) (d0 + 1)) := obj_bal HN12.out HN13.out HN14.out D0.out
  have B14 : Hid (Below w.heap.size w w14) := B10.out.trans (BGw14.out.mono B10.out.size)
  have TR14 : Hid (Txt w14 w4.heap.size 0 (1 + n0 + 1 + n1 + 1) (fun j => N10.getD j 0)) := txt_below TR.out hG10 BGw14.out
  have h2d : 2 * d0 ≤ n0 := by have := D0.out.two; rw [seg_len] at this; exact this
  have h2e : 2 * d1 ≤ n1 := by have := D1.out.two; rw [seg_len] at this; exact this
  clear HN12 HN13 HN14 ownw14 TA10 BGw11 BGw12 BGw13 BGw14 TR D0 D1
  by_cases hdd : d0 < d1
  · have e1 : max d0 d1 + 1 = d1 + 1 := by omega
    rw [e1] at DR
    clear e1
    go_wp2_with fail
    refine (depth_calls w4.heap.size 0 (1 + n0 + 1 + n1 + 1) (n0 + n1 + 3) (d1 + 1) _ w14 TR14 (by omega) (by omega) DR).mono ?_
    rintro e w' ⟨rfl, rfl⟩
    have f1 : (((d1 + 1 : Nat) : Int) == (d1 : Int) + 1) = true := beq_iff_eq.2 (by omega)
    go_wp2_with fail
    refine (depth_calls w10.heap.size 0 (5 + n0 + 1) (n0 + 6) (d0 + 1) _ w14 TO (by omega) (by omega) DO).mono ?_
    rintro e w' ⟨rfl, rfl⟩
    have f2 : (((d0 + 1 : Nat) : Int) == (d0 : Int) + 1) = true := beq_iff_eq.2 (by omega)
    go_wp2_with fail
    go_ret
    exact ⟨ret_bool (decide_eq_true (by omega)), B14.out⟩
  · have e1 : max d0 d1 + 1 = d0 + 1 := by omega
    rw [e1] at DR
    clear e1
    go_wp2_with fail
    refine (depth_calls w4.heap.size 0 (1 + n0 + 1 + n1 + 1) (n0 + n1 + 3) (d0 + 1) _ w14 TR14 (by omega) (by omega) DR).mono ?_
    rintro e w' ⟨rfl, rfl⟩
    have f1 : (((d0 + 1 : Nat) : Int) == (d0 : Int) + 1) = true := beq_iff_eq.2 (by omega)
    go_wp2_with fail
    refine (depth_calls w10.heap.size 0 (5 + n0 + 1) (n0 + 6) (d0 + 1) _ w14 TO (by omega) (by omega) DO).mono ?_
    rintro e w' ⟨rfl, rfl⟩
    go_wp2_with fail
    go_ret
    exact ⟨ret_bool (decide_eq_true (by omega)), B14.out⟩

end Go.Proofs.Qxb6600463a.fnDepthOfArrayAndObject
