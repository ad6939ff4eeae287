/-
  The law FnSkipValueStepsOverElements (8), walked.
-/
import Derived.Test.Qxb6600463aKit
namespace Go.Proofs.Qxb6600463a.fnSkipValueStepsOverElements
open Go.RowKit
set_option linter.unusedSimpArgs false
set_option linter.unusedVariables false

/-- a text that is a list -/
def at_ (N : List Int) : Nat → Int := fun j => N.getD j 0

theorem seg_mid (P A R N : List Int) (p a : Nat) (hN : N = P ++ (A ++ R)) (hp : P.length = p) (ha : A.length = a) : seg (at_ N) p a = A := by
  subst hN
  have h1 : seg (at_ (P ++ (A ++ R))) 0 (P ++ (A ++ R)).length = P ++ (A ++ R) := seg_getD _
  have hl : (P ++ (A ++ R)).length = p + (a + R.length) := by simp; omega
  rw [hl, seg_add, seg_add, Nat.zero_add] at h1
  have h2 := (List.append_inj h1 (by rw [seg_len, hp])).2
  exact (List.append_inj h2 (by rw [seg_len, ha])).1

theorem at_mid (P N : List Int) (x : Int) (R : List Int) (p : Nat) (hN : N = P ++ (x :: R)) (hp : P.length = p) : at_ N p = x := by
  unfold at_
  rw [hN, ← hp]
  have := getD_app P (x :: R) 0
  rw [Nat.add_zero] at this
  rw [this]; rfl

theorem valSeg_of {N A : List Int} {i e d : Nat} (h : seg (at_ N) i (e - i) = A) (hie : i < e) (hv : Val A d) : ValSeg (at_ N) i e d := ⟨hie, by rw [h]; exact hv⟩

/-- what zzTrimWS leaves of a document -/
def TrimPost (b n : Nat) (w : World) (r : Ending) (w' : World) : Prop :=
  ∃ (o m q : Nat) (ca : Nat → Int) (d : Nat), r = .returned (.slice (some ⟨b, o, none⟩) m q) ∧ Txt w b o m ca ∧ Val (bytesL ca m) d ∧ 0 < m ∧ m ≤ n ∧ m ≤ q ∧ w = w'

theorem trim2 (b off n cap : Nat) (c : Nat → Int) (w : World) (ht : Hid (Txt w b off n c)) (hn : n ≤ 1000000) (hcap : n ≤ cap) (j e d : Nat) (hD : Doc c n j e d) :
    Calls Try.prog 20 #[.slice (some ⟨b, off, none⟩) n cap] w fun r w' => TrimPost b n w r w' := by
  have h1 := hD.2.1.1
  have h2 := hD.2.2.1
  refine (trim_calls b off n cap j e d c w ht hn hcap hD h1 h2).mono ?_
  rintro r w' ⟨rfl, rfl⟩
  have hT := txt_from ht.out j
  refine ⟨off + j, e - j, cap - j, fun k => c (j + k), d, rfl, ⟨fun k hk => hT.1 k (by omega), hT.2⟩, ?_, by omega, by omega, by omega, rfl⟩
  rw [← bytesL_seg]
  exact hD.2.1.2

theorem skipZ_of (b off n cap : Nat) (x : Int) (e : Nat) (w : World) (h : Calls Try.prog 25 #[.slice (some ⟨b, off, none⟩) n cap, .int .i64 x] w fun r w' => r = .returned (.int .i64 (e : Int)) ∧ w = w') :
    Calls Try.prog 18 #[.slice (some ⟨b, off, none⟩) n cap, .int .i64 x] w fun r w' => r = .returned (.int .i64 (e : Int)) ∧ w = w' := by
  have H : Hid (Calls Try.prog 25 #[.slice (some ⟨b, off, none⟩) n cap, .int .i64 x] w fun r w' => r = .returned (.int .i64 (e : Int)) ∧ w = w') := h
  clear h
  go_enter Try.func18, Try.ntmps18
  go_wp2_with (go_at_call 25; refine (H.out).mono ?_; rintro e w' ⟨rfl, rfl⟩)
  go_ret
  exact ⟨rfl, rfl⟩

theorem arr_eq {N6 N7 N8 N9 N10 A B : List Int} (h6 : N6 = [91]) (h7 : N7 = N6 ++ A) (h8 : N8 = N7 ++ [44]) (h9 : N9 = N8 ++ B) (h10 : N10 = N9 ++ [93]) : N10 = (91 :: ((A ++ [44]) ++ B)) ++ [93] := by
  subst h6 h7 h8 h9 h10; simp
theorem obj_eq {N12 N13 N14 A : List Int} (h12 : N12 = [123, 34, 107, 34, 58]) (h13 : N13 = N12 ++ A) (h14 : N14 = N13 ++ [125]) : N14 = (123 :: ((((34 :: [107]) ++ [34]) ++ [58]) ++ A)) ++ [125] := by
  subst h12 h13 h14; simp

theorem arr_txt {w : World} {base g cap n0 n1 : Nat} {c0 c1 : Nat → Int} {N10 : List Int} (e : N10 = (91 :: ((bytesL c0 n0 ++ [44]) ++ bytesL c1 n1)) ++ [93])
    (h : w.ownsRow base 5 1 (.slice (some ⟨g, 0, none⟩) (1 + n0 + 1 + n1 + 1) cap) (1 + n0 + 1 + n1 + 1) (N10.map V)) (b0 : ∀ j, 0 ≤ c0 j ∧ c0 j < 256) (b1 : ∀ j, 0 ≤ c1 j ∧ c1 j < 256) :
    Txt w g 0 (1 + n0 + 1 + n1 + 1) (at_ N10) := by
  refine txt_of_own' h ?_ ?_
  · rw [e]; simp [bytesL]; omega
  · intro x hx
    rw [e] at hx
    simp only [List.mem_append, List.mem_cons, List.not_mem_nil, or_false] at hx
    rcases hx with (rfl | (hx | rfl) | hx) | rfl
    · omega
    · exact bytesL_mem b0 x hx
    · omega
    · exact bytesL_mem b1 x hx
    · omega

theorem obj_txt {w : World} {base g cap n0 : Nat} {c0 : Nat → Int} {N14 : List Int} (e : N14 = (123 :: ((((34 :: [107]) ++ [34]) ++ [58]) ++ bytesL c0 n0)) ++ [125])
    (h : w.ownsRow base 5 1 (.slice (some ⟨g, 0, none⟩) (5 + n0 + 1) cap) (5 + n0 + 1) (N14.map V)) (b0 : ∀ j, 0 ≤ c0 j ∧ c0 j < 256) : Txt w g 0 (5 + n0 + 1) (at_ N14) := by
  refine txt_of_own' h ?_ ?_
  · rw [e]; simp [bytesL]; omega
  · intro x hx
    rw [e] at hx
    simp only [List.mem_append, List.mem_cons, List.not_mem_nil, or_false] at hx
    rcases hx with (rfl | ((((rfl | rfl) | rfl) | rfl) | hx)) | rfl
    · omega
    · omega
    · omega
    · omega
    · omega
    · exact bytesL_mem b0 x hx
    · omega

/-- the six places -/
theorem arr_all {n0 n1 d0 d1 : Nat} {c0 c1 : Nat → Int} {N : List Int} (e : N = (91 :: ((bytesL c0 n0 ++ [44]) ++ bytesL c1 n1)) ++ [93]) (V0 : Val (bytesL c0 n0) d0) (V1 : Val (bytesL c1 n1) d1) :
    ValSeg (at_ N) 0 (1 + n0 + 1 + n1 + 1) (max d0 d1 + 1) := by
  refine valSeg_of (A := N) ?_ (by omega) ?_
  · refine seg_mid [] N [] N 0 _ (by simp) rfl ?_
    rw [e]; simp [bytesL]; omega
  · rw [e]
    refine val_cont (.inr rfl) (.inr rfl) ?_
    have := bal_app (bal_app V0.bal (bal_plain [44] (by simp))) V1.bal
    rwa [show max (max d0 0) d1 = max d0 d1 by omega] at this
theorem arr_fst {n0 n1 d0 : Nat} {c0 c1 : Nat → Int} {N : List Int} (e : N = (91 :: ((bytesL c0 n0 ++ [44]) ++ bytesL c1 n1)) ++ [93]) (p0 : 0 < n0) (V0 : Val (bytesL c0 n0) d0) :
    ValSeg (at_ N) 1 (1 + n0) d0 ∧ at_ N (1 + n0) = 44 := by
  refine ⟨valSeg_of (A := bytesL c0 n0) ?_ (by omega) V0, ?_⟩
  · rw [show 1 + n0 - 1 = n0 by omega]
    exact seg_mid [91] (bytesL c0 n0) ([44] ++ bytesL c1 n1 ++ [93]) N 1 n0 (by rw [e]; simp) rfl (bytesL_len _ _)
  · exact at_mid (91 :: bytesL c0 n0) N 44 (bytesL c1 n1 ++ [93]) (1 + n0) (by rw [e]; simp) (by simp [bytesL]; omega)
theorem arr_snd {n0 n1 d1 : Nat} {c0 c1 : Nat → Int} {N : List Int} (e : N = (91 :: ((bytesL c0 n0 ++ [44]) ++ bytesL c1 n1)) ++ [93]) (p1 : 0 < n1) (V1 : Val (bytesL c1 n1) d1) :
    ValSeg (at_ N) (2 + n0) (2 + n0 + n1) d1 ∧ at_ N (2 + n0 + n1) = 93 := by
  refine ⟨valSeg_of (A := bytesL c1 n1) ?_ (by omega) V1, ?_⟩
  · rw [show 2 + n0 + n1 - (2 + n0) = n1 by omega]
    exact seg_mid (91 :: (bytesL c0 n0 ++ [44])) (bytesL c1 n1) [93] N (2 + n0) n1 (by rw [e]; simp) (by simp [bytesL]; omega) (bytesL_len _ _)
  · exact at_mid (91 :: ((bytesL c0 n0 ++ [44]) ++ bytesL c1 n1)) N 93 [] (2 + n0 + n1) (by rw [e]) (by simp [bytesL]; omega)
theorem obj_all {n0 d0 : Nat} {c0 : Nat → Int} {N : List Int} (e : N = (123 :: ((((34 :: [107]) ++ [34]) ++ [58]) ++ bytesL c0 n0)) ++ [125]) (V0 : Val (bytesL c0 n0) d0) :
    ValSeg (at_ N) 0 (5 + n0 + 1) (d0 + 1) := by
  refine valSeg_of (A := N) ?_ (by omega) ?_
  · refine seg_mid [] N [] N 0 _ (by simp) rfl ?_
    rw [e]; simp [bytesL]; omega
  · rw [e]
    refine val_cont (.inl rfl) (.inl rfl) ?_
    have := bal_app (bal_app (bal_str (p := [107]) (by decide)) (bal_plain [58] (by simp))) V0.bal
    rwa [show max (max 0 0) d0 = d0 by omega] at this
theorem obj_key {n0 : Nat} {c0 : Nat → Int} {N : List Int} (e : N = (123 :: ((((34 :: [107]) ++ [34]) ++ [58]) ++ bytesL c0 n0)) ++ [125]) : StrTok (at_ N) 1 1 := by
  have := seg_mid [123] [34, 107, 34] ([58] ++ bytesL c0 n0 ++ [125]) N 1 3 (by rw [e]; simp) rfl rfl
  exact tok_of_seg (p := [107]) (n := 3) rfl this (by decide)
theorem obj_val {n0 d0 : Nat} {c0 : Nat → Int} {N : List Int} (e : N = (123 :: ((((34 :: [107]) ++ [34]) ++ [58]) ++ bytesL c0 n0)) ++ [125]) (p0 : 0 < n0) (V0 : Val (bytesL c0 n0) d0) :
    ValSeg (at_ N) 5 (5 + n0) d0 ∧ at_ N (5 + n0) = 125 := by
  refine ⟨valSeg_of (A := bytesL c0 n0) ?_ (by omega) V0, ?_⟩
  · rw [show 5 + n0 - 5 = n0 by omega]
    exact seg_mid [123, 34, 107, 34, 58] (bytesL c0 n0) [125] N 5 n0 (by rw [e]; simp) rfl (bytesL_len _ _)
  · exact at_mid ([123, 34, 107, 34, 58] ++ bytesL c0 n0) N 125 [] (5 + n0) (by rw [e]; simp) (by simp [bytesL]; omega)

set_option maxHeartbeats 1000000 in
theorem walk_big (a0 : Option Addr) (len0 cap0 : Nat) (a1 : Option Addr) (len1 cap1 : Nat) (w : World) (l0 : len0 ≤ maxLen) (l1 : len1 ≤ maxLen) (h : ¬ (len0 ≤ 65536 ∧ len1 ≤ 65536)) :
    Calls Try.prog 8 #[.slice a0 len0 cap0, .slice a1 len1 cap1] w fun e w' => e = .returned (.bool true) ∧ Below w.heap.size w w' := by
  by_cases hs : len0 + len1 ≤ 1048576
  · by_cases h0 : len0 ≤ 65536
    · have h2 : 65536 < len1 := by omega
      clear h
      go_enter Try.func8, Try.ntmps8
      go_wp2_with (go_at_call 19; refine (bytes19_small _ _ _ _ _ _ _ hs).mono ?_; rintro e w' ⟨rfl, rfl⟩)
      go_ret
      exact ⟨rfl, Below.refl _ _⟩
    · have h2 : 65536 < len0 := by omega
      clear h
      go_enter Try.func8, Try.ntmps8
      go_wp2_with (go_at_call 19; refine (bytes19_small _ _ _ _ _ _ _ hs).mono ?_; rintro e w' ⟨rfl, rfl⟩)
      go_ret
      exact ⟨rfl, Below.refl _ _⟩
  · clear h
    go_enter Try.func8, Try.ntmps8
    go_wp2_with (go_at_call 19; refine (bytes19_big _ _ _ _ _ _ _ l0 l1 hs).mono ?_; rintro e w' ⟨rfl, rfl⟩)
    go_ret
    exact ⟨rfl, Below.refl _ _⟩

set_option maxHeartbeats 1000000 in
theorem walk_empty0 (a0 : Option Addr) (cap0 : Nat) (a1 : Option Addr) (len1 cap1 : Nat) (w : World) (l1 : len1 ≤ 65536) :
    Calls Try.prog 8 #[.slice a0 0 cap0, .slice a1 len1 cap1] w fun e w' => e = .returned (.bool true) ∧ Below w.heap.size w w' := by
  go_enter Try.func8, Try.ntmps8
  go_wp2_with (go_at_call 19; refine (bytes19_small _ _ _ _ _ _ _ (by omega)).mono ?_; rintro e w' ⟨rfl, rfl⟩)
  refine (parse_empty _ _ _).mono ?_
  rintro e w1 ⟨rfl, hB⟩
  have B1 : Hid (Below w.heap.size w w1) := hB
  clear hB
  go_wp2
  go_ret
  exact ⟨rfl, B1.out⟩

set_option maxHeartbeats 1000000 in
theorem walk_empty1 (b0 off0 n0 cap0 : Nat) (c0 : Nat → Int) (a1 : Option Addr) (cap1 : Nat) (w : World) (l0 : n0 ≤ 65536) (t0 : Hid (Txt w b0 off0 n0 c0)) (hb0 : b0 < w.heap.size) :
    Calls Try.prog 8 #[.slice (some ⟨b0, off0, none⟩) n0 cap0, .slice a1 0 cap1] w fun e w' => e = .returned (.bool true) ∧ Below w.heap.size w w' := by
  go_enter Try.func8, Try.ntmps8
  go_wp2_with (go_at_call 19; refine (bytes19_small _ _ _ _ _ _ _ (by omega)).mono ?_; rintro e w' ⟨rfl, rfl⟩)
  refine (parse_calls b0 off0 n0 cap0 c0 w t0 (by omega) hb0).mono ?_
  rintro e w1 ⟨ok, rfl, hB, hok⟩
  have B1 : Hid (Below w.heap.size w w1) := hB
  clear hB hok
  cases ok
  · go_wp2
    go_ret
    exact ⟨rfl, B1.out⟩
  · go_wp2_with fail
    refine (parse_empty _ _ _).mono ?_
    rintro e w2 ⟨rfl, hB2⟩
    have B2 : Hid (Below w.heap.size w w2) := B1.out.trans (hB2.mono B1.out.size)
    clear hB2
    go_wp2
    go_ret
    exact ⟨rfl, B2.out⟩

set_option maxRecDepth 100000 in
set_option maxHeartbeats 8000000 in
theorem walk_main (b0 off0 n0 cap0 : Nat) (c0 : Nat → Int) (b1 off1 n1 cap1 : Nat) (c1 : Nat → Int) (w : World) (l0 : n0 ≤ 65536) (l1 : n1 ≤ 65536) (p0 : 0 < n0) (p1 : 0 < n1) (g0 : n0 ≤ cap0) (g1 : n1 ≤ cap1)
    (t0 : Hid (Txt w b0 off0 n0 c0)) (hb0 : b0 < w.heap.size) (t1 : Hid (Txt w b1 off1 n1 c1)) (hb1 : b1 < w.heap.size) :
    Calls Try.prog 8 #[.slice (some ⟨b0, off0, none⟩) n0 cap0, .slice (some ⟨b1, off1, none⟩) n1 cap1] w fun e w' => e = .returned (.bool true) ∧ Below w.heap.size w w' := by
  obtain ⟨i5, hi, hz0, hz1, hz2⟩ := info_parts Try.info5
  go_enter Try.func8, Try.ntmps8
  go_wp2_with (go_at_call 19; refine (bytes19_small _ _ _ _ _ _ _ (by omega)).mono ?_; rintro e w' ⟨rfl, rfl⟩)
  refine (parse_calls b0 off0 n0 cap0 c0 w t0 (by omega) hb0).mono ?_
  rintro e wa ⟨ok, rfl, hB, hok⟩
  have BA : Hid (Below w.heap.size w wa) := hB
  have OA : Hid (ok = true → ∃ j e d, Doc c0 n0 j e d) := fun h => (hok h).1
  clear hB hok
  cases ok
  · go_wp2
    go_ret
    exact ⟨rfl, BA.out⟩
  obtain ⟨ja, ea, d0', hD0⟩ := OA.out rfl
  have D0 : Hid (Doc c0 n0 ja ea d0') := hD0
  clear hD0 OA
  go_wp2_with fail
  have tA1 : Hid (Txt wa b1 off1 n1 c1) := txt_below t1.out hb1 BA.out
  refine (parse_calls b1 off1 n1 cap1 c1 wa tA1 (by omega) (Nat.lt_of_lt_of_le hb1 BA.out.size)).mono ?_
  rintro e wb ⟨ok, rfl, hB, hok⟩
  have BB : Hid (Below w.heap.size w wb) := BA.out.trans (hB.mono BA.out.size)
  have OB : Hid (ok = true → ∃ j e d, Doc c1 n1 j e d) := fun h => (hok h).1
  clear hB hok tA1
  cases ok
  · go_wp2
    go_ret
    exact ⟨rfl, BB.out⟩
  obtain ⟨jb, eb, d1', hD1⟩ := OB.out rfl
  have D1 : Hid (Doc c1 n1 jb eb d1') := hD1
  clear hD1 OB
  have tB0 : Hid (Txt wb b0 off0 n0 c0) := txt_below t0.out hb0 BB.out
  have tB1 : Hid (Txt wb b1 off1 n1 c1) := txt_below t1.out hb1 BB.out
  go_wp2_with fail
  refine (trim2 b0 off0 n0 cap0 c0 wb tB0 (by omega) g0 ja ea d0' D0.out).mono ?_
  rintro r w' ⟨o0, m0, q0, a, d0, rfl, hTa, hVa, hm0, hmn0, hmq0, rfl⟩
  have TA4 : Hid (Txt wb b0 o0 m0 a) := hTa
  have VA : Hid (Val (bytesL a m0) d0) := hVa
  clear hTa hVa
  go_wp2_with fail
  refine (trim2 b1 off1 n1 cap1 c1 wb tB1 (by omega) g1 jb eb d1' D1.out).mono ?_
  rintro r w' ⟨o1, m1, q1, b, d1, rfl, hTb, hVb, hm1, hmn1, hmq1, rfl⟩
  have TB : Hid (Txt wb b1 o1 m1 b) := hTb
  have VB : Hid (Val (bytesL b m1) d1) := hVb
  clear hTb hVb tB0 tB1 D0 D1
  have hBa4 : b0 < wb.heap.size := Nat.lt_of_lt_of_le hb0 BB.out.size
  have hBb : b1 < wb.heap.size := Nat.lt_of_lt_of_le hb1 BB.out.size
  go_upto_region 14 with (at_make; refine wpList_make_own _ rfl _ _ 22 rfl wb.heap.size 5 i5 (.int .u8 0) 1 Try.underlying22 hi hz0 hz1 .i64 .i64 _ (m0 + m1 + 3) rfl rfl (by omega) (by rw [hz2]; omega) (by unfold maxLen; omega) (Nat.le_refl _) ?_; intro w5 hown5 hgr5)
  have ownw5 : Hid (w5.ownsRow wb.heap.size 5 1 (.slice (some ⟨wb.heap.size, 0, none⟩) 0 (m0 + m1 + 3)) 0 []) := hown5
  have BGw5 : Hid (Below wb.heap.size wb w5) := (Below.refl _ _).grown hgr5 (Nat.le_refl _) (fun q hq => by cases hq)
  clear hown5 hgr5
  go_upto_region 15 with (at_builtin; refine wpList_append_fits _ rfl (.tmp 48) (.tmp 49) 22 rfl wb.heap.size 5 i5 1 Try.underlying22 hi hz1 wb.heap.size (0) (m0 + m1 + 3) [] rfl (ownw5.out.alloc _) ⟨w5.heap.size, 0, none⟩ 1 1 [.int .u8 91] rfl rfl (World.news_of_block (heap_alloc_new w5 _)) (V_one [91]) (by omega) ?_; intro w6 hown hgr; simp only [Nat.zero_add, List.nil_append] at hown)
  obtain ⟨N6, HN6⟩ : ∃ N : List Int, Hid (N = [91]) := ⟨_, rfl⟩
  have ownw6 : Hid (w6.ownsRow wb.heap.size 5 1 (.slice (some ⟨wb.heap.size, 0, none⟩) (1) (m0 + m1 + 3)) (1) (N6.map V)) := by
    have e := HN6.out
    subst e
    exact hown
  have BGw6 : Hid (Below wb.heap.size wb w6) := (BGw5.out.alloc BGw5.out.size _).grown hgr (by have := BGw5.out.size; simp; omega) (fun q hq => by cases hq; exact Nat.le_refl _)
  clear hown hgr ownw5
  have TSw7 : Hid (Txt w6 b0 o0 m0 a) := txt_below TA4.out hBa4 BGw6.out
  go_upto_region 16 with (at_builtin; refine wpList_append_fits _ rfl (.tmp 51) (.tmp 52) 22 rfl wb.heap.size 5 i5 1 Try.underlying22 hi hz1 wb.heap.size (1) (m0 + m1 + 3) (N6.map V) rfl ownw6.out ⟨b0, o0, none⟩ m0 q0 ((bytesL a m0).map V) rfl (by simp [bytesL]) TSw7.out.news (V_one _) (by omega) ?_; intro w7 hown hgr)
  obtain ⟨N7, HN7⟩ : ∃ N : List Int, Hid (N = N6 ++ bytesL a m0) := ⟨_, rfl⟩
  have ownw7 : Hid (w7.ownsRow wb.heap.size 5 1 (.slice (some ⟨wb.heap.size, 0, none⟩) (1 + m0) (m0 + m1 + 3)) (1 + m0) (N7.map V)) := own_app hown HN7.out
  have BGw7 : Hid (Below wb.heap.size wb w7) := BGw6.out.grown hgr BGw6.out.size (fun q hq => by cases hq; exact Nat.le_refl _)
  clear hown hgr ownw6 TSw7
  go_upto_region 17 with (at_builtin; refine wpList_append_fits _ rfl (.tmp 54) (.tmp 55) 22 rfl wb.heap.size 5 i5 1 Try.underlying22 hi hz1 wb.heap.size (1 + m0) (m0 + m1 + 3) (N7.map V) rfl (ownw7.out.alloc _) ⟨w7.heap.size, 0, none⟩ 1 1 [.int .u8 44] rfl rfl (World.news_of_block (heap_alloc_new w7 _)) (V_one [44]) (by omega) ?_; intro w8 hown hgr)
  obtain ⟨N8, HN8⟩ : ∃ N : List Int, Hid (N = N7 ++ [44]) := ⟨N7 ++ [44], rfl⟩
  have ownw8 : Hid (w8.ownsRow wb.heap.size 5 1 (.slice (some ⟨wb.heap.size, 0, none⟩) (1 + m0 + 1) (m0 + m1 + 3)) (1 + m0 + 1) (N8.map V)) := own_app (P := [44]) hown HN8.out
  have BGw8 : Hid (Below wb.heap.size wb w8) := (BGw7.out.alloc BGw7.out.size _).grown hgr (by have := BGw7.out.size; simp; omega) (fun q hq => by cases hq; exact Nat.le_refl _)
  clear hown hgr ownw7
  have TSw9 : Hid (Txt w8 b1 o1 m1 b) := txt_below TB.out hBb BGw8.out
  go_upto_region 18 with (at_builtin; refine wpList_append_fits _ rfl (.tmp 57) (.tmp 58) 22 rfl wb.heap.size 5 i5 1 Try.underlying22 hi hz1 wb.heap.size (1 + m0 + 1) (m0 + m1 + 3) (N8.map V) rfl ownw8.out ⟨b1, o1, none⟩ m1 q1 ((bytesL b m1).map V) rfl (by simp [bytesL]) TSw9.out.news (V_one _) (by omega) ?_; intro w9 hown hgr)
  obtain ⟨N9, HN9⟩ : ∃ N : List Int, Hid (N = N8 ++ bytesL b m1) := ⟨_, rfl⟩
  have ownw9 : Hid (w9.ownsRow wb.heap.size 5 1 (.slice (some ⟨wb.heap.size, 0, none⟩) (1 + m0 + 1 + m1) (m0 + m1 + 3)) (1 + m0 + 1 + m1) (N9.map V)) := own_app hown HN9.out
  have BGw9 : Hid (Below wb.heap.size wb w9) := BGw8.out.grown hgr BGw8.out.size (fun q hq => by cases hq; exact Nat.le_refl _)
  clear hown hgr ownw8 TSw9
  go_upto_region 19 with (at_builtin; refine wpList_append_fits _ rfl (.tmp 60) (.tmp 61) 22 rfl wb.heap.size 5 i5 1 Try.underlying22 hi hz1 wb.heap.size (1 + m0 + 1 + m1) (m0 + m1 + 3) (N9.map V) rfl (ownw9.out.alloc _) ⟨w9.heap.size, 0, none⟩ 1 1 [.int .u8 93] rfl rfl (World.news_of_block (heap_alloc_new w9 _)) (V_one [93]) (by omega) ?_; intro w10 hown hgr)
  obtain ⟨N10, HN10⟩ : ∃ N : List Int, Hid (N = N9 ++ [93]) := ⟨N9 ++ [93], rfl⟩
  have ownw10 : Hid (w10.ownsRow wb.heap.size 5 1 (.slice (some ⟨wb.heap.size, 0, none⟩) (1 + m0 + 1 + m1 + 1) (m0 + m1 + 3)) (1 + m0 + 1 + m1 + 1) (N10.map V)) := own_app (P := [93]) hown HN10.out
  have BGw10 : Hid (Below wb.heap.size wb w10) := (BGw9.out.alloc BGw9.out.size _).grown hgr (by have := BGw9.out.size; simp; omega) (fun q hq => by cases hq; exact Nat.le_refl _)
  clear hown hgr ownw9
  have EA : Hid (N10 = (91 :: ((bytesL a m0 ++ [44]) ++ bytesL b m1)) ++ [93]) := arr_eq HN6.out HN7.out HN8.out HN9.out HN10.out
  have TR : Hid (Txt w10 wb.heap.size 0 (1 + m0 + 1 + m1 + 1) (at_ N10)) := arr_txt EA.out ownw10.out TA4.out.2 TB.out.2
  have hG10 : wb.heap.size < w10.heap.size := World.block_lt_of_cell? _ _ (TR.out.1 0 (by omega))
  have B10 : Hid (Below w.heap.size w w10) := BB.out.trans (BGw10.out.mono BB.out.size)
  have TA10 : Hid (Txt w10 b0 o0 m0 a) := txt_below TA4.out hBa4 BGw10.out
  have hBa10 : b0 < w10.heap.size := by omega
  clear HN6 HN7 HN8 HN9 HN10 ownw10 TB TA4 BGw5 BGw6 BGw7 BGw8 BGw9 BGw10
  go_upto_region 20 with (at_make; refine wpList_make_own _ rfl _ _ 22 rfl w10.heap.size 5 i5 (.int .u8 0) 1 Try.underlying22 hi hz0 hz1 .i64 .i64 _ (m0 + 6) rfl rfl (by omega) (by rw [hz2]; omega) (by unfold maxLen; omega) (Nat.le_refl _) ?_; intro w11 hown11 hgr11)
  have ownw11 : Hid (w11.ownsRow w10.heap.size 5 1 (.slice (some ⟨w10.heap.size, 0, none⟩) 0 (m0 + 6)) 0 []) := hown11
  have BGw11 : Hid (Below w10.heap.size w10 w11) := (Below.refl _ _).grown hgr11 (Nat.le_refl _) (fun q hq => by cases hq)
  clear hown11 hgr11
  go_upto_region 21 with (at_builtin; refine wpList_append_fits _ rfl (.tmp 67) (.tmp 68) 22 rfl w10.heap.size 5 i5 1 Try.underlying22 hi hz1 w10.heap.size (0) (m0 + 6) [] rfl (ownw11.out.alloc _) ⟨w11.heap.size, 0, none⟩ 5 5 [.int .u8 123, .int .u8 34, .int .u8 107, .int .u8 34, .int .u8 58] rfl rfl (World.news_of_block (heap_alloc_new w11 _)) (V_one [123, 34, 107, 34, 58]) (by omega) ?_; intro w12 hown hgr; simp only [Nat.zero_add, List.nil_append] at hown)
  obtain ⟨N12, HN12⟩ : ∃ N : List Int, Hid (N = [123, 34, 107, 34, 58]) := ⟨_, rfl⟩
  have ownw12 : Hid (w12.ownsRow w10.heap.size 5 1 (.slice (some ⟨w10.heap.size, 0, none⟩) (5) (m0 + 6)) (5) (N12.map V)) := by
    have e := HN12.out
    subst e
    exact hown
  have BGw12 : Hid (Below w10.heap.size w10 w12) := (BGw11.out.alloc BGw11.out.size _).grown hgr (by have := BGw11.out.size; simp; omega) (fun q hq => by cases hq; exact Nat.le_refl _)
  clear hown hgr ownw11
  have TSw13 : Hid (Txt w12 b0 o0 m0 a) := txt_below TA10.out hBa10 BGw12.out
  go_upto_region 22 with (at_builtin; refine wpList_append_fits _ rfl (.tmp 70) (.tmp 71) 22 rfl w10.heap.size 5 i5 1 Try.underlying22 hi hz1 w10.heap.size (5) (m0 + 6) (N12.map V) rfl ownw12.out ⟨b0, o0, none⟩ m0 q0 ((bytesL a m0).map V) rfl (by simp [bytesL]) TSw13.out.news (V_one _) (by omega) ?_; intro w13 hown hgr)
  obtain ⟨N13, HN13⟩ : ∃ N : List Int, Hid (N = N12 ++ bytesL a m0) := ⟨_, rfl⟩
  have ownw13 : Hid (w13.ownsRow w10.heap.size 5 1 (.slice (some ⟨w10.heap.size, 0, none⟩) (5 + m0) (m0 + 6)) (5 + m0) (N13.map V)) := own_app hown HN13.out
  have BGw13 : Hid (Below w10.heap.size w10 w13) := BGw12.out.grown hgr BGw12.out.size (fun q hq => by cases hq; exact Nat.le_refl _)
  clear hown hgr ownw12 TSw13
  go_upto_region 23 with (at_builtin; refine wpList_append_fits _ rfl (.tmp 73) (.tmp 74) 22 rfl w10.heap.size 5 i5 1 Try.underlying22 hi hz1 w10.heap.size (5 + m0) (m0 + 6) (N13.map V) rfl (ownw13.out.alloc _) ⟨w13.heap.size, 0, none⟩ 1 1 [.int .u8 125] rfl rfl (World.news_of_block (heap_alloc_new w13 _)) (V_one [125]) (by omega) ?_; intro w14 hown hgr)
  obtain ⟨N14, HN14⟩ : ∃ N : List Int, Hid (N = N13 ++ [125]) := ⟨N13 ++ [125], rfl⟩
  have ownw14 : Hid (w14.ownsRow w10.heap.size 5 1 (.slice (some ⟨w10.heap.size, 0, none⟩) (5 + m0 + 1) (m0 + 6)) (5 + m0 + 1) (N14.map V)) := own_app (P := [125]) hown HN14.out
  have BGw14 : Hid (Below w10.heap.size w10 w14) := (BGw13.out.alloc BGw13.out.size _).grown hgr (by have := BGw13.out.size; simp; omega) (fun q hq => by cases hq; exact Nat.le_refl _)
  clear hown hgr ownw13
  have EO : Hid (N14 = (123 :: ((((34 :: [107]) ++ [34]) ++ [58]) ++ bytesL a m0)) ++ [125]) := obj_eq HN12.out HN13.out HN14.out
  have TO : Hid (Txt w14 w10.heap.size 0 (5 + m0 + 1) (at_ N14)) := obj_txt EO.out ownw14.out TA10.out.2
  have B14 : Hid (Below w.heap.size w w14) := B10.out.trans (BGw14.out.mono B10.out.size)
  have TR14 : Hid (Txt w14 wb.heap.size 0 (1 + m0 + 1 + m1 + 1) (at_ N10)) := txt_below TR.out hG10 BGw14.out
  have v1 : Hid (ValSeg (at_ N10) 0 (1 + m0 + 1 + m1 + 1) (max d0 d1 + 1)) := arr_all EA.out VA.out VB.out
  have v2 : Hid (ValSeg (at_ N10) 1 (1 + m0) d0 ∧ at_ N10 (1 + m0) = 44) := arr_fst EA.out hm0 VA.out
  have v3 : Hid (ValSeg (at_ N10) (2 + m0) (2 + m0 + m1) d1 ∧ at_ N10 (2 + m0 + m1) = 93) := arr_snd EA.out hm1 VB.out
  have v4 : Hid (ValSeg (at_ N14) 0 (5 + m0 + 1) (d0 + 1)) := obj_all EO.out VA.out
  have v5 : Hid (StrTok (at_ N14) 1 1) := obj_key EO.out
  have v6 : Hid (ValSeg (at_ N14) 5 (5 + m0) d0 ∧ at_ N14 (5 + m0) = 125) := obj_val EO.out hm0 VA.out
  clear HN12 HN13 HN14 ownw14 TA10 BGw11 BGw12 BGw13 BGw14 TR VA VB EA EO
  go_wp2_with fail
  refine (skipZ wb.heap.size 0 (1 + m0 + 1 + m1 + 1) (m0 + m1 + 3) 0 (1 + m0 + 1 + m1 + 1) _ (at_ N10) w14 TR14 (by omega) (by omega) v1 (Nat.le_refl _) (fun h => absurd h (Nat.lt_irrefl _)) _ rfl).mono ?_
  rintro e w' ⟨rfl, rfl⟩
  go_wp2_with fail
  refine (skipZ wb.heap.size 0 (1 + m0 + 1 + m1 + 1) (m0 + m1 + 3) 1 (1 + m0) _ (at_ N10) w14 TR14 (by omega) (by omega) v2.out.1 (by omega) (fun _ => .inr (.inl v2.out.2)) _ rfl).mono ?_
  rintro e w' ⟨rfl, rfl⟩
  go_wp2_with fail
  refine (skipZ wb.heap.size 0 (1 + m0 + 1 + m1 + 1) (m0 + m1 + 3) (2 + m0) (2 + m0 + m1) _ (at_ N10) w14 TR14 (by omega) (by omega) v3.out.1 (by omega) (fun _ => .inr (.inr (.inr v3.out.2))) _ (by omega)).mono ?_
  rintro e w' ⟨rfl, rfl⟩
  go_wp2_with fail
  refine (skipZ w10.heap.size 0 (5 + m0 + 1) (m0 + 6) 0 (5 + m0 + 1) _ (at_ N14) w14 TO (by omega) (by omega) v4 (Nat.le_refl _) (fun h => absurd h (Nat.lt_irrefl _)) _ rfl).mono ?_
  rintro e w' ⟨rfl, rfl⟩
  go_wp2_with fail
  refine (skipZ_of w10.heap.size 0 (5 + m0 + 1) (m0 + 6) 1 4 w14 (skip_str w10.heap.size 0 (5 + m0 + 1) (m0 + 6) 1 1 (at_ N14) w14 TO (by omega) (by omega) (by omega) v5)).mono ?_
  rintro e w' ⟨rfl, rfl⟩
  go_wp2_with fail
  refine (skipZ w10.heap.size 0 (5 + m0 + 1) (m0 + 6) 5 (5 + m0) _ (at_ N14) w14 TO (by omega) (by omega) v6.out.1 (by omega) (fun _ => .inr (.inr (.inl v6.out.2))) _ rfl).mono ?_
  rintro e w' ⟨rfl, rfl⟩
  go_wp2_with fail
  go_ret
  refine ⟨ret_bool ?_, B14.out⟩
  simp

end Go.Proofs.Qxb6600463a.fnSkipValueStepsOverElements
