/-
  The law FnStringEndFindsTheQuotesOwnEnd (3), walked.
-/
import Derived.Test.Qxb6600463aRow
namespace Go.Proofs.Qxb6600463a.fnStringEndFindsTheQuotesOwnEnd
open Go.RowKit
set_option linter.unusedSimpArgs false
set_option linter.unusedVariables false

def ctxt (c0 : Nat → Int) (len0 : Nat) (Q : List Int) (c2 : Nat → Int) (len2 : Nat) : List Int := bytesL c0 len0 ++ ((34 :: Q) ++ 34 :: bytesL c2 len2)

theorem final_text {w : World} {base g cap len0 len2 : Nat} {c0 c2 : Nat → Int} {Q : List Int} {ys : List Value} (hy : (bytesL c0 len0).map V ++ ((34 :: Q) ++ [34]).map V = ys)
    (h : w.ownsRow base 5 1 (.slice (some ⟨g, 0, none⟩) (len0 + (Q.length + 2) + len2) cap) (len0 + (Q.length + 2) + len2) (ys ++ (bytesL c2 len2).map V))
    (h0 : ∀ j, 0 ≤ c0 j ∧ c0 j < 256) (hq : ∀ x ∈ Q, 0 ≤ x ∧ x < 256) (h2 : ∀ j, 0 ≤ c2 j ∧ c2 j < 256) :
    Txt w g 0 (len0 + (Q.length + 2) + len2) (fun j => (ctxt c0 len0 Q c2 len2).getD j 0) := by
  have hl : (ctxt c0 len0 Q c2 len2).length = len0 + (Q.length + 2) + len2 := by simp [ctxt, bytesL]; omega
  have hm : ys ++ (bytesL c2 len2).map V = (ctxt c0 len0 Q c2 len2).map V := by rw [← hy]; simp [ctxt]
  rw [hm, ← hl] at h
  have := txt_of_own h (by
    intro x hx
    unfold ctxt at hx
    rcases List.mem_append.1 hx with h1 | h1
    · exact bytesL_mem h0 x h1
    · rcases List.mem_append.1 h1 with h3 | h3
      · rcases List.mem_cons.1 h3 with rfl | h4
        · omega
        · exact hq x h4
      · rcases List.mem_cons.1 h3 with rfl | h4
        · omega
        · exact bytesL_mem h2 x h4)
  rwa [hl] at this

theorem final_tok (c0 : Nat → Int) (len0 : Nat) (Q : List Int) (c2 : Nat → Int) (len2 : Nat) (h : okB false Q = true) : StrTok (fun j => (ctxt c0 len0 Q c2 len2).getD j 0) len0 Q.length := by
  have := strTok_mid (bytesL c0 len0) Q (bytesL c2 len2) h
  rw [bytesL_len] at this
  exact this

set_option maxHeartbeats 1000000 in
theorem bytes_big (a0 : Option Addr) (len0 cap0 : Nat) (a1 : Option Addr) (len1 cap1 : Nat) (a2 : Option Addr) (len2 cap2 : Nat) (a3 : Bool) (w : World)
    (l0 : len0 ≤ maxLen) (l1 : len1 ≤ maxLen) (l2 : len2 ≤ maxLen) (h : ¬ len0 + len1 + len2 ≤ 1048576) :
    Calls Try.prog 9 #[.slice a0 len0 cap0, .slice a1 len1 cap1, .slice a2 len2 cap2, .bool a3] w fun e w' => e = .returned (.bool false) ∧ w = w' := by
  unfold maxLen at l0 l1 l2
  go_enter Try.func9, Try.ntmps9
  go_wp2
  all_goals
    go_ret
    exact ⟨rfl, rfl⟩

set_option maxHeartbeats 1000000 in
theorem bytes_small (a0 : Option Addr) (len0 cap0 : Nat) (a1 : Option Addr) (len1 cap1 : Nat) (a2 : Option Addr) (len2 cap2 : Nat) (a3 : Bool) (w : World)
    (h : len0 + len1 + len2 ≤ 1048576) :
    Calls Try.prog 9 #[.slice a0 len0 cap0, .slice a1 len1 cap1, .slice a2 len2 cap2, .bool a3] w fun e w' => e = .returned (.bool true) ∧ w = w' := by
  go_enter Try.func9, Try.ntmps9
  go_wp2
  go_ret
  exact ⟨rfl, rfl⟩

set_option maxHeartbeats 1000000 in
theorem walk_big (a0 : Option Addr) (len0 cap0 : Nat) (a1 : Option Addr) (len1 cap1 : Nat) (a2 : Option Addr) (len2 cap2 : Nat) (a3 : Bool) (w : World)
    (l0 : len0 ≤ maxLen) (l1 : len1 ≤ maxLen) (l2 : len2 ≤ maxLen) (h : ¬ (len0 ≤ 65536 ∧ len1 ≤ 65536 ∧ len2 ≤ 65536 ∧ len0 + len1 + len2 ≤ 1048576)) :
    Calls Try.prog 3 #[.slice a0 len0 cap0, .slice a1 len1 cap1, .slice a2 len2 cap2, .bool a3] w fun e w' => e = .returned (.bool true) ∧ Below w.heap.size w w' := by
  by_cases hs : len0 + len1 + len2 ≤ 1048576
  · have l0' := l0
    have l1' := l1
    have l2' := l2
    unfold maxLen at l0' l1' l2'
    by_cases h0 : len0 ≤ 65536
    · by_cases h1 : len1 ≤ 65536
      · have h2 : 65536 < len2 := by omega
        clear h
        go_enter Try.func3, Try.ntmps3
        go_wp2_with (go_at_call 9; refine (bytes_small _ _ _ _ _ _ _ _ _ _ _ hs).mono ?_; rintro e w' ⟨rfl, rfl⟩)
        go_ret
        exact ⟨rfl, Below.refl _ _⟩
      · have h2 : 65536 < len1 := by omega
        clear h
        go_enter Try.func3, Try.ntmps3
        go_wp2_with (go_at_call 9; refine (bytes_small _ _ _ _ _ _ _ _ _ _ _ hs).mono ?_; rintro e w' ⟨rfl, rfl⟩)
        go_ret
        exact ⟨rfl, Below.refl _ _⟩
    · have h2 : 65536 < len0 := by omega
      clear h
      go_enter Try.func3, Try.ntmps3
      go_wp2_with (go_at_call 9; refine (bytes_small _ _ _ _ _ _ _ _ _ _ _ hs).mono ?_; rintro e w' ⟨rfl, rfl⟩)
      go_ret
      exact ⟨rfl, Below.refl _ _⟩
  · clear h
    go_enter Try.func3, Try.ntmps3
    go_wp2_with (go_at_call 9; refine (bytes_big _ _ _ _ _ _ _ _ _ _ _ l0 l1 l2 hs).mono ?_; rintro e w' ⟨rfl, rfl⟩)
    go_ret
    exact ⟨rfl, Below.refl _ _⟩

set_option maxHeartbeats 2000000 in
theorem walk_small (a0 : Option Addr) (len0 cap0 : Nat) (c0 : Nat → Int) (a1 : Option Addr) (len1 cap1 : Nat) (c1 : Nat → Int) (a2 : Option Addr) (len2 cap2 : Nat) (c2 : Nat → Int) (a3 : Bool) (w : World)
    (r0 : Row w a0 len0 cap0 c0) (r1 : Row w a1 len1 cap1 c1) (r2 : Row w a2 len2 cap2 c2) (l0 : len0 ≤ 65536) (l1 : len1 ≤ 65536) (l2 : len2 ≤ 65536) :
    Calls Try.prog 3 #[.slice a0 len0 cap0, .slice a1 len1 cap1, .slice a2 len2 cap2, .bool a3] w fun e w' => e = .returned (.bool true) ∧ Below w.heap.size w w' := by
  have R0 : Hid (Row w a0 len0 cap0 c0) := r0
  have R1 : Hid (Row w a1 len1 cap1 c1) := r1
  have R2 : Hid (Row w a2 len2 cap2 c2) := r2
  clear r0 r1 r2
  obtain ⟨i0, hi, hz0, hz1, hz2⟩ := info_parts Try.info5
  go_enter Try.func3, Try.ntmps3
  go_wp2_with (first | (go_at_call 9; refine (bytes_small _ _ _ _ _ _ _ _ _ _ _ (by omega)).mono ?_; rintro e w' ⟨rfl, rfl⟩) | (at_make; refine wpList_make_own _ rfl _ _ 22 rfl w.heap.size 5 i0 (.int .u8 0) 1 Try.underlying22 hi hz0 hz1 .i64 .i64 _ (len0 + 6 * len1 + 2 + len2) rfl rfl (by omega) (by rw [hz2]; omega) (by unfold maxLen; omega) (Nat.le_refl _) ?_; intro w1 hown1 hgr1; have B1 : Hid (Below w.heap.size w w1) := (Below.refl _ w).grown hgr1 (Nat.le_refl _) (fun q hq => by cases hq)) | (at_builtin; refine wpList_append_fits_any _ rfl (.tmp 41) (.tmp 42) 22 rfl w.heap.size 5 i0 1 Try.underlying22 hi hz1 w.heap.size 0 (len0 + 6 * len1 + 2 + len2) [] rfl hown1 a0 len0 cap0 ((bytesL c0 len0).map V) rfl (by simp [bytesL]) R0.out.nil (R0.out.mono B1.out).news (V_one _) (by omega) ?_; intro w2 hown2 hgr2; simp only [Nat.zero_add, List.nil_append] at hown2; have B2 : Hid (Below w.heap.size w w2) := B1.out.grown hgr2 B1.out.size (fun q hq => by cases hq; exact Nat.le_refl _); clear hgr1 hgr2 hown1))
  refine (quote_calls w.heap.size w.heap.size len0 (len0 + 6 * len1 + 2 + len2) ((bytesL c0 len0).map V) a1 len1 cap1 c1 a3 w2 hown2 (Nat.le_trans B2.out.size (Nat.le_refl _)) (Nat.le_refl _) (R1.out.mono B2.out) R1.out.lt (by omega) (by omega) (by omega)).mono ?_
  rintro e w3 ⟨Q, rfl, q1, q2, q3, hown3, hB3⟩
  have B3 : Hid (Below w.heap.size w w3) := B2.out.trans hB3
  have Q1 : Hid (okB false Q = true) := q1
  have Q2 : Hid (∀ x ∈ Q, 0 ≤ x ∧ x < 256) := q2
  clear q1 q2 hB3 hown2
  generalize hy : (bytesL c0 len0).map V ++ ((34 :: Q) ++ [34]).map V = ys at hown3
  have HY : Hid ((bytesL c0 len0).map V ++ ((34 :: Q) ++ [34]).map V = ys) := hy
  clear hy
  go_wp2_with (at_builtin; refine wpList_append_fits_any _ rfl (.tmp 50) (.tmp 51) 22 rfl w.heap.size 5 i0 1 Try.underlying22 hi hz1 w.heap.size (len0 + (Q.length + 2)) (len0 + 6 * len1 + 2 + len2) ys rfl hown3 a2 len2 cap2 ((bytesL c2 len2).map V) rfl (by simp [bytesL]) R2.out.nil (R2.out.mono B3.out).news (V_one _) (by omega) ?_; intro w4 hown4 hgr4; have B4 : Hid (Below w.heap.size w w4) := B3.out.grown hgr4 B3.out.size (fun q hq => by cases hq; exact Nat.le_refl _); have T4 : Hid (w4.ownsRow w.heap.size 5 1 (.slice (some ⟨w.heap.size, 0, none⟩) (len0 + (Q.length + 2) + len2) (len0 + 6 * len1 + 2 + len2)) (len0 + (Q.length + 2) + len2) (ys ++ (bytesL c2 len2).map V)) := hown4; clear hown4 hgr4)
  have hT := final_text HY.out T4.out R0.out.byte Q2.out R2.out.byte
  refine (strEnd_calls w.heap.size 0 (len0 + (Q.length + 2) + len2) (len0 + 6 * len1 + 2 + len2) len0 Q.length _ w4 hT (by omega) (by omega) (by omega) (final_tok c0 len0 Q c2 len2 Q1.out)).mono ?_
  rintro e w5 ⟨rfl, rfl⟩
  have he : (((len0 + Q.length + 2 : Nat) : Int) == ((len0 + (Q.length + 2) : Nat) : Int)) = true := beq_iff_eq.2 (by omega)
  go_wp2
  go_ret
  refine ⟨ret_bool ?_, B4.out⟩
  rw [beq_iff_eq]; omega

end Go.Proofs.Qxb6600463a.fnStringEndFindsTheQuotesOwnEnd
