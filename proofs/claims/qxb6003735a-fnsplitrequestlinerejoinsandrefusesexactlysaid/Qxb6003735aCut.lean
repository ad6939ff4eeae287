/-
  firstSpace (16), countSpaces (15), stringslite.Index (32) and Cut (27), strings.Cut (25) at " ", splitRequestLine (22), ZZSplitRequestLine (14).
-/
import Derived.Test.Qxb6003735aTok
import Derived.Test.Qxb6003735aIdx
namespace Go.Proofs.Qxb6003735a
open Go.RowKit
set_option linter.unusedSimpArgs false
set_option linter.unusedVariables false

def cntS (s : ByteArray) : Nat := s.data.toList.count 32

theorem ret_int {k : IntKind} {a b : Int} (h : a = b) : Ending.returned (.int k a) = .returned (.int k b) := by rw [h]

set_option maxHeartbeats 1000000 in
theorem firstSpace_calls (s : ByteArray) (w : World) (hs : s.size ≤ maxLen) :
    Calls Try.prog 16 #[.string s] w fun e w' => e = .returned (.int .i64 (Lib.indexByte s.data.toList 32)) ∧ w' = w := by
  unfold maxLen at hs
  go_enter Try.func16, Try.ntmps16
  go_wp2
  go_loop [3] (fun i => ∃ k : Nat, k ≤ s.size ∧ i = .int .i64 k ∧ Hid (32 ∉ s.data.toList.take k)) (fun i => s.size - (intOf i).toNat)
  case atStart => exact ⟨0, Nat.zero_le _, rfl, (by simp : (32 : UInt8) ∉ s.data.toList.take 0)⟩
  case round =>
    obtain ⟨k, hk, rfl, ha⟩ := hrel
    by_cases hlt : k < s.size
    · by_cases hc : s[k] = 32
      · have hb : ((s[k].toNat : Int) == 32) = true := by rw [byte32]; simp [hc]
        have hr : Hid (Lib.indexByte s.data.toList 32 = (k : Int)) := first_at s k hlt ha.out hc
        clear hc
        go_wp2
        go_ret
        exact ⟨ret_int hr.out.symm, rfl⟩
      · have hb : ((s[k].toNat : Int) == 32) = false := by rw [byte32]; simp [hc]
        have hr : Hid (32 ∉ s.data.toList.take (k + 1)) := nomem_step s k hlt ha.out hc
        clear hc
        go_wp2
        go_round
        case rel => exact ⟨k + 1, by omega, by go_num, hr⟩
        case measure => simp [intOf]; omega
    · have hr : Hid (Lib.indexByte s.data.toList 32 = -1) := idx_notmem _ (nomem_end s k hlt ha.out)
      go_wp2
      go_ret
      exact ⟨ret_int hr.out.symm, rfl⟩

set_option maxHeartbeats 1000000 in
theorem countSpaces_calls (s : ByteArray) (w : World) (hs : s.size ≤ maxLen) :
    Calls Try.prog 15 #[.string s] w fun e w' => e = .returned (.int .i64 (cntS s : Int)) ∧ w' = w := by
  unfold maxLen at hs
  go_enter Try.func15, Try.ntmps15
  go_wp2
  go_loop [3, 4] (fun n i => ∃ k m : Nat, k ≤ s.size ∧ i = .int .i64 k ∧ n = .int .i64 m ∧ m ≤ k ∧ Hid ((s.data.toList.take k).count 32 = m)) (fun _ i => s.size - (intOf i).toNat)
  case atStart => exact ⟨0, 0, Nat.zero_le _, rfl, rfl, Nat.le_refl _, rfl⟩
  case round =>
    obtain ⟨k, m, hk, rfl, rfl, hm, ha⟩ := hrel
    by_cases hlt : k < s.size
    · by_cases hc : s[k] = 32
      · have hb : ((s[k].toNat : Int) == 32) = true := by rw [byte32]; simp [hc]
        have hr : Hid ((s.data.toList.take (k + 1)).count 32 = m + 1) := by
          show (s.data.toList.take (k + 1)).count 32 = m + 1
          rw [cnt_step1 s k hlt hc, ha.out]
        clear hc
        go_wp2
        go_round
        case rel => exact ⟨k + 1, m + 1, by omega, by go_num, by go_num, by omega, hr⟩
        case measure => simp [intOf]; omega
      · have hb : ((s[k].toNat : Int) == 32) = false := by rw [byte32]; simp [hc]
        have hr : Hid ((s.data.toList.take (k + 1)).count 32 = m) := by
          show (s.data.toList.take (k + 1)).count 32 = m
          rw [cnt_step0 s k hlt hc, ha.out]
        clear hc
        go_wp2
        go_round
        case rel => exact ⟨k + 1, m, by omega, by go_num, rfl, by omega, hr⟩
        case measure => simp [intOf]; omega
    · have hr : Hid (cntS s = m) := by
        have h := ha.out
        show s.data.toList.count 32 = m
        rwa [List.take_of_length_le (by simp; omega)] at h
      go_wp2
      go_ret
      exact ⟨ret_int (by rw [hr.out]), rfl⟩

set_option maxRecDepth 100000 in
set_option maxHeartbeats 1000000 in
theorem index_calls (s : ByteArray) (w : World) :
    Calls Try.prog 32 #[.string s, .string ⟨#[32]⟩] w fun e w' => e = .returned (.int .i64 (Lib.indexByte s.data.toList 32)) ∧ w' = w := by
  go_enter Try.func32, Try.ntmps32
  go_wp2_with (go_at_call 33; refine (idxByte33_calls _ _ _).mono ?_; rintro e w' ⟨rfl, rfl⟩)
  · have hq : ([32] == s.toList) = true := by assumption
    have e : s.data.toList = [32] := by
      rw [← ByteArray.toList_eq]; exact (beq_iff_eq.1 hq).symm
    go_ret
    exact ⟨ret_int (by rw [e]; rfl), rfl⟩
  · go_ret
    exact ⟨rfl, rfl⟩

theorem index_at (s : ByteArray) (k : Int) (hi : Lib.indexByte s.data.toList 32 = k) (w : World) :
    Calls Try.prog 32 #[.string s, .string ⟨#[32]⟩] w fun e w' => e = .returned (.int .i64 k) ∧ w' = w := by
  have := index_calls s w
  rwa [hi] at this

set_option maxHeartbeats 1000000 in
theorem cut27_some (s : ByteArray) (k : Nat) (hk : k < s.size) (hs : s.size ≤ maxLen) (hi : Hid (Lib.indexByte s.data.toList 32 = (k : Int))) (w : World) :
    Calls Try.prog 27 #[.string s, .string ⟨#[32]⟩] w fun e w' => e = .returned (.tuple #[.string (s.extract 0 k), .string (s.extract (k + 1) s.size), .bool true]) ∧ ∃ n, w' = w.drewN n := by
  unfold maxLen at hs
  have hk0 : (0 : Int) ≤ (k : Int) := by omega
  have hk1 : (k : Int) ≤ (s.size : Int) := by omega
  have hk2 : (k : Int) + 1 ≤ (s.size : Int) := by omega
  have hw : IntKind.i64.wrap ((k : Int) + 1) = (k : Int) + 1 := wrap_small _ (by omega) (by omega)
  go_enter Try.func27, Try.ntmps27
  go_wp2_with (go_at_call 32; refine (index_at _ _ hi.out _).mono ?_; rintro e w' ⟨rfl, rfl⟩)
  go_quiet (fail)
  go_wp2
  go_ret3
  exact ⟨rfl, _, rfl⟩

set_option maxHeartbeats 1000000 in
theorem cut27_none (s : ByteArray) (hi : Hid (Lib.indexByte s.data.toList 32 = -1)) (w : World) :
    Calls Try.prog 27 #[.string s, .string ⟨#[32]⟩] w fun e w' => e = .returned (.tuple #[.string s, .string ⟨#[]⟩, .bool false]) ∧ w' = w := by
  go_enter Try.func27, Try.ntmps27
  go_wp2_with (go_at_call 32; refine (index_at _ _ hi.out _).mono ?_; rintro e w' ⟨rfl, rfl⟩)
  go_ret3
  exact ⟨rfl, rfl⟩

set_option maxHeartbeats 1000000 in
theorem cut_some (s : ByteArray) (k : Nat) (hk : k < s.size) (hs : s.size ≤ maxLen) (hi : Hid (Lib.indexByte s.data.toList 32 = (k : Int))) (w : World) :
    Calls Try.prog 25 #[.string s, .string ⟨#[32]⟩] w fun e w' => e = .returned (.tuple #[.string (s.extract 0 k), .string (s.extract (k + 1) s.size), .bool true]) ∧ ∃ n, w' = w.drewN n := by
  go_enter Try.func25, Try.ntmps25
  go_wp2_with (go_at_call 27; refine (cut27_some _ k hk hs hi _).mono ?_; rintro e w' ⟨rfl, n, rfl⟩)
  go_ret3
  exact ⟨rfl, _, rfl⟩

set_option maxHeartbeats 1000000 in
theorem cut_none (s : ByteArray) (hi : Hid (Lib.indexByte s.data.toList 32 = -1)) (w : World) :
    Calls Try.prog 25 #[.string s, .string ⟨#[32]⟩] w fun e w' => e = .returned (.tuple #[.string s, .string ⟨#[]⟩, .bool false]) ∧ w' = w := by
  go_enter Try.func25, Try.ntmps25
  go_wp2_with (go_at_call 27; refine (cut27_none _ hi _).mono ?_; rintro e w' ⟨rfl, rfl⟩)
  go_ret3
  exact ⟨rfl, rfl⟩

theorem results_tmp4 {fn : Func} {t u v x : Tmp} (h : fn.results = #[.tmp t, .tmp u, .tmp v, .tmp x]) (tmps : Array Value) (P : Program) (w : World) :
    (results fn tmps).run P w = .ok (.tuple #[tmps.getD t undef, tmps.getD u undef, tmps.getD v undef, tmps.getD x undef]) w := by
  simp [results, h]

theorem idx_empty : Hid (Lib.indexByte (ByteArray.mk #[]).data.toList 32 = -1) := (by rfl : Lib.indexByte (ByteArray.mk #[]).data.toList 32 = -1)

theorem ext_sz (s : ByteArray) (a b : Nat) : (s.extract a b).size ≤ s.size := by
  rw [sz_list, sz_list s, ext_list, List.length_drop, List.length_take]
  omega

/-- what a cut at the first space gives, said of bytes -/
def IsCut (s m r : ByteArray) : Prop := s.data.toList = m.data.toList ++ 32 :: r.data.toList ∧ 32 ∉ m.data.toList

theorem IsCut.sizes {s m r : ByteArray} (h : IsCut s m r) : s.size = m.size + r.size + 1 := by
  rw [sz_list s, sz_list m, sz_list r, h.1]; simp; omega

theorem cut_yes {s m r : ByteArray} (h : IsCut s m r) (hs : s.size ≤ maxLen) (w : World) :
    Calls Try.prog 25 #[.string s, .string ⟨#[32]⟩] w fun e w' => e = .returned (.tuple #[.string m, .string r, .bool true]) ∧ ∃ n, w' = w.drewN n := by
  have hz := h.sizes
  obtain ⟨h1, h2⟩ := h
  have hi : Lib.indexByte s.data.toList 32 = ((m.data.toList.length : Nat) : Int) := by rw [h1]; exact idx_app _ _ h2
  have := cut_some s m.data.toList.length (by rw [← sz_list]; omega) hs hi w
  have em : s.extract 0 m.data.toList.length = m := ba_ext (ext_head h1)
  have er : s.extract (m.data.toList.length + 1) s.size = r := ba_ext (ext_rest h1)
  rwa [em, er] at this

theorem cut_no {s : ByteArray} (h : 32 ∉ s.data.toList) (w : World) :
    Calls Try.prog 25 #[.string s, .string ⟨#[32]⟩] w fun e w' => e = .returned (.tuple #[.string s, .string ⟨#[]⟩, .bool false]) ∧ w' = w :=
  cut_none s (idx_notmem _ h) w

theorem cut_or (s : ByteArray) : 32 ∉ s.data.toList ∨ ∃ m r, IsCut s m r := by
  rcases idx_cases s.data.toList with ⟨_, h⟩ | ⟨a, b, h, ha, _⟩
  · exact .inl h
  · exact .inr ⟨⟨a.toArray⟩, ⟨b.toArray⟩, by simpa using h, by simpa using ha⟩

set_option maxHeartbeats 1000000 in
/-- no space -/
theorem split_a (s : ByteArray) (hi : Hid (32 ∉ s.data.toList)) (w : World) :
    Calls Try.prog 22 #[.string s] w fun e w' => e = .returned (.tuple #[.string s, .string ⟨#[]⟩, .string ⟨#[]⟩, .bool false]) ∧ ∃ n, w' = w.drewN n := by
  go_enter Try.func22, Try.ntmps22
  go_wp2_with fail
  refine (cut_no hi.out _).mono ?_
  rintro e w' ⟨rfl, rfl⟩
  go_wp2_with fail
  refine (cut_none _ idx_empty _).mono ?_
  rintro e w' ⟨rfl, rfl⟩
  go_wp2_with fail
  refine bodyPost_ret (results_tmp4 rfl _ _ _) rfl ?_
  exact ⟨rfl, 0, rfl⟩

set_option maxHeartbeats 1000000 in
/-- one space -/
theorem split_b (s m r : ByteArray) (hs : s.size ≤ maxLen) (hi : Hid (IsCut s m r)) (hj : Hid (32 ∉ r.data.toList)) (w : World) :
    Calls Try.prog 22 #[.string s] w fun e w' => e = .returned (.tuple #[.string m, .string r, .string ⟨#[]⟩, .bool false]) ∧ ∃ n, w' = w.drewN n := by
  go_enter Try.func22, Try.ntmps22
  go_wp2_with fail
  refine (cut_yes hi.out hs _).mono ?_
  rintro e w' ⟨rfl, n, rfl⟩
  go_wp2_with fail
  refine (cut_no hj.out _).mono ?_
  rintro e w' ⟨rfl, rfl⟩
  go_wp2_with fail
  refine bodyPost_ret (results_tmp4 rfl _ _ _) rfl ?_
  exact ⟨rfl, _, rfl⟩

set_option maxHeartbeats 1000000 in
/-- two spaces or more -/
theorem split_c (s m r t p : ByteArray) (hs : s.size ≤ maxLen) (hi : Hid (IsCut s m r)) (hj : Hid (IsCut r t p)) (w : World) :
    Calls Try.prog 22 #[.string s] w fun e w' => e = .returned (.tuple #[.string m, .string t, .string p, .bool (tokB m)]) ∧ ∃ n, w' = w.drewN n := by
  have hz := hi.out.sizes
  have hs1 : m.size ≤ maxLen := by omega
  have hs2 : r.size ≤ maxLen := by omega
  clear hz
  go_enter Try.func22, Try.ntmps22
  go_wp2_with fail
  refine (cut_yes hi.out hs _).mono ?_
  rintro e w' ⟨rfl, n, rfl⟩
  go_wp2_with fail
  refine (cut_yes hj.out hs2 _).mono ?_
  rintro e w' ⟨rfl, n2, rfl⟩
  go_wp2_with fail
  refine (isToken_calls _ _ hs1).mono ?_
  rintro e w' ⟨rfl, m2, rfl⟩
  go_wp2_with fail
  refine bodyPost_ret (results_tmp4 rfl _ _ _) rfl ?_
  exact ⟨rfl, _, rfl⟩

set_option maxHeartbeats 1000000 in
theorem zzSplit_calls (s : ByteArray) (m t p : ByteArray) (ok : Bool) (w : World)
    (h : Calls Try.prog 22 #[.string s] w fun e w' => e = .returned (.tuple #[.string m, .string t, .string p, .bool ok]) ∧ ∃ n, w' = w.drewN n) :
    Calls Try.prog 14 #[.string s] w fun e w' => e = .returned (.tuple #[.string m, .string t, .string p, .bool ok]) ∧ ∃ n, w' = w.drewN n := by
  have H : Hid (Calls Try.prog 22 #[.string s] w fun e w' => e = .returned (.tuple #[.string m, .string t, .string p, .bool ok]) ∧ ∃ n, w' = w.drewN n) := h
  clear h
  go_enter Try.func14, Try.ntmps14
  go_wp2_with fail
  refine (H.out).mono ?_
  rintro e w' ⟨rfl, n, rfl⟩
  go_wp2_with fail
  refine bodyPost_ret (results_tmp4 rfl _ _ _) rfl ?_
  exact ⟨rfl, _, rfl⟩

end Go.Proofs.Qxb6003735a
