/-
  tokenModel (9), hostModel (12), isToken (18), isHost (20), and their exported names (8, 11).
-/
import Derived.Test.Qxb6003735aRune
namespace Go.Proofs.Qxb6003735a
open Go.RowKit
set_option linter.unusedSimpArgs false
set_option linter.unusedVariables false

def allB (p : Int → Bool) (l : List UInt8) : Bool := l.all (fun c => p (c.toNat : Int))
def tokB (s : ByteArray) : Bool := allB tcharB s.data.toList && decide (0 < s.size)
def hostB (s : ByteArray) : Bool := allB hostByteB s.data.toList

theorem take_snoc (s : ByteArray) (k : Nat) (h : k < s.size) : s.data.toList.take (k + 1) = s.data.toList.take k ++ [s[k]] := by
  rw [List.take_succ_eq_append_getElem (by simpa using h)]; rfl

theorem all_step (p : Int → Bool) (s : ByteArray) (k : Nat) (h : k < s.size) (ha : allB p (s.data.toList.take k) = true) (hp : p (s[k].toNat : Int) = true) :
    allB p (s.data.toList.take (k + 1)) = true := by
  rw [take_snoc s k h]
  unfold allB at ha ⊢
  rw [List.all_append, ha]
  simpa using hp

theorem all_stop (p : Int → Bool) (s : ByteArray) (k : Nat) (h : k < s.size) (hp : p (s[k].toNat : Int) = false) :
    allB p s.data.toList = false := by
  unfold allB
  rw [List.all_eq_false]
  exact ⟨s[k], Array.getElem_mem_toList (xs := s.data) h, by simp [hp]⟩

theorem all_end (p : Int → Bool) (s : ByteArray) (k : Nat) (h : ¬ k < s.size) (ha : allB p (s.data.toList.take k) = true) :
    allB p s.data.toList = true := by
  rwa [List.take_of_length_le (by simp; omega)] at ha

theorem isEmpty_eq (s : ByteArray) : (!s.toList.isEmpty) = decide (0 < s.size) := by
  rw [ByteArray.toList_eq]
  have h : s.size = s.data.toList.length := by simp
  rw [h]
  cases s.data.toList <;> simp

theorem byte_bd (s : ByteArray) (k : Nat) (h : k < s.size) : (0 : Int) ≤ (s[k].toNat : Int) ∧ (s[k].toNat : Int) < 256 := by
  have := UInt8.toNat_lt s[k]
  omega

set_option maxHeartbeats 1000000 in
theorem tokenModel_calls (s : ByteArray) (w : World) (hs : s.size ≤ maxLen) :
    Calls Try.prog 9 #[.string s] w fun e w' => e = .returned (.bool (tokB s)) ∧ w' = w := by
  unfold maxLen at hs
  by_cases hz : s.size = 0
  · have hz' : ((s.size : Int) == 0) = true := by simp [hz]
    have hr : Hid (tokB s = false) := by show tokB s = false; simp [tokB, hz]
    clear hz
    go_enter Try.func9, Try.ntmps9
    go_wp2
    go_ret
    exact ⟨ret_bool hr.out.symm, rfl⟩
  · have hz' : ((s.size : Int) == 0) = false := beq_eq_false_iff_ne.2 (by omega)
    have hp : 0 < s.size := by omega
    clear hz
    go_enter Try.func9, Try.ntmps9
    go_wp2
    go_loop [3] (fun i => ∃ k : Nat, k ≤ s.size ∧ i = .int .i64 k ∧ Hid (allB tcharB (s.data.toList.take k) = true)) (fun i => s.size - (intOf i).toNat)
    case atStart => exact ⟨0, Nat.zero_le _, rfl, rfl⟩
    case round =>
      obtain ⟨k, hk, rfl, ha⟩ := hrel
      by_cases hlt : k < s.size
      · cases hb : tcharB (s[k].toNat : Int)
        · have hr : Hid (tokB s = false) := by show tokB s = false; simp [tokB, all_stop tcharB s k hlt hb]
          go_wp2_with (go_at_call 19; refine (tchar_calls _ _).mono ?_; rintro e w' ⟨rfl, rfl⟩)
          go_ret
          exact ⟨ret_bool hr.out.symm, rfl⟩
        · have hr : Hid (allB tcharB (s.data.toList.take (k + 1)) = true) := all_step tcharB s k hlt ha.out hb
          go_wp2_with (go_at_call 19; refine (tchar_calls _ _).mono ?_; rintro e w' ⟨rfl, rfl⟩)
          go_round
          case rel => exact ⟨k + 1, by omega, by go_num, hr⟩
          case measure => simp [intOf]; omega
      · have hr : Hid (tokB s = true) := by show tokB s = true; simp [tokB, all_end tcharB s k hlt ha.out, hp]
        go_wp2
        go_ret
        exact ⟨ret_bool hr.out.symm, rfl⟩

set_option maxHeartbeats 1000000 in
theorem hostModel_calls (s : ByteArray) (w : World) (hs : s.size ≤ maxLen) :
    Calls Try.prog 12 #[.string s] w fun e w' => e = .returned (.bool (hostB s)) ∧ w' = w := by
  unfold maxLen at hs
  go_enter Try.func12, Try.ntmps12
  go_wp2
  go_loop [3] (fun i => ∃ k : Nat, k ≤ s.size ∧ i = .int .i64 k ∧ Hid (allB hostByteB (s.data.toList.take k) = true)) (fun i => s.size - (intOf i).toNat)
  case atStart => exact ⟨0, Nat.zero_le _, rfl, rfl⟩
  case round =>
    obtain ⟨k, hk, rfl, ha⟩ := hrel
    by_cases hlt : k < s.size
    · cases hb : hostByteB (s[k].toNat : Int)
      · have hr : Hid (hostB s = false) := all_stop hostByteB s k hlt hb
        go_wp2_with (go_at_call 21; refine (hostByte_calls _ _).mono ?_; rintro e w' ⟨rfl, rfl⟩)
        go_ret
        exact ⟨ret_bool hr.out.symm, rfl⟩
      · have hr : Hid (allB hostByteB (s.data.toList.take (k + 1)) = true) := all_step hostByteB s k hlt ha.out hb
        go_wp2_with (go_at_call 21; refine (hostByte_calls _ _).mono ?_; rintro e w' ⟨rfl, rfl⟩)
        go_round
        case rel => exact ⟨k + 1, by omega, by go_num, hr⟩
        case measure => simp [intOf]; omega
    · have hr : Hid (hostB s = true) := all_end hostByteB s k hlt ha.out
      go_wp2
      go_ret
      exact ⟨ret_bool hr.out.symm, rfl⟩

set_option maxHeartbeats 1000000 in
theorem isHost_calls (s : ByteArray) (w : World) (hs : s.size ≤ maxLen) :
    Calls Try.prog 20 #[.string s] w fun e w' => e = .returned (.bool (hostB s)) ∧ ∃ n, w' = w.drewN n := by
  unfold maxLen at hs
  go_enter Try.func20, Try.ntmps20
  go_wp2
  go_loopw [3] (fun i wr => ∃ k n : Nat, k ≤ s.size ∧ i = .int .i64 k ∧ wr = w.drewN n ∧ Hid (allB hostByteB (s.data.toList.take k) = true)) (fun i _ => s.size - (intOf i).toNat)
  case atStart => exact ⟨0, 0, Nat.zero_le _, rfl, rfl, rfl⟩
  case round =>
    obtain ⟨k, n, hk, rfl, rfl, ha⟩ := hrel
    by_cases hlt : k < s.size
    · have hbd := byte_bd s k hlt
      have hlaw := host_law _ hbd.1 hbd.2
      cases ha1 : alnumB (s[k].toNat : Int)
      · cases ha2 : setB hostSet (s[k].toNat : Int)
        · have hb : hostByteB (s[k].toNat : Int) = false := by rw [← hlaw, ha1, ha2]; rfl
          have hr : Hid (hostB s = false) := all_stop hostByteB s k hlt hb
          clear hlaw hb
          go_wp2_with (first | (go_at_call 23; refine (alnum_calls _ _).mono ?_; rintro e w' ⟨rfl, rfl⟩) | (go_at_call 24; refine (contHost_calls _ hbd.1 hbd.2 _).mono ?_; rintro e w' ⟨rfl, m, rfl⟩))
          go_ret
          exact ⟨ret_bool hr.out.symm, _, rfl⟩
        · have hb : hostByteB (s[k].toNat : Int) = true := by rw [← hlaw, ha1, ha2]; rfl
          have hr : Hid (allB hostByteB (s.data.toList.take (k + 1)) = true) := all_step hostByteB s k hlt ha.out hb
          clear hlaw hb
          go_wp2_with (first | (go_at_call 23; refine (alnum_calls _ _).mono ?_; rintro e w' ⟨rfl, rfl⟩) | (go_at_call 24; refine (contHost_calls _ hbd.1 hbd.2 _).mono ?_; rintro e w' ⟨rfl, m, rfl⟩))
          go_roundw
          case rel => exact ⟨k + 1, _, by omega, by go_num, rfl, hr⟩
          case measure => simp [intOf]; omega
      · have hb : hostByteB (s[k].toNat : Int) = true := by rw [← hlaw, ha1]; rfl
        have hr : Hid (allB hostByteB (s.data.toList.take (k + 1)) = true) := all_step hostByteB s k hlt ha.out hb
        clear hlaw hb
        go_wp2_with (first | (go_at_call 23; refine (alnum_calls _ _).mono ?_; rintro e w' ⟨rfl, rfl⟩) | (go_at_call 24; refine (contHost_calls _ hbd.1 hbd.2 _).mono ?_; rintro e w' ⟨rfl, m, rfl⟩))
        go_roundw
        case rel => exact ⟨k + 1, _, by omega, by go_num, rfl, hr⟩
        case measure => simp [intOf]; omega
    · have hr : Hid (hostB s = true) := all_end hostByteB s k hlt ha.out
      go_wp2
      go_ret
      exact ⟨ret_bool hr.out.symm, _, rfl⟩

set_option maxHeartbeats 1000000 in
theorem isToken_calls (s : ByteArray) (w : World) (hs : s.size ≤ maxLen) :
    Calls Try.prog 18 #[.string s] w fun e w' => e = .returned (.bool (tokB s)) ∧ ∃ n, w' = w.drewN n := by
  unfold maxLen at hs
  go_enter Try.func18, Try.ntmps18
  go_wp2
  go_loopw [3] (fun i wr => ∃ k n : Nat, k ≤ s.size ∧ i = .int .i64 k ∧ wr = w.drewN n ∧ Hid (allB tcharB (s.data.toList.take k) = true)) (fun i _ => s.size - (intOf i).toNat)
  case atStart => exact ⟨0, 0, Nat.zero_le _, rfl, rfl, rfl⟩
  case round =>
    obtain ⟨k, n, hk, rfl, rfl, ha⟩ := hrel
    by_cases hlt : k < s.size
    · have hbd := byte_bd s k hlt
      have hlaw := tok_law _ hbd.1 hbd.2
      cases ha1 : alnumB (s[k].toNat : Int)
      · cases ha2 : setB tokSet (s[k].toNat : Int)
        · have hb : tcharB (s[k].toNat : Int) = false := by rw [← hlaw, ha1, ha2]; rfl
          have hr : Hid (tokB s = false) := by show tokB s = false; simp [tokB, all_stop tcharB s k hlt hb]
          clear hlaw hb
          go_wp2_with (first | (go_at_call 23; refine (alnum_calls _ _).mono ?_; rintro e w' ⟨rfl, rfl⟩) | (go_at_call 24; refine (contTok_calls _ hbd.1 hbd.2 _).mono ?_; rintro e w' ⟨rfl, m, rfl⟩))
          go_ret
          exact ⟨ret_bool hr.out.symm, _, rfl⟩
        · have hb : tcharB (s[k].toNat : Int) = true := by rw [← hlaw, ha1, ha2]; rfl
          have hr : Hid (allB tcharB (s.data.toList.take (k + 1)) = true) := all_step tcharB s k hlt ha.out hb
          clear hlaw hb
          go_wp2_with (first | (go_at_call 23; refine (alnum_calls _ _).mono ?_; rintro e w' ⟨rfl, rfl⟩) | (go_at_call 24; refine (contTok_calls _ hbd.1 hbd.2 _).mono ?_; rintro e w' ⟨rfl, m, rfl⟩))
          go_roundw
          case rel => exact ⟨k + 1, _, by omega, by go_num, rfl, hr⟩
          case measure => simp [intOf]; omega
      · have hb : tcharB (s[k].toNat : Int) = true := by rw [← hlaw, ha1]; rfl
        have hr : Hid (allB tcharB (s.data.toList.take (k + 1)) = true) := all_step tcharB s k hlt ha.out hb
        clear hlaw hb
        go_wp2_with (first | (go_at_call 23; refine (alnum_calls _ _).mono ?_; rintro e w' ⟨rfl, rfl⟩) | (go_at_call 24; refine (contTok_calls _ hbd.1 hbd.2 _).mono ?_; rintro e w' ⟨rfl, m, rfl⟩))
        go_roundw
        case rel => exact ⟨k + 1, _, by omega, by go_num, rfl, hr⟩
        case measure => simp [intOf]; omega
    · have hr : Hid (allB tcharB s.data.toList = true) := all_end tcharB s k hlt ha.out
      go_wp2
      go_ret
      refine ⟨ret_bool ?_, _, rfl⟩
      rw [isEmpty_eq]
      unfold tokB
      rw [hr.out, Bool.true_and]

set_option maxHeartbeats 1000000 in
theorem zzIsToken_calls (s : ByteArray) (w : World) (hs : s.size ≤ maxLen) :
    Calls Try.prog 8 #[.string s] w fun e w' => e = .returned (.bool (tokB s)) ∧ ∃ n, w' = w.drewN n := by
  go_enter Try.func8, Try.ntmps8
  go_wp2_with (go_at_call 18; refine (isToken_calls _ _ hs).mono ?_; rintro e w' ⟨rfl, n, rfl⟩)
  go_ret
  exact ⟨rfl, _, rfl⟩

set_option maxHeartbeats 1000000 in
theorem zzIsHost_calls (s : ByteArray) (w : World) (hs : s.size ≤ maxLen) :
    Calls Try.prog 11 #[.string s] w fun e w' => e = .returned (.bool (hostB s)) ∧ ∃ n, w' = w.drewN n := by
  go_enter Try.func11, Try.ntmps11
  go_wp2_with (go_at_call 20; refine (isHost_calls _ _ hs).mono ?_; rintro e w' ⟨rfl, n, rfl⟩)
  go_ret
  exact ⟨rfl, _, rfl⟩

end Go.Proofs.Qxb6003735a
