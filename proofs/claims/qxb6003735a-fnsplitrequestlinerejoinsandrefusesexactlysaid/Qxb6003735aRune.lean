/-
  strings.IndexByte (28, 33), strings.IndexRune (26), strings.ContainsRune (24): at an ASCII string that is a constant.
-/
import Derived.Test.Qxb6003735aLeaf
import Derived.Lib.Bytealg
import Derived.Deep.QuietTactic
import Derived.BigQuiet
import Derived.WalkMore
namespace Go.Proofs.Qxb6003735a
open Go.RowKit
set_option linter.unusedSimpArgs false
set_option linter.unusedVariables false

set_option maxHeartbeats 1000000 in
theorem idxByte33_calls (s : ByteArray) (c : Int) (w : World) :
    Calls Try.prog 33 #[.string s, .int .u8 c] w fun e w' => e = .returned (.int .i64 (Lib.indexByte s.data.toList c.toNat.toUInt8)) ∧ w' = w := by
  go_enter Try.func33, Try.ntmps33
  go_wp2
  rw [run_callFunc_extern Try.func35 (by kernel_rfl) (by kernel_rfl) (by kernel_rfl) (e := Extern.BytealgIndexByte.indexByte) (by kernel_rfl), Lib.run_indexByteString]
  simp only [Result.andThen]
  rw [Oper.upon_value]
  go_wp2
  go_ret
  exact ⟨rfl, rfl⟩

set_option maxHeartbeats 1000000 in
theorem idxByte28_calls (s : ByteArray) (c : Int) (w : World) :
    Calls Try.prog 28 #[.string s, .int .u8 c] w fun e w' => e = .returned (.int .i64 (Lib.indexByte s.data.toList c.toNat.toUInt8)) ∧ w' = w := by
  go_enter Try.func28, Try.ntmps28
  go_wp2_with (go_at_call 33; refine (idxByte33_calls _ _ _).mono ?_; rintro e w' ⟨rfl, rfl⟩)
  go_ret
  exact ⟨rfl, rfl⟩

set_option maxRecDepth 100000 in
set_option maxHeartbeats 1000000 in
theorem idxRune_ascii (s : ByteArray) (c : Int) (h0 : 0 ≤ c) (h1 : c < 128) (w : World) :
    Calls Try.prog 26 #[.string s, .int .i32 c] w fun e w' => e = .returned (.int .i64 (Lib.indexByte s.data.toList c.toNat.toUInt8)) ∧ w' = w := by
  have hw8 : IntKind.u8.wrap c = c := by
    unfold IntKind.wrap; simp [IntKind.bits, IntKind.signed]; omega
  go_enter Try.func26, Try.ntmps26
  go_wp2_with (go_at_call 28; refine (idxByte28_calls _ _ _).mono ?_; rintro e w' ⟨rfl, rfl⟩)
  go_ret
  exact ⟨rfl, rfl⟩

theorem enc_two (c : Int) (h0 : 128 ≤ c) (h1 : c < 256) : (Utf8.encode c).size = 2 ∧ ∀ h : 1 < (Utf8.encode c).size, 128 ≤ ((Utf8.encode c)[1]'h).toNat := by
  have hv : Utf8.valid c = true := by rw [validRune_eq]; simp [validRune]; omega
  have hc : ¬ c.toNat < 128 := by omega
  have h2 : c.toNat < 2048 := by omega
  unfold Utf8.encode
  simp only [hv, if_true, hc, if_false, h2]
  refine ⟨rfl, fun _ => ?_⟩
  show 128 ≤ (UInt8.ofNat (128 + c.toNat % 64)).toNat
  simp; omega

theorem indexByte_none : ∀ (l : List UInt8) (x : UInt8), (∀ b ∈ l, b.toNat < 128) → 128 ≤ x.toNat → Lib.indexByte l x = -1
  | [], _, _, _ => rfl
  | b :: l, x, h, hx => by
    have ih := indexByte_none l x (fun b hb => h b (List.mem_cons_of_mem _ hb)) hx
    have hb := h b List.mem_cons_self
    have hne : (b == x) = false := by
      rw [beq_eq_false_iff_ne]; intro e; rw [e] at hb; omega
    unfold Lib.indexByte
    rw [hne, ih]; rfl

theorem idxByte28_none (s : ByteArray) (c : Int) (w : World) (hs : ∀ b ∈ s.data.toList, b.toNat < 128) (h0 : 128 ≤ c) (h1 : c < 256) :
    Calls Try.prog 28 #[.string s, .int .u8 c] w fun e w' => e = .returned (.int .i64 (-1)) ∧ w' = w := by
  refine (idxByte28_calls s c w).mono ?_
  rintro e w' ⟨rfl, rfl⟩
  refine ⟨?_, rfl⟩
  rw [indexByte_none _ _ hs (by
    have : (c.toNat.toUInt8).toNat = c.toNat % 256 := by simp
    rw [this]; omega)]

theorem mem_ext {s : ByteArray} {a e : Nat} (hs : ∀ b ∈ s.data.toList, b.toNat < 128) : ∀ b ∈ (s.extract a e).data.toList, b.toNat < 128 :=
  fun b hb => hs b (mem_extract hb)

set_option maxRecDepth 100000 in
set_option maxHeartbeats 1000000 in
theorem idxRune_high (s : ByteArray) (hs2 : 2 ≤ s.size) (hsm : s.size ≤ 1000) (hs : ∀ b ∈ s.data.toList, b.toNat < 128) (c : Int) (h0 : 128 ≤ c) (h1 : c < 256) (w : World) :
    Calls Try.prog 26 #[.string s, .int .i32 c] w fun e w' => e = .returned (.int .i64 (-1)) ∧ ∃ n, w' = w.drewN n := by
  obtain ⟨hz, hb⟩ := enc_two c h0 h1
  have hl : 1 < s.size := by omega
  have hx : (s[1]'hl).toNat < 128 := hs _ (Array.getElem_mem_toList (xs := s.data) hl)
  have hl2 : 1 < (Utf8.encode c).size := by omega
  have hbb := hb hl2
  have hbt : ((Utf8.encode c)[1]'hl2).toNat < 256 := UInt8.toNat_lt _
  have HS : Hid (∀ b ∈ s.data.toList, b.toNat < 128) := hs
  clear hs hb
  have hw2 : IntKind.i64.wrap 2 = 2 := by decide
  have hi2 : (2 : Int) ≤ (s.size : Int) := by omega
  go_enter Try.func26, Try.ntmps26
  go_wp2_with (go_in)
  go_step3
  go_wp2
  refine wp_loop_rounds 1 ?_
  rw [rounds_succ]
  go_wp2
  go_step3
  go_wp2
  go_quiet (fail)
  go_wp2
  go_quiet ((go_at_call 28; refine (idxByte28_none _ _ _ (mem_ext HS.out) (by omega) (by omega)).mono ?_; rintro e w' ⟨rfl, rfl⟩; exact ⟨rfl, _, rfl⟩))
  go_wp2
  rw [Exit.noGoto_ret]
  go_wp2
  rw [Exit.noGoto_ret]
  go_wp2
  go_ret
  exact ⟨rfl, _, rfl⟩

def setB (s : ByteArray) (c : Int) : Bool := decide (0 ≤ Lib.indexByte s.data.toList c.toNat.toUInt8)

theorem idxRune_calls (s : ByteArray) (hs2 : 2 ≤ s.size) (hsm : s.size ≤ 1000) (hs : ∀ b ∈ s.data.toList, b.toNat < 128) (c : Int) (h0 : 0 ≤ c) (h1 : c < 256) (w : World) :
    Calls Try.prog 26 #[.string s, .int .i32 c] w fun e w' => e = .returned (.int .i64 (Lib.indexByte s.data.toList c.toNat.toUInt8)) ∧ ∃ n, w' = w.drewN n := by
  by_cases hc : c < 128
  · refine (idxRune_ascii s c h0 hc w).mono ?_
    rintro e w' ⟨rfl, rfl⟩
    exact ⟨rfl, 0, rfl⟩
  · refine (idxRune_high s hs2 hsm hs c (by omega) h1 w).mono ?_
    rintro e w' ⟨rfl, hn⟩
    refine ⟨?_, hn⟩
    rw [indexByte_none _ _ hs (by
      have : (c.toNat.toUInt8).toNat = c.toNat % 256 := by simp
      rw [this]; omega)]

set_option maxHeartbeats 1000000 in
theorem contRune_calls (s : ByteArray) (hs2 : 2 ≤ s.size) (hsm : s.size ≤ 1000) (hs : ∀ b ∈ s.data.toList, b.toNat < 128) (c : Int) (h0 : 0 ≤ c) (h1 : c < 256) (w : World) :
    Calls Try.prog 24 #[.string s, .int .i32 c] w fun e w' => e = .returned (.bool (setB s c)) ∧ ∃ n, w' = w.drewN n := by
  have HS : Hid (∀ b ∈ s.data.toList, b.toNat < 128) := hs
  clear hs
  go_enter Try.func24, Try.ntmps24
  go_wp2_with (go_at_call 26; refine (idxRune_calls _ hs2 hsm HS.out _ h0 h1 _).mono ?_; rintro e w' ⟨rfl, n, rfl⟩)
  go_ret
  exact ⟨ret_bool rfl, _, rfl⟩

def tokSet : ByteArray := ⟨#[33, 35, 36, 37, 38, 39, 42, 43, 45, 46, 94, 95, 96, 124, 126]⟩
def hostSet : ByteArray := ⟨#[45, 46, 95, 126, 33, 36, 38, 39, 40, 41, 42, 43, 44, 59, 61, 37, 58, 91, 93]⟩

theorem tok_law0 : ∀ n : Fin 256, (alnumB (n.val : Int) || setB tokSet (n.val : Int)) = tcharB (n.val : Int) := by decide +kernel
theorem host_law0 : ∀ n : Fin 256, (alnumB (n.val : Int) || setB hostSet (n.val : Int)) = hostByteB (n.val : Int) := by decide +kernel

theorem tok_law (c : Int) (h0 : 0 ≤ c) (h1 : c < 256) : (alnumB c || setB tokSet c) = tcharB c := by
  have := tok_law0 ⟨c.toNat, by omega⟩
  simpa [Int.toNat_of_nonneg h0] using this
theorem host_law (c : Int) (h0 : 0 ≤ c) (h1 : c < 256) : (alnumB c || setB hostSet c) = hostByteB c := by
  have := host_law0 ⟨c.toNat, by omega⟩
  simpa [Int.toNat_of_nonneg h0] using this

theorem contTok_calls (c : Int) (h0 : 0 ≤ c) (h1 : c < 256) (w : World) :
    Calls Try.prog 24 #[.string ⟨#[33, 35, 36, 37, 38, 39, 42, 43, 45, 46, 94, 95, 96, 124, 126]⟩, .int .i32 c] w fun e w' => e = .returned (.bool (setB tokSet c)) ∧ ∃ n, w' = w.drewN n :=
  contRune_calls tokSet (by decide) (by decide) (by decide) c h0 h1 w
theorem contHost_calls (c : Int) (h0 : 0 ≤ c) (h1 : c < 256) (w : World) :
    Calls Try.prog 24 #[.string ⟨#[45, 46, 95, 126, 33, 36, 38, 39, 40, 41, 42, 43, 44, 59, 61, 37, 58, 91, 93]⟩, .int .i32 c] w fun e w' => e = .returned (.bool (setB hostSet c)) ∧ ∃ n, w' = w.drewN n :=
  contRune_calls hostSet (by decide) (by decide) (by decide) c h0 h1 w

end Go.Proofs.Qxb6003735a
