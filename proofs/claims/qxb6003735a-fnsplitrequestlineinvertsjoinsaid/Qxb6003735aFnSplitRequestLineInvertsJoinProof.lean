/-
  The proof of 'Rows.FnSplitRequestLineInvertsJoinSaid': the frame is the guide's template for this function; the walk is filled in.
-/
import Derived.Test.Qxb6003735aCut
import Derived.WalkKit
import Derived.ProofKit
import Derived.OpenShut
import Derived.ShutString
namespace Go.Proofs.Qxb6003735a.fnSplitRequestLineInvertsJoin
open Go.ChangeShapes Go.WideShapes Go.ChangeAt Go.RowKit
open Go.ChangeMaps (open_string shut_string)
set_option linter.unusedVariables false      -- a walk need not use every 'w<i>' (that an integer argument fits its kind)

theorem own : ownKnob Try.prog.godebug = none := by kernel_rfl

theorem grown_drewN (w : World) (n : Nat) : Grown w (w.drewN n) := Grown.refl w

theorem firstSpace_at (s : ByteArray) (v : Int) (w : World) (hs : s.size ≤ maxLen) (h : Lib.indexByte s.data.toList 32 = v) :
    Calls Try.prog 16 #[.string s] w fun e w' => e = .returned (.int .i64 v) ∧ w' = w := by
  have := firstSpace_calls s w hs
  rwa [h] at this

theorem idx_pos {l : List UInt8} (h : 32 ∈ l) : ∃ v : Int, 0 ≤ v ∧ Lib.indexByte l 32 = v := by
  rcases idx_cases l with ⟨_, hn⟩ | ⟨a, b, _, _, e⟩
  · exact absurd h hn
  · exact ⟨_, by omega, e⟩

theorem tok_nospace {s : ByteArray} (h : tokB s = true) : 32 ∉ s.data.toList := by
  intro hm
  have h1 : allB tcharB s.data.toList = true := by
    unfold tokB at h
    exact (Bool.and_eq_true_iff.1 h).1
  unfold allB at h1
  have := List.all_eq_true.1 h1 32 hm
  revert this
  decide

theorem app_list (a b : ByteArray) : (a ++ b).data.toList = a.data.toList ++ b.data.toList := by
  rw [ByteArray.data_append, Array.toList_append]

theorem join_cut (a b : ByteArray) (c : ByteArray) (h : 32 ∉ a.data.toList) : IsCut (a ++ ⟨#[32]⟩ ++ b ++ ⟨#[32]⟩ ++ c) a (b ++ ⟨#[32]⟩ ++ c) := by
  refine ⟨?_, h⟩
  simp only [app_list]
  simp

theorem join_cut2 (b c : ByteArray) (h : 32 ∉ b.data.toList) : IsCut (b ++ ⟨#[32]⟩ ++ c) b c := by
  refine ⟨?_, h⟩
  simp only [app_list]
  simp

theorem join_split (a b c : ByteArray) (hs : (a.size : Int) + (b.size : Int) + (c.size : Int) ≤ 1048576) (ht : tokB a = true) (hb : 32 ∉ b.data.toList) (w : World) :
    Calls Try.prog 22 #[.string (a ++ ⟨#[32]⟩ ++ b ++ ⟨#[32]⟩ ++ c)] w fun e w' => e = .returned (.tuple #[.string a, .string b, .string c, .bool true]) ∧ ∃ n, w' = w.drewN n := by
  have h1 := join_cut a b c (tok_nospace ht)
  have h2 := join_cut2 b c hb
  have hz1 := h1.sizes
  have hz2 := h2.sizes
  have := split_c _ a _ b c (by unfold maxLen; omega) h1 h2 w
  rwa [ht] at this

set_option maxHeartbeats 1000000 in
theorem bytes_big (a0 a1 a2 : ByteArray) (w : World) (w0 : a0.size ≤ maxLen) (w1 : a1.size ≤ maxLen) (w2 : a2.size ≤ maxLen) (h : (1048576 : Int) < (a0.size : Int) + (a1.size : Int) + (a2.size : Int)) :
    Calls Try.prog 17 #[.string a0, .string a1, .string a2] w fun e w' => e = .returned (.bool false) ∧ w' = w := by
  unfold maxLen at w0 w1 w2
  go_enter Try.func17, Try.ntmps17
  go_wp2
  all_goals
    go_ret
    exact ⟨rfl, rfl⟩

set_option maxHeartbeats 1000000 in
theorem bytes_small (a0 a1 a2 : ByteArray) (w : World) (h : (a0.size : Int) + (a1.size : Int) + (a2.size : Int) ≤ 1048576) :
    Calls Try.prog 17 #[.string a0, .string a1, .string a2] w fun e w' => e = .returned (.bool true) ∧ w' = w := by
  go_enter Try.func17, Try.ntmps17
  go_wp2
  go_ret
  exact ⟨rfl, rfl⟩

set_option maxHeartbeats 1000000 in
/-! ### STEP 1: THE WALK: the Go text returns true. 'Grown w w'': the world has at most new blocks (Derived/RowKit3.lean). Part the cases AHEAD of 'go_enter' where a test parts the walk; take each callee by a contract of your own. -/
theorem walk (a0 : ByteArray) (a1 : ByteArray) (a2 : ByteArray) (w0 : a0.size ≤ maxLen) (w1 : a1.size ≤ maxLen) (w2 : a2.size ≤ maxLen) (w : World) :
    Calls Try.prog 6 #[.string a0, .string a1, .string a2] w fun e w' => e = .returned (.bool true) ∧ Grown w w' := by
  have hm0 := w0
  have hm1 := w1
  have hm2 := w2
  unfold maxLen at hm0 hm1 hm2
  by_cases hbig : (1048576 : Int) < (a0.size : Int) + (a1.size : Int) + (a2.size : Int)
  · go_enter Try.func6, Try.ntmps6
    go_wp2_with fail
    refine (bytes_big a0 a1 a2 w w0 w1 w2 hbig).mono ?_
    rintro e w' ⟨rfl, rfl⟩
    go_wp2
    go_ret
    exact ⟨rfl, Grown.refl _⟩
  · have hsm : (a0.size : Int) + (a1.size : Int) + (a2.size : Int) ≤ 1048576 := by omega
    clear hbig
    cases ht : tokB a0
    · go_enter Try.func6, Try.ntmps6
      go_wp2_with (first | (go_at_call 17; refine (bytes_small a0 a1 a2 w hsm).mono ?_; rintro e w' ⟨rfl, rfl⟩) | (go_at_call 9; refine (tokenModel_calls _ _ w0).mono ?_; rintro e w' ⟨rfl, rfl⟩))
      go_ret
      exact ⟨rfl, Grown.refl _⟩
    · by_cases hsp : (32 : UInt8) ∈ a1.data.toList
      · obtain ⟨v, hv0, hv⟩ := idx_pos hsp
        have HV : Hid (Lib.indexByte a1.data.toList 32 = v) := hv
        clear hv hsp
        go_enter Try.func6, Try.ntmps6
        go_wp2_with (first | (go_at_call 17; refine (bytes_small a0 a1 a2 w hsm).mono ?_; rintro e w' ⟨rfl, rfl⟩) | (go_at_call 9; refine (tokenModel_calls _ _ w0).mono ?_; rintro e w' ⟨rfl, rfl⟩) | (go_at_call 16; refine (firstSpace_at _ _ _ w1 HV.out).mono ?_; rintro e w' ⟨rfl, rfl⟩))
        go_ret
        exact ⟨rfl, Grown.refl _⟩
      · have HV : Hid (Lib.indexByte a1.data.toList 32 = -1) := idx_notmem _ hsp
        have HN : Hid (32 ∉ a1.data.toList) := hsp
        have HT : Hid (tokB a0 = true) := ht
        clear hsp
        go_enter Try.func6, Try.ntmps6
        go_wp2_with (first | (go_at_call 17; refine (bytes_small a0 a1 a2 w hsm).mono ?_; rintro e w' ⟨rfl, rfl⟩) | (go_at_call 9; refine (tokenModel_calls _ _ w0).mono ?_; rintro e w' ⟨rfl, rfl⟩) | (go_at_call 16; refine (firstSpace_at _ _ _ w1 HV.out).mono ?_; rintro e w' ⟨rfl, rfl⟩))
        refine (zzSplit_calls _ a0 a1 a2 true _ (join_split a0 a1 a2 (by omega) HT.out HN.out _)).mono ?_
        rintro e w' ⟨rfl, n, rfl⟩
        go_wp2
        go_ret
        exact ⟨rfl, grown_drewN _ _⟩

/-! ### THE ROW's STEP: WRITTEN OUT: LEAVE IT -/
set_option maxRecDepth 100000 in
theorem lifted (os : Os) (started : os.Started) (H : Type) (enc : TypeId × Value → H) :
    ReturnsInHanded {} Try.checked os 6 .any (Rows.fnSplitRequestLineInvertsJoinSpec.pre6 enc Try.prog Try.f6 Rows.fnSplitRequestLineInvertsJoinRow.domain false) (Rows.fnSplitRequestLineInvertsJoinSpec.post enc Try.prog Try.f6 false true false false) := by
  refine returnsInHanded_of_change (C := Try.checked) own started (by kernel_rfl) Try.func6
    (ChangeSpec.witness6 (enc := enc) (C := Try.checked) false ⟨#[], #[.string ByteArray.empty, .string ByteArray.empty, .string ByteArray.empty], []⟩ 8 (by kernel_rfl) (by kernel_rfl) (by kernel_rfl) (by kernel_rfl)) ?_
  intro W base args ds gs before hval0 hW hcnd _
  have hval : ∀ (j : Nat) t v, Try.f6.params[j]? = some t → args[j]? = some v → Value.okWide Try.prog W .any base t v := hval0
  have hW' := hW
  obtain ⟨p, q, hA0, hV, rfl, hfz, hnd⟩ := hW
  have hA : DataW.TrodAll enc Try.prog W 0 (fun _ => true) true Try.f6.params.toList args.toList ds p := hA0
  rw [Try.params6] at hA hval
  obtain ⟨v0, vs0, d0, ds0, p0, q0, hargs, rfl, rfl, h0, r0⟩ := trodAll_cons hA
  obtain ⟨v1, vs1, d1, ds1, p1, q1, rfl, rfl, rfl, h1, r1⟩ := trodAll_cons r0
  obtain ⟨v2, vs2, d2, ds2, p2, q2, rfl, rfl, rfl, h2, r2⟩ := trodAll_cons r1
  obtain ⟨rfl, rfl, rfl⟩ := trodAll_nil r2
  obtain rfl : args = #[v0, v1, v2] := by cases args; simp_all
  obtain ⟨rfl, rfl⟩ := trodVars_none hV
  obtain ⟨a0, rfl, rfl, rfl, w0⟩ := open_string Try.underlying9 (hval 0 9 v0 rfl rfl) h0
  obtain ⟨a1, rfl, rfl, rfl, w1⟩ := open_string Try.underlying9 (hval 1 9 v1 rfl rfl) h1
  obtain ⟨a2, rfl, rfl, rfl, w2⟩ := open_string Try.underlying9 (hval 2 9 v2 rfl rfl) h2
  clear hA0 hval0
  simp only [List.append_nil] at hW'
  refine (walk a0 a1 a2 w0 w1 w2 W).mono fun e W' ⟨he, hg⟩ => ?_
  subst he
  exact ⟨_, rfl, post_of_same (pa := []) (pv := []) hW' (fun _ _ _ => (trodAll_cons_mk (shut_bool Try.underlying4 _) trodAll_mk0)) (fun sp _ => (trodAll_cons_mk (shut_string Try.underlying9 w0) (trodAll_cons_mk (shut_string Try.underlying9 w1) (trodAll_cons_mk (shut_string Try.underlying9 w2) trodAll_mk0)))) (fun _ _ => rfl) rfl
    (hg.frame _) hg.2.1 (ok_one (by kernel_rfl) rfl (okWide_bool_mk Try.underlying4 _))⟩

theorem over : Rows.fnSplitRequestLineInvertsJoinRow.holds Try.pinned (OpenSpec.ofChange Rows.fnSplitRequestLineInvertsJoinSpec) :=
  OpenClaim.holds_of_wide 6 Try.f6 rfl rfl rfl rfl rfl rfl rfl ⟨rfl, rfl, rfl, rfl, rfl⟩ rfl rfl rfl rfl rfl (by kernel_rfl) Try.func6 (by kernel_rfl)
    (of_decide_eq_true (by kernel_rfl)) (by unfold Func.isWrapper; first | (rw [if_pos (by decide +kernel)]; kernel_rfl) | (rw [if_neg (by decide +kernel)]; exact ⟨rfl, rfl⟩))
    (fun os started H enc _ => lifted os started H enc)

/-- ████ THE STATEMENT ████ -/
theorem proved : Rows.FnSplitRequestLineInvertsJoinSaid :=
  over
end Go.Proofs.Qxb6003735a.fnSplitRequestLineInvertsJoin
