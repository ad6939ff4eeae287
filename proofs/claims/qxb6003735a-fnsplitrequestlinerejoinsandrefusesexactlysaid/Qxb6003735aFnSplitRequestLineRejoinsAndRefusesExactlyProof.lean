/-
  The proof of 'Rows.FnSplitRequestLineRejoinsAndRefusesExactlySaid': the frame is the guide's template for this function; the walk is filled in.
-/
import Derived.Test.Qxb6003735aCut
import Derived.WalkKit
import Derived.ProofKit
import Derived.OpenShut
import Derived.ShutString
namespace Go.Proofs.Qxb6003735a.fnSplitRequestLineRejoinsAndRefusesExactly
open Go.ChangeShapes Go.WideShapes Go.ChangeAt Go.RowKit
open Go.ChangeMaps (open_string shut_string)
set_option linter.unusedVariables false      -- a walk need not use every 'w<i>' (that an integer argument fits its kind)

theorem own : ownKnob Try.prog.godebug = none := by kernel_rfl

theorem grown_drewN (w : World) (n : Nat) : Grown w (w.drewN n) := Grown.refl w

theorem firstSpace_at (s : ByteArray) (v : Int) (w : World) (hs : s.size ≤ maxLen) (h : Lib.indexByte s.data.toList 32 = v) :
    Calls Try.prog 16 #[.string s] w fun e w' => e = .returned (.int .i64 v) ∧ w' = w := by
  have := firstSpace_calls s w hs
  rwa [h] at this

theorem countSpaces_at (s : ByteArray) (v : Nat) (w : World) (hs : s.size ≤ maxLen) (h : cntS s = v) :
    Calls Try.prog 15 #[.string s] w fun e w' => e = .returned (.int .i64 (v : Int)) ∧ w' = w := by
  have := countSpaces_calls s w hs
  rwa [h] at this

theorem cnt_none {s : ByteArray} (h : 32 ∉ s.data.toList) : cntS s = 0 := List.count_eq_zero.2 h
theorem cnt_cut {s m r : ByteArray} (h : IsCut s m r) : cntS s = cntS r + 1 := by
  unfold cntS
  rw [h.1, List.count_append, List.count_eq_zero.2 h.2, List.count_cons_self]
  omega

theorem app_list (a b : ByteArray) : (a ++ b).data.toList = a.data.toList ++ b.data.toList := by
  rw [ByteArray.data_append, Array.toList_append]

theorem head_cut {s m r : ByteArray} (h : IsCut s m r) : s.extract 0 m.size = m := by
  apply ba_ext
  rw [sz_list m]
  exact ext_head h.1

theorem idx_cut {s m r : ByteArray} (h : IsCut s m r) : Lib.indexByte s.data.toList 32 = (m.size : Int) := by
  rw [h.1, idx_app _ _ h.2, sz_list m]

theorem join_eq {s m r t p : ByteArray} (h : IsCut s m r) (h2 : IsCut r t p) : m ++ ⟨#[32]⟩ ++ t ++ ⟨#[32]⟩ ++ p = s := by
  apply ba_ext
  rw [h.1, h2.1]
  simp only [app_list]
  simp

set_option maxHeartbeats 1000000 in
theorem bytes_small (a0 : ByteArray) (w : World) (h : (a0.size : Int) ≤ 1048576) :
    Calls Try.prog 13 #[.string a0] w fun e w' => e = .returned (.bool true) ∧ w' = w := by
  go_enter Try.func13, Try.ntmps13
  go_wp2
  go_ret
  exact ⟨rfl, rfl⟩

set_option maxHeartbeats 1000000 in
theorem case_a (a0 : ByteArray) (w0 : a0.size ≤ maxLen) (hsm : (a0.size : Int) ≤ 1048576) (hn : Hid (32 ∉ a0.data.toList)) (w : World) :
    Calls Try.prog 5 #[.string a0] w fun e w' => e = .returned (.bool true) ∧ Grown w w' := by
  have hc : Hid (cntS a0 = 0) := cnt_none hn.out
  go_enter Try.func5, Try.ntmps5
  go_wp2_with (first | (go_at_call 13; refine (bytes_small a0 w hsm).mono ?_; rintro e w' ⟨rfl, rfl⟩) | (go_at_call 14; refine (zzSplit_calls _ _ _ _ _ _ (split_a a0 hn _)).mono ?_; rintro e w' ⟨rfl, n, rfl⟩) | (go_at_call 15; refine (countSpaces_at _ 0 _ w0 hc.out).mono ?_; rintro e w' ⟨rfl, rfl⟩))
  go_ret
  exact ⟨rfl, grown_drewN _ _⟩

set_option maxHeartbeats 1000000 in
theorem case_b (a0 m r : ByteArray) (w0 : a0.size ≤ maxLen) (hsm : (a0.size : Int) ≤ 1048576) (hi : Hid (IsCut a0 m r)) (hn : Hid (32 ∉ r.data.toList)) (w : World) :
    Calls Try.prog 5 #[.string a0] w fun e w' => e = .returned (.bool true) ∧ Grown w w' := by
  have hc : Hid (cntS a0 = 1) := by
    show cntS a0 = 1
    rw [cnt_cut hi.out, cnt_none hn.out]
  go_enter Try.func5, Try.ntmps5
  go_wp2_with (first | (go_at_call 13; refine (bytes_small a0 w hsm).mono ?_; rintro e w' ⟨rfl, rfl⟩) | (go_at_call 14; refine (zzSplit_calls _ _ _ _ _ _ (split_b a0 m r w0 hi hn _)).mono ?_; rintro e w' ⟨rfl, n, rfl⟩) | (go_at_call 15; refine (countSpaces_at _ 1 _ w0 hc.out).mono ?_; rintro e w' ⟨rfl, rfl⟩))
  go_ret
  exact ⟨rfl, grown_drewN _ _⟩

set_option maxHeartbeats 1000000 in
theorem case_c0 (a0 m r t p : ByteArray) (w0 : a0.size ≤ maxLen) (hsm : (a0.size : Int) ≤ 1048576) (hi : Hid (IsCut a0 m r)) (hj : Hid (IsCut r t p)) (ht : tokB m = false) (w : World) :
    Calls Try.prog 5 #[.string a0] w fun e w' => e = .returned (.bool true) ∧ Grown w w' := by
  have hc : Hid (cntS a0 = cntS p + 2) := by
    show cntS a0 = cntS p + 2
    rw [cnt_cut hi.out, cnt_cut hj.out]
  have hz := hi.out.sizes
  have hmz : (m.size : Int) ≤ (a0.size : Int) := by omega
  have hmx : m.size ≤ maxLen := by omega
  have hx := head_cut hi.out
  clear hz
  go_enter Try.func5, Try.ntmps5
  go_wp2_with (first | (go_at_call 13; refine (bytes_small a0 w hsm).mono ?_; rintro e w' ⟨rfl, rfl⟩) | (go_at_call 14; refine (zzSplit_calls _ _ _ _ _ _ (split_c a0 m r t p w0 hi hj _)).mono ?_; rintro e w' ⟨rfl, n, rfl⟩) | (go_at_call 15; refine (countSpaces_at _ _ _ w0 hc.out).mono ?_; rintro e w' ⟨rfl, rfl⟩) | (go_at_call 16; refine (firstSpace_at _ _ _ w0 (idx_cut hi.out)).mono ?_; rintro e w' ⟨rfl, rfl⟩) | (go_at_call 9; refine (tokenModel_calls m _ hmx).mono ?_; rintro e w' ⟨rfl, rfl⟩))
  go_ret
  exact ⟨rfl, grown_drewN _ _⟩

set_option maxHeartbeats 2000000 in
theorem case_c1 (a0 m r t p : ByteArray) (w0 : a0.size ≤ maxLen) (hsm : (a0.size : Int) ≤ 1048576) (hi : Hid (IsCut a0 m r)) (hj : Hid (IsCut r t p)) (ht : tokB m = true) (w : World) :
    Calls Try.prog 5 #[.string a0] w fun e w' => e = .returned (.bool true) ∧ Grown w w' := by
  have hc : Hid (cntS a0 = cntS p + 2) := by
    show cntS a0 = cntS p + 2
    rw [cnt_cut hi.out, cnt_cut hj.out]
  have hz := hi.out.sizes
  have hz2 := hj.out.sizes
  have hmz : (m.size : Int) ≤ (a0.size : Int) := by omega
  have hall : (m.size : Int) + (t.size : Int) + (p.size : Int) ≤ 1048576 := by omega
  have hmx : m.size ≤ maxLen := by omega
  have htx : t.size ≤ maxLen := by omega
  have hx := head_cut hi.out
  have hjo := join_eq hi.out hj.out
  clear hz hz2
  go_enter Try.func5, Try.ntmps5
  go_wp2_with (first | (go_at_call 13; refine (bytes_small a0 w hsm).mono ?_; rintro e w' ⟨rfl, rfl⟩) | (go_at_call 14; refine (zzSplit_calls _ _ _ _ _ _ (split_c a0 m r t p w0 hi hj _)).mono ?_; rintro e w' ⟨rfl, n, rfl⟩) | (go_at_call 15; refine (countSpaces_at _ _ _ w0 hc.out).mono ?_; rintro e w' ⟨rfl, rfl⟩))
  refine (firstSpace_at _ _ _ w0 (idx_cut hi.out)).mono ?_
  rintro e w' ⟨rfl, rfl⟩
  go_wp2_with (go_at_call 9; refine (tokenModel_calls m _ hmx).mono ?_; rintro e w' ⟨rfl, rfl⟩)
  refine (firstSpace_at _ _ _ hmx (idx_notmem _ hi.out.2)).mono ?_
  rintro e w' ⟨rfl, rfl⟩
  go_wp2_with fail
  refine (firstSpace_at _ _ _ htx (idx_notmem _ hj.out.2)).mono ?_
  rintro e w' ⟨rfl, rfl⟩
  go_wp2_with fail
  go_ret
  exact ⟨rfl, grown_drewN _ _⟩

theorem walk_small (a0 : ByteArray) (w0 : a0.size ≤ maxLen) (hsm : (a0.size : Int) ≤ 1048576) (w : World) :
    Calls Try.prog 5 #[.string a0] w fun e w' => e = .returned (.bool true) ∧ Grown w w' := by
  rcases cut_or a0 with hn | ⟨m, r, hi⟩
  · exact case_a a0 w0 hsm hn w
  · rcases cut_or r with hn | ⟨t, p, hj⟩
    · exact case_b a0 m r w0 hsm hi hn w
    · cases ht : tokB m
      · exact case_c0 a0 m r t p w0 hsm hi hj ht w
      · exact case_c1 a0 m r t p w0 hsm hi hj ht w

set_option maxHeartbeats 1000000 in
/-! ### STEP 1: THE WALK: the Go text returns true. 'Grown w w'': the world has at most new blocks (Derived/RowKit3.lean). Part the cases AHEAD of 'go_enter' where a test parts the walk; take each callee by a contract of your own. -/
theorem walk (a0 : ByteArray) (w0 : a0.size ≤ maxLen) (w : World) :
    Calls Try.prog 5 #[.string a0] w fun e w' => e = .returned (.bool true) ∧ Grown w w' := by
  have hm := w0
  unfold maxLen at hm
  by_cases hbig : (1048576 : Int) < (a0.size : Int)
  · go_enter Try.func5, Try.ntmps5
    go_wp2
    go_ret
    exact ⟨rfl, Grown.refl _⟩
  · have hsm : (a0.size : Int) ≤ 1048576 := by omega
    clear hbig
    exact walk_small a0 w0 hsm w

/-! ### THE ROW's STEP: WRITTEN OUT: LEAVE IT -/
set_option maxRecDepth 100000 in
theorem lifted (os : Os) (started : os.Started) (H : Type) (enc : TypeId × Value → H) :
    ReturnsInHanded {} Try.checked os 5 .any (Rows.fnSplitRequestLineRejoinsAndRefusesExactlySpec.pre6 enc Try.prog Try.f5 Rows.fnSplitRequestLineRejoinsAndRefusesExactlyRow.domain false) (Rows.fnSplitRequestLineRejoinsAndRefusesExactlySpec.post enc Try.prog Try.f5 false true false false) := by
  refine returnsInHanded_of_change (C := Try.checked) own started (by kernel_rfl) Try.func5
    (ChangeSpec.witness6 (enc := enc) (C := Try.checked) false ⟨#[], #[.string ByteArray.empty], []⟩ 8 (by kernel_rfl) (by kernel_rfl) (by kernel_rfl) (by kernel_rfl)) ?_
  intro W base args ds gs before hval0 hW hcnd _
  have hval : ∀ (j : Nat) t v, Try.f5.params[j]? = some t → args[j]? = some v → Value.okWide Try.prog W .any base t v := hval0
  have hW' := hW
  obtain ⟨p, q, hA0, hV, rfl, hfz, hnd⟩ := hW
  have hA : DataW.TrodAll enc Try.prog W 0 (fun _ => true) true Try.f5.params.toList args.toList ds p := hA0
  rw [Try.params5] at hA hval
  obtain ⟨v0, vs0, d0, ds0, p0, q0, hargs, rfl, rfl, h0, r0⟩ := trodAll_cons hA
  obtain ⟨rfl, rfl, rfl⟩ := trodAll_nil r0
  obtain rfl : args = #[v0] := by cases args; simp_all
  obtain ⟨rfl, rfl⟩ := trodVars_none hV
  obtain ⟨a0, rfl, rfl, rfl, w0⟩ := open_string Try.underlying9 (hval 0 9 v0 rfl rfl) h0
  clear hA0 hval0
  simp only [List.append_nil] at hW'
  refine (walk a0 w0 W).mono fun e W' ⟨he, hg⟩ => ?_
  subst he
  exact ⟨_, rfl, post_of_same (pa := []) (pv := []) hW' (fun _ _ _ => (trodAll_cons_mk (shut_bool Try.underlying4 _) trodAll_mk0)) (fun sp _ => (trodAll_cons_mk (shut_string Try.underlying9 w0) trodAll_mk0)) (fun _ _ => rfl) rfl
    (hg.frame _) hg.2.1 (ok_one (by kernel_rfl) rfl (okWide_bool_mk Try.underlying4 _))⟩

theorem over : Rows.fnSplitRequestLineRejoinsAndRefusesExactlyRow.holds Try.pinned (OpenSpec.ofChange Rows.fnSplitRequestLineRejoinsAndRefusesExactlySpec) :=
  OpenClaim.holds_of_wide 5 Try.f5 rfl rfl rfl rfl rfl rfl rfl ⟨rfl, rfl, rfl, rfl, rfl⟩ rfl rfl rfl rfl rfl (by kernel_rfl) Try.func5 (by kernel_rfl)
    (of_decide_eq_true (by kernel_rfl)) (by unfold Func.isWrapper; first | (rw [if_pos (by decide +kernel)]; kernel_rfl) | (rw [if_neg (by decide +kernel)]; exact ⟨rfl, rfl⟩))
    (fun os started H enc _ => lifted os started H enc)

/-- ████ THE STATEMENT ████ -/
theorem proved : Rows.FnSplitRequestLineRejoinsAndRefusesExactlySaid :=
  over
end Go.Proofs.Qxb6003735a.fnSplitRequestLineRejoinsAndRefusesExactly
