/-
  zzParse (13), zzTrimWS (20).
-/
import Derived.Test.Qxb6600463aVal
namespace Go.Proofs.Qxb6600463a
open Go.RowKit
set_option linter.unusedSimpArgs false
set_option linter.unusedVariables false

/-- the text is blanks, one value, blanks -/
def Doc (c : Nat → Int) (n j e d : Nat) : Prop := Blank c 0 j ∧ ValSeg c j e d ∧ e ≤ n ∧ Blank c e n

def ParsePost (c : Nat → Int) (n : Nat) (tx : Value) (w : World) (e : Ending) (w' : World) : Prop :=
  ∃ ok : Bool, e = .returned (.tuple #[.pointer (some ⟨w.heap.size, 0, none⟩), .bool ok]) ∧ Below w.heap.size w w' ∧
    (ok = true → (∃ j e d, Doc c n j e d) ∧ ∃ v L, Mod w' w.heap.size tx v L ∧ Cnt L n ∧ Ents c n (L 3) (L 4))

theorem mod_new (w : World) (tx : Value) : Mod (w.alloc (.cells #[tx, .slice none 0 0, .slice none 0 0, .slice none 0 0, .slice none 0 0, .int .i64 0] 32)) w.heap.size tx (fun _ => .slice none 0 0) (fun _ => []) := by
  refine ⟨⟨0, heap_alloc_new w _, by omega, by omega⟩, fun k => World.ownsRow_nil _ _ _ _, fun j k h g hg => ?_⟩
  simp [Value.ownBlock] at hg

theorem doc_follow {c : Nat → Int} {n e : Nat} (h : Blank c e n) : e < n → EntsL.delimP (c e) := fun he => .inl (h.2 e (Nat.le_refl _) he)

set_option maxRecDepth 100000 in
set_option maxHeartbeats 4000000 in
theorem parse_calls (b off n cap : Nat) (c : Nat → Int) (w : World) (ht : Hid (Txt w b off n c)) (hn : n ≤ 1000000) (hbw : b < w.heap.size) :
    Calls Try.prog 13 #[.slice (some ⟨b, off, none⟩) n cap] w fun e w' => ParsePost c n (.slice (some ⟨b, off, none⟩) n cap) w e w' := by
  go_enter Try.func13, Try.ntmps13
  go_wp2_with fail
  have M0 : Hid (Mod (w.alloc (.cells #[.slice (some ⟨b, off, none⟩) n cap, .slice none 0 0, .slice none 0 0, .slice none 0 0, .slice none 0 0, .int .i64 0] 32)) w.heap.size (.slice (some ⟨b, off, none⟩) n cap) (fun _ => .slice none 0 0) (fun _ => [])) := mod_new w _
  have B0 : Hid (Below w.heap.size w (w.alloc (.cells #[.slice (some ⟨b, off, none⟩) n cap, .slice none 0 0, .slice none 0 0, .slice none 0 0, .slice none 0 0, .int .i64 0] 32))) := (Below.refl _ _).alloc (Nat.le_refl _) _
  generalize w.alloc (.cells #[.slice (some ⟨b, off, none⟩) n cap, .slice none 0 0, .slice none 0 0, .slice none 0 0, .slice none 0 0, .int .i64 0] 32) = wm at M0 B0 ⊢
  have hTm : Hid (Txt wm b off n c) := txt_below ht.out hbw B0.out
  refine (skipWS_int b off n cap 0 c wm hTm hn (by omega) _ rfl).mono ?_
  rintro e w' ⟨j, rfl, hbl0, hj, hnw, rfl⟩
  have HBL : Hid (Blank c 0 j) := hbl0
  clear hbl0 hnw
  go_wp2_with fail
  refine (value_all b off n cap w.heap.size c hn hbw n j 0 _ _ wm hj (by omega) (by omega) (by omega) hTm.out M0.out ⟨Nat.zero_le _, Nat.zero_le _, Nat.zero_le _, Nat.zero_le _⟩ (ents_nil c n)).mono ?_
  rintro e w1 ⟨x, ok, rfl, hB1, hok⟩
  have B1 : Hid (Below w.heap.size w w1) := B0.out.trans hB1
  have HOK : Hid (ok = true → ValOk c n w.heap.size (.slice (some ⟨b, off, none⟩) n cap) j x w1) := hok
  clear hB1 hok M0 B0 hTm
  cases ok
  · go_wp2
    go_ret2
    exact ⟨false, rfl, B1.out, fun h => by cases h⟩
  · obtain ⟨e, d, v1, L1, hxe, hen, hVS, hMod1, hC1, hE1⟩ := HOK.out rfl
    have HX : Hid (x = (e : Int)) := hxe
    have HV : Hid (ValSeg c j e d) := hVS
    have M1 : Hid (Mod w1 w.heap.size (.slice (some ⟨b, off, none⟩) n cap) v1 L1) := hMod1
    have C1 : Hid (Cnt L1 e) := hC1
    have E1 : Hid (EntsL c n e (L1 3) (L1 4)) := hE1
    clear hxe hVS hMod1 hC1 hE1 HOK
    have hT1 : Hid (Txt w1 b off n c) := txt_below ht.out hbw B1.out
    go_wp2_with fail
    refine (skipWS_int b off n cap e c w1 hT1 hn hen _ HX.out).mono ?_
    rintro e' w' ⟨j1, rfl, hbl1, hj1, hnw1, rfl⟩
    have HBL1 : Hid (Blank c e j1) := hbl1
    clear hbl1 hnw1
    by_cases hjn : j1 = n
    · have f1 : ((j1 : Int) != (n : Int)) = false := by rw [hjn]; simp
      have HJ : Hid (j1 = n) := hjn
      clear hjn
      go_wp2
      go_ret2
      refine ⟨true, rfl, B1.out, fun _ => ?_⟩
      have hbn : Blank c e n := by rw [← HJ.out]; exact HBL1.out
      exact ⟨⟨j, e, d, HBL.out, HV.out, hen, hbn⟩, v1, L1, M1.out, C1.out.mono hen, E1.out.good (doc_follow hbn)⟩
    · have f1 : ((j1 : Int) != (n : Int)) = true := bne_iff_ne.2 (by omega)
      clear hjn
      go_wp2
      go_ret2
      exact ⟨false, rfl, B1.out, fun h => by cases h⟩

/-- a text without bytes is no document -/
theorem skipWS_empty (ao : Option Addr) (cap : Nat) (w : World) :
    Calls Try.prog 24 #[.slice ao 0 cap, .int .i64 0] w fun e w' => e = .returned (.int .i64 0) ∧ w = w' := by
  go_enter Try.func24, Try.ntmps24
  go_wp2
  refine wp_loop_rounds 1 ?_
  rw [rounds_succ]
  go_wp2
  go_ret
  exact ⟨rfl, rfl⟩

theorem value_empty (ao : Option Addr) (cap M : Nat) (v : Nat → Value) (L : Nat → List Int) (w : World) (hMod : Hid (Mod w M (.slice ao 0 cap) v L)) :
    Calls Try.prog 23 #[.pointer (some ⟨M, 0, none⟩), .int .i64 0, .int .i64 0] w fun e w' => e = .returned (.tuple #[.int .i64 0, .bool false]) ∧ w = w' := by
  obtain ⟨deep, m0, m1, m2, m3, m4, m5, mf, md0, md1⟩ := hMod.out.cells
  clear mf m1 m2 m3 m4 m5 md0 md1
  go_enter Try.func23, Try.ntmps23
  go_wp2
  go_ret2
  exact ⟨rfl, rfl⟩

set_option maxRecDepth 100000 in
set_option maxHeartbeats 4000000 in
theorem parse_empty (ao : Option Addr) (cap : Nat) (w : World) :
    Calls Try.prog 13 #[.slice ao 0 cap] w fun e w' => e = .returned (.tuple #[.pointer (some ⟨w.heap.size, 0, none⟩), .bool false]) ∧ Below w.heap.size w w' := by
  go_enter Try.func13, Try.ntmps13
  go_wp2_with fail
  have M0 : Hid (Mod (w.alloc (.cells #[.slice ao 0 cap, .slice none 0 0, .slice none 0 0, .slice none 0 0, .slice none 0 0, .int .i64 0] 32)) w.heap.size (.slice ao 0 cap) (fun _ => .slice none 0 0) (fun _ => [])) := mod_new w _
  have B0 : Hid (Below w.heap.size w (w.alloc (.cells #[.slice ao 0 cap, .slice none 0 0, .slice none 0 0, .slice none 0 0, .slice none 0 0, .int .i64 0] 32))) := (Below.refl _ _).alloc (Nat.le_refl _) _
  generalize w.alloc (.cells #[.slice ao 0 cap, .slice none 0 0, .slice none 0 0, .slice none 0 0, .slice none 0 0, .int .i64 0] 32) = wm at M0 B0 ⊢
  refine (skipWS_empty ao cap wm).mono ?_
  rintro e w' ⟨rfl, rfl⟩
  go_wp2_with fail
  refine (value_empty ao cap w.heap.size _ _ wm M0).mono ?_
  rintro e w1 ⟨rfl, rfl⟩
  go_wp2
  go_ret2
  exact ⟨rfl, B0.out⟩

theorem ValSeg.first {c : Nat → Int} {i e d : Nat} (h : ValSeg c i e d) : ¬ isWs (c i) := by
  have hie := h.1
  have h0 : ∀ v : List Int, seg c i (e - i) = v → c i = v.getD 0 0 := fun v hv => by rw [← hv, seg_get c _ i 0 (by omega), Nat.add_zero]
  rcases h.2.kind with ⟨p, hp, _⟩ | ⟨o, p, x, d', hp, ho, _, _⟩ | ⟨_, hs⟩
  · have := h0 _ hp
    simp at this
    rw [this]; unfold isWs; omega
  · have := h0 _ hp
    simp at this
    rw [this]; unfold isWs; omega
  · have hm : c i ∈ seg c i (e - i) := by
      rw [show e - i = (e - i - 1) + 1 by omega]
      exact List.mem_cons_self
    have := hs _ hm
    unfold sc at this; unfold isWs; omega

theorem ValSeg.last {c : Nat → Int} {i e d : Nat} (h : ValSeg c i e d) : ¬ isWs (c (e - 1)) := by
  have hie := h.1
  have h0 : ∀ v : List Int, seg c i (e - i) = v → c (e - 1) = v.getD (e - i - 1) 0 := fun v hv => by
    rw [← hv, seg_get c _ i (e - i - 1) (by omega), show i + (e - i - 1) = e - 1 by omega]
  have hl : (seg c i (e - i)).length = e - i := seg_len c _ _
  rcases h.2.kind with ⟨p, hp, _⟩ | ⟨o, p, x, d', hp, ho, hx, _⟩ | ⟨_, hs⟩
  · have := h0 _ hp
    rw [hp] at hl
    simp at hl
    rw [show e - i - 1 = p.length + 1 by omega, List.cons_append, List.getD_cons_succ] at this
    simp at this
    rw [this]; unfold isWs; omega
  · have := h0 _ hp
    rw [hp] at hl
    simp at hl
    rw [show e - i - 1 = p.length + 1 by omega, List.cons_append, List.getD_cons_succ] at this
    simp at this
    rw [this]; unfold isWs; omega
  · have hm : c (e - 1) ∈ seg c i (e - i) := by
      rw [show e - i = (e - i - 1) + 1 by omega, seg_add, show i + (e - i - 1) = e - 1 by omega]
      exact List.mem_append_right _ List.mem_cons_self
    have := hs _ hm
    unfold sc at this; unfold isWs; omega

theorem wsB_not {x : Int} (h : ¬ isWs x) : wsB x = false := by
  cases hw : wsB x
  · rfl
  · exact absurd (wsB_iff.1 hw) h

set_option maxRecDepth 100000 in
set_option maxHeartbeats 2000000 in
theorem trim_calls (b off n cap j e d : Nat) (c : Nat → Int) (w : World) (ht : Hid (Txt w b off n c)) (hn : n ≤ 1000000) (hcap : n ≤ cap) (hD : Hid (Doc c n j e d)) (hje : j < e) (hen : e ≤ n) :
    Calls Try.prog 20 #[.slice (some ⟨b, off, none⟩) n cap] w fun r w' => r = .returned (.slice (some ⟨b, off + j, none⟩) (e - j) (cap - j)) ∧ w = w' := by
  have H1 : Hid (wsB (c j) = false) := wsB_not hD.out.2.1.first
  have H2 : Hid (wsB (c (e - 1)) = false) := wsB_not hD.out.2.1.last
  go_enter Try.func20, Try.ntmps20
  go_wp2
  go_loop [3] (fun v => ∃ q : Nat, q ≤ j ∧ v = .int .i64 (q : Int)) (fun v => n - (intOf v).toNat)
  case atStart => exact ⟨0, Nat.zero_le _, rfl⟩
  case round =>
    obtain ⟨q, hq, rfl⟩ := hrel
    have hcx := ht.out.1 q (by omega)
    by_cases hlt : q < j
    · have hw : wsB (c q) = true := wsB_iff.2 (hD.out.1.2 q (Nat.zero_le _) hlt)
      go_wp2_with (go_at_call 26; refine (isWs_calls _ _).mono ?_; rintro e w' ⟨rfl, rfl⟩)
      go_round
      case rel => exact ⟨q + 1, by omega, by go_num⟩
      case measure => simp [intOf]; omega
    · have hqj : q = j := by omega
      subst hqj
      have hw : wsB (c q) = false := H1.out
      go_wp2_with (go_at_call 26; refine (isWs_calls _ _).mono ?_; rintro e w' ⟨rfl, rfl⟩)
      clear hw hcx
      go_loop [4] (fun v => ∃ h : Nat, e ≤ h ∧ h ≤ n ∧ v = .int .i64 (h : Int)) (fun v => (intOf v).toNat)
      case atStart => exact ⟨n, by omega, Nat.le_refl _, rfl⟩
      case round =>
        obtain ⟨h, heh, hhn, rfl⟩ := hrel
        have hcx := ht.out.1 (h - 1) (by omega)
        by_cases hlt2 : e < h
        · have hw : wsB (c (h - 1)) = true := wsB_iff.2 (hD.out.2.2.2.2 (h - 1) (by omega) (by omega))
          go_wp2_with (go_at_call 26; refine (isWs_calls _ _).mono ?_; rintro e w' ⟨rfl, rfl⟩)
          go_round
          case rel => exact ⟨h - 1, by omega, by omega, by go_num⟩
          case measure => simp [intOf]; omega
        · have hhe : h = e := by omega
          subst hhe
          have hw : wsB (c (h - 1)) = false := H2.out
          go_wp2_with (go_at_call 26; refine (isWs_calls _ _).mono ?_; rintro e w' ⟨rfl, rfl⟩)
          go_ret
          exact ⟨rfl, rfl⟩

end Go.Proofs.Qxb6600463a
