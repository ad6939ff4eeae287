/-
  zzIsWS (26), isSpace (34), zzSkipWS (24), jsonscan.Depth (15), jsonscan.skipValue (25), ZZskipValue (18).
-/
import Derived.Test.Qxb6600463aEnd
import Derived.Test.Qxb6600463aScan2
namespace Go.Proofs.Qxb6600463a
open Go.RowKit
set_option linter.unusedSimpArgs false
set_option linter.unusedVariables false

set_option maxHeartbeats 1000000 in
theorem isWs_calls (x : Int) (w : World) : Calls Try.prog 26 #[.int .u8 x] w fun e w' => e = .returned (.bool (wsB x)) ∧ w = w' := by
  go_enter Try.func26, Try.ntmps26
  go_wp2
  all_goals
    go_ret
    refine ⟨ret_bool ?_, rfl⟩
    rw [Bool.eq_iff_iff]
    simp only [wsB, decide_eq_true_eq, Bool.or_eq_true, Bool.false_eq_true, true_iff, false_iff, beq_iff_eq, beq_eq_false_iff_ne, ne_eq] at *
    omega

set_option maxHeartbeats 1000000 in
theorem isSpace_calls (x : Int) (w : World) : Calls Try.prog 34 #[.int .u8 x] w fun e w' => e = .returned (.bool (wsB x)) ∧ w = w' := by
  go_enter Try.func34, Try.ntmps34
  go_wp2
  all_goals
    go_ret
    refine ⟨ret_bool ?_, rfl⟩
    rw [Bool.eq_iff_iff]
    simp only [wsB, decide_eq_true_eq, Bool.or_eq_true, Bool.false_eq_true, true_iff, false_iff, beq_iff_eq, beq_eq_false_iff_ne, ne_eq] at *
    omega

set_option maxHeartbeats 1000000 in
theorem skipWS_calls (b off n cap i : Nat) (c : Nat → Int) (w : World) (ht : Hid (Txt w b off n c)) (hn : n ≤ 1000000) (hi : i ≤ n) :
    Calls Try.prog 24 #[.slice (some ⟨b, off, none⟩) n cap, .int .i64 (i : Int)] w fun e w' => ∃ j : Nat, e = .returned (.int .i64 (j : Int)) ∧ Blank c i j ∧ j ≤ n ∧ (j < n → wsB (c j) = false) ∧ w = w' := by
  go_enter Try.func24, Try.ntmps24
  go_wp2
  go_loop [1] (fun v => ∃ j : Nat, j ≤ n ∧ v = .int .i64 (j : Int) ∧ Hid (Blank c i j)) (fun v => n - (intOf v).toNat)
  case atStart => exact ⟨i, hi, rfl, blank_refl c i⟩
  case round =>
    obtain ⟨j, hj, rfl, hb⟩ := hrel
    by_cases hlt : j < n
    · have hcx := ht.out.1 j hlt
      cases hw : wsB (c j)
      · have HW : Hid (wsB (c j) = false) := hw
        go_wp2_with (go_at_call 26; refine (isWs_calls _ _).mono ?_; rintro e w' ⟨rfl, rfl⟩)
        go_ret
        exact ⟨j, rfl, hb.out, by omega, fun _ => HW.out, rfl⟩
      · have hb2 : Hid (Blank c i (j + 1)) := blank_step hb.out hw
        go_wp2_with (go_at_call 26; refine (isWs_calls _ _).mono ?_; rintro e w' ⟨rfl, rfl⟩)
        go_round
        case rel => exact ⟨j + 1, by omega, by go_num, hb2⟩
        case measure => simp [intOf]; omega
    · go_wp2
      go_ret
      exact ⟨j, rfl, hb.out, by omega, fun h => absurd h hlt, rfl⟩

set_option maxHeartbeats 2000000 in
theorem depth_calls (b off n cap d : Nat) (c : Nat → Int) (w : World) (ht : Hid (Txt w b off n c)) (hn : n ≤ 1000000) (hcap : n ≤ cap) (hb : Hid (Bal (seg c 0 n) d)) :
    Calls Try.prog 15 #[.slice (some ⟨b, off, none⟩) n cap] w fun e w' => e = .returned (.int .i64 (d : Int)) ∧ w = w' := by
  go_enter Try.func15, Try.ntmps15
  go_wp2
  go_loop [3, 4, 5] (fun vd vm vi => ∃ (i : Nat) (dep mx mn : Int), i ≤ n ∧ vi = .int .i64 (i : Int) ∧ vd = .int .i64 dep ∧ vm = .int .i64 mx ∧ Hid (At c ⟨0, 0, 0, 0⟩ 0 i dep mx mn)) (fun _ _ vi => n - (intOf vi).toNat)
  case atStart => exact ⟨0, 0, 0, 0, Nat.zero_le _, rfl, rfl, rfl, at_start c 0 0 0 0⟩
  case round =>
    obtain ⟨i, dep, mx, mn, hi, rfl, rfl, rfl, hA⟩ := hrel
    have hbd := at_bd hA.out
    have b1 : dep ≤ 1000000 := by omega
    have b2 : -1000000 ≤ dep := by omega
    have b3 : mx ≤ 1000000 := by omega
    have b4 : 0 ≤ mx := by omega
    clear hbd
    by_cases hlt : i < n
    · have hcx := ht.out.1 i hlt
      by_cases h34 : c i = 34
      · obtain ⟨L, hL, hT, hA2⟩ := at_quote hA.out hlt (by rw [Nat.sub_zero]; exact bal_mode hb.out 0) h34
        have HT : Hid (StrTok c i L) := hT
        have HA2 : Hid (At c ⟨0, 0, 0, 0⟩ 0 (i + L + 2) dep mx mn) := hA2
        have f1 : (c i == 34) = true := beq_iff_eq.2 h34
        clear h34 hT hA2
        go_wp2_with (go_at_call 11; refine (strEnd_calls b off n cap i L c _ ht hn hcap (by omega) HT).mono ?_; rintro e w' ⟨rfl, rfl⟩)
        go_round
        case rel => exact ⟨i + L + 2, dep, mx, mn, by omega, by go_num, rfl, rfl, HA2⟩
        case measure => simp [intOf]; omega
      · by_cases ho : c i = 123 ∨ c i = 91
        · have HA2 : Hid (At c ⟨0, 0, 0, 0⟩ 0 (i + 1) (dep + 1) (max mx (dep + 1)) mn) := at_open hA.out ho
          have f1 : (c i == 34) = false := beq_eq_false_iff_ne.2 h34
          clear h34
          rcases ho with ho | ho
          · have f2 : (c i == 123) = true := beq_iff_eq.2 ho
            clear ho
            go_wp2
            all_goals
              go_round
              case rel => exact ⟨i + 1, dep + 1, max mx (dep + 1), mn, by omega, by go_num, rfl, by go_num, HA2⟩
              case measure => simp [intOf]; omega
          · have f2 : (c i == 123) = false := beq_eq_false_iff_ne.2 (by omega)
            have f3 : (c i == 91) = true := beq_iff_eq.2 ho
            clear ho
            go_wp2
            all_goals
              go_round
              case rel => exact ⟨i + 1, dep + 1, max mx (dep + 1), mn, by omega, by go_num, rfl, by go_num, HA2⟩
              case measure => simp [intOf]; omega
        · by_cases hx : c i = 125 ∨ c i = 93
          · have HA2 : Hid (At c ⟨0, 0, 0, 0⟩ 0 (i + 1) (dep - 1) mx (min mn (dep - 1))) := at_close hA.out hx
            have f1 : (c i == 34) = false := beq_eq_false_iff_ne.2 h34
            have f2 : (c i == 123) = false := beq_eq_false_iff_ne.2 (by omega)
            have f3 : (c i == 91) = false := beq_eq_false_iff_ne.2 (by omega)
            clear h34 ho
            rcases hx with hx | hx
            · have f4 : (c i == 125) = true := beq_iff_eq.2 hx
              clear hx
              go_wp2
              go_round
              case rel => exact ⟨i + 1, dep - 1, mx, _, by omega, by go_num, rfl, rfl, HA2⟩
              case measure => simp [intOf]; omega
            · have f4 : (c i == 125) = false := beq_eq_false_iff_ne.2 (by omega)
              have f5 : (c i == 93) = true := beq_iff_eq.2 hx
              clear hx
              go_wp2
              go_round
              case rel => exact ⟨i + 1, dep - 1, mx, _, by omega, by go_num, rfl, rfl, HA2⟩
              case measure => simp [intOf]; omega
          · have HA2 : Hid (At c ⟨0, 0, 0, 0⟩ 0 (i + 1) dep mx mn) := at_plain hA.out h34 (by omega) (by omega) (by omega) (by omega)
            have f1 : (c i == 34) = false := beq_eq_false_iff_ne.2 h34
            have f2 : (c i == 123) = false := beq_eq_false_iff_ne.2 (by omega)
            have f3 : (c i == 91) = false := beq_eq_false_iff_ne.2 (by omega)
            have f4 : (c i == 125) = false := beq_eq_false_iff_ne.2 (by omega)
            have f5 : (c i == 93) = false := beq_eq_false_iff_ne.2 (by omega)
            clear h34 ho hx
            go_wp2
            go_round
            case rel => exact ⟨i + 1, dep, mx, mn, by omega, by go_num, rfl, rfl, HA2⟩
            case measure => simp [intOf]; omega
    · have hin : i = n := by omega
      have hE : Hid (mx = (d : Int)) := by
        have h := hA.out
        rw [hin] at h
        have := (at_end h (by rw [Nat.sub_zero]; exact hb.out)).2
        show mx = (d : Int)
        omega
      clear hin
      go_wp2
      go_ret
      exact ⟨ret_int hE.out, rfl⟩

set_option maxHeartbeats 1000000 in
theorem skip_str (b off n cap i L : Nat) (c : Nat → Int) (w : World) (ht : Hid (Txt w b off n c)) (hn : n ≤ 1000000) (hcap : n ≤ cap) (hL : i + L + 2 ≤ n) (hs : Hid (StrTok c i L)) :
    Calls Try.prog 25 #[.slice (some ⟨b, off, none⟩) n cap, .int .i64 (i : Int)] w fun e w' => e = .returned (.int .i64 ((i + L + 2 : Nat) : Int)) ∧ w = w' := by
  have hcx := ht.out.1 i (by omega)
  have f1 : (c i == 34) = true := beq_iff_eq.2 hs.out.first
  go_enter Try.func25, Try.ntmps25
  go_wp2_with (go_at_call 11; refine (strEnd_calls b off n cap i L c _ ht hn hcap hL hs).mono ?_; rintro e w' ⟨rfl, rfl⟩)
  go_ret
  exact ⟨ret_int (by omega), rfl⟩

def delim (x : Int) : Prop := isWs x ∨ x = 44 ∨ x = 125 ∨ x = 93
theorem sc_not {x : Int} (h : sc x) : wsB x = false ∧ x ≠ 44 ∧ x ≠ 125 ∧ x ≠ 93 ∧ x ≠ 34 ∧ x ≠ 123 ∧ x ≠ 91 := by
  refine ⟨?_, ?_, ?_, ?_, ?_, ?_, ?_⟩
  · unfold wsB; unfold sc at h; exact decide_eq_false (by omega)
  all_goals (unfold sc at h; omega)

set_option maxHeartbeats 2000000 in
theorem skip_scal (b off n cap i e : Nat) (c : Nat → Int) (w : World) (ht : Hid (Txt w b off n c)) (hn : n ≤ 1000000) (hcap : n ≤ cap) (hie : i < e) (hen : e ≤ n)
    (hs : Hid (∀ k, i ≤ k → k < e → sc (c k))) (hd : Hid (e < n → delim (c e))) :
    Calls Try.prog 25 #[.slice (some ⟨b, off, none⟩) n cap, .int .i64 (i : Int)] w fun e' w' => e' = .returned (.int .i64 (e : Int)) ∧ w = w' := by
  have hci := ht.out.1 i (by omega)
  obtain ⟨_, _, _, _, g1, g2, g3⟩ := sc_not (hs.out i (Nat.le_refl _) hie)
  have f1 : (c i == 34) = false := beq_eq_false_iff_ne.2 g1
  have f2 : (c i == 123) = false := beq_eq_false_iff_ne.2 g2
  have f3 : (c i == 91) = false := beq_eq_false_iff_ne.2 g3
  clear g1 g2 g3
  go_enter Try.func25, Try.ntmps25
  go_wp2
  go_loop [1] (fun v => ∃ j : Nat, i ≤ j ∧ j ≤ e ∧ v = .int .i64 (j : Int)) (fun v => n - (intOf v).toNat)
  case atStart => exact ⟨i, Nat.le_refl _, by omega, rfl⟩
  case round =>
    obtain ⟨j, hj0, hj, rfl⟩ := hrel
    by_cases hlt : j < e
    · have hcx := ht.out.1 j (by omega)
      obtain ⟨k0, k1, k2, k3, _⟩ := sc_not (hs.out j hj0 hlt)
      have m1 : (c j != 44) = true := bne_iff_ne.2 k1
      have m2 : (c j != 125) = true := bne_iff_ne.2 k2
      have m3 : (c j != 93) = true := bne_iff_ne.2 k3
      clear k1 k2 k3
      go_wp2_with (go_at_call 34; refine (isSpace_calls _ _).mono ?_; rintro e w' ⟨rfl, rfl⟩)
      go_round
      case rel => exact ⟨j + 1, by omega, by omega, by go_num⟩
      case measure => simp [intOf]; omega
    · have hje : j = e := by omega
      subst hje
      by_cases hn2 : j < n
      · have hcx := ht.out.1 j hn2
        have hdel := hd.out hn2
        cases hw : wsB (c j)
        · have hd2 : c j = 44 ∨ c j = 125 ∨ c j = 93 := by
            rcases hdel with h | h
            · rw [wsB_iff.2 h] at hw; cases hw
            · exact h
          clear hdel
          rcases hd2 with h | h | h
          · have m1 : (c j != 44) = false := by rw [h]; rfl
            clear h
            go_wp2_with (go_at_call 34; refine (isSpace_calls _ _).mono ?_; rintro e w' ⟨rfl, rfl⟩)
            go_ret
            exact ⟨rfl, rfl⟩
          · have m1 : (c j != 44) = true := by rw [h]; rfl
            have m2 : (c j != 125) = false := by rw [h]; rfl
            clear h
            go_wp2_with (go_at_call 34; refine (isSpace_calls _ _).mono ?_; rintro e w' ⟨rfl, rfl⟩)
            go_ret
            exact ⟨rfl, rfl⟩
          · have m1 : (c j != 44) = true := by rw [h]; rfl
            have m2 : (c j != 125) = true := by rw [h]; rfl
            have m3 : (c j != 93) = false := by rw [h]; rfl
            clear h
            go_wp2_with (go_at_call 34; refine (isSpace_calls _ _).mono ?_; rintro e w' ⟨rfl, rfl⟩)
            go_ret
            exact ⟨rfl, rfl⟩
        · clear hdel
          go_wp2_with (go_at_call 34; refine (isSpace_calls _ _).mono ?_; rintro e w' ⟨rfl, rfl⟩)
          go_ret
          exact ⟨rfl, rfl⟩
      · go_wp2
        go_ret
        exact ⟨rfl, rfl⟩

/-- the loop over a container: at its first byte; or within -/
def InCont (c : Nat → Int) (i L j : Nat) (dep : Int) : Prop := (j = i ∧ dep = 0) ∨ (i + 1 ≤ j ∧ j ≤ i + 1 + L ∧ ∃ mx mn, At c ⟨0, 1, 1, 1⟩ (i + 1) j dep mx mn)

theorem inCont_bd {c : Nat → Int} {i L j : Nat} {dep : Int} (h : InCont c i L j dep) (hL : L ≤ 1000000) : -1000001 ≤ dep ∧ dep ≤ 1000001 := by
  rcases h with ⟨_, rfl⟩ | ⟨h1, h2, mx, mn, h3⟩
  · omega
  · have := at_bd h3
    omega

/-- one step of that loop: what the byte at j does -/
theorem inCont_quote {c : Nat → Int} {i L j d : Nat} {dep : Int} (h : InCont c i L j dep) (ho : c i = 123 ∨ c i = 91) (hx : c (i + 1 + L) = 125 ∨ c (i + 1 + L) = 93) (hb : Bal (seg c (i + 1) L) d) (hj : c j = 34) :
    ∃ M, j + M + 2 ≤ i + 1 + L ∧ StrTok c j M ∧ InCont c i L (j + M + 2) dep := by
  rcases h with ⟨rfl, rfl⟩ | ⟨h1, h2, mx, mn, h3⟩
  · omega
  · by_cases e : j = i + 1 + L
    · rw [e] at hj; omega
    · obtain ⟨M, m1, m2, m3⟩ := at_quote h3 (n := i + 1 + L) (by omega) (by rw [show i + 1 + L - (i + 1) = L by omega]; exact bal_mode hb 1) hj
      exact ⟨M, m1, m2, .inr ⟨by omega, by omega, mx, mn, m3⟩⟩
theorem inCont_open {c : Nat → Int} {i L j d : Nat} {dep : Int} (h : InCont c i L j dep) (hx : c (i + 1 + L) = 125 ∨ c (i + 1 + L) = 93) (hj : c j = 123 ∨ c j = 91) : j < i + 1 + L ∧ InCont c i L (j + 1) (dep + 1) := by
  rcases h with ⟨rfl, rfl⟩ | ⟨h1, h2, mx, mn, h3⟩
  · refine ⟨by omega, .inr ⟨Nat.le_refl _, by omega, 1, 1, ?_⟩⟩
    exact at_start c (j + 1) 1 1 1
  · by_cases e : j = i + 1 + L
    · rw [e] at hj; omega
    · exact ⟨by omega, .inr ⟨by omega, by omega, _, _, at_open h3 hj⟩⟩
theorem inCont_close {c : Nat → Int} {i L j d : Nat} {dep : Int} (h : InCont c i L j dep) (ho : c i = 123 ∨ c i = 91) (hb : Bal (seg c (i + 1) L) d) (hj : c j = 125 ∨ c j = 93) :
    (j = i + 1 + L ∧ dep - 1 = 0) ∨ (j < i + 1 + L ∧ dep - 1 ≠ 0 ∧ InCont c i L (j + 1) (dep - 1)) := by
  rcases h with ⟨rfl, rfl⟩ | ⟨h1, h2, mx, mn, h3⟩
  · omega
  · have hb' : Bal (seg c (i + 1) (i + 1 + L - (i + 1))) d := by rw [show i + 1 + L - (i + 1) = L by omega]; exact hb
    by_cases e : j = i + 1 + L
    · rw [e] at h3
      have := (at_end h3 hb').1
      exact .inl ⟨e, by omega⟩
    · have h4 := at_close h3 hj
      have h5 := at_ge (n := i + 1 + L) h4 (by omega) hb'
      exact .inr ⟨by omega, by omega, .inr ⟨by omega, by omega, _, _, h4⟩⟩
theorem inCont_plain {c : Nat → Int} {i L j : Nat} {dep : Int} (h : InCont c i L j dep) (ho : c i = 123 ∨ c i = 91) (hx : c (i + 1 + L) = 125 ∨ c (i + 1 + L) = 93)
    (h1 : c j ≠ 34) (h2 : c j ≠ 123) (h3 : c j ≠ 91) (h4 : c j ≠ 125) (h5 : c j ≠ 93) : j < i + 1 + L ∧ InCont c i L (j + 1) dep := by
  rcases h with ⟨rfl, rfl⟩ | ⟨g1, g2, mx, mn, g3⟩
  · omega
  · by_cases e : j = i + 1 + L
    · rw [← e] at hx; omega
    · exact ⟨by omega, .inr ⟨by omega, by omega, _, _, at_plain g3 h1 h2 h3 h4 h5⟩⟩
theorem inCont_le {c : Nat → Int} {i L j : Nat} {dep : Int} (h : InCont c i L j dep) : j ≤ i + 1 + L := by
  rcases h with ⟨rfl, rfl⟩ | ⟨g1, g2, _⟩ <;> omega

set_option maxHeartbeats 2000000 in
theorem skip_cont (b off n cap i L d : Nat) (c : Nat → Int) (w : World) (ht : Hid (Txt w b off n c)) (hn : n ≤ 1000000) (hcap : n ≤ cap) (hL : i + L + 2 ≤ n)
    (ho : c i = 123 ∨ c i = 91) (hx : c (i + 1 + L) = 125 ∨ c (i + 1 + L) = 93) (hb : Hid (Bal (seg c (i + 1) L) d)) :
    Calls Try.prog 25 #[.slice (some ⟨b, off, none⟩) n cap, .int .i64 (i : Int)] w fun e w' => e = .returned (.int .i64 ((i + L + 2 : Nat) : Int)) ∧ w = w' := by
  have hci := ht.out.1 i (by omega)
  have HO : Hid (c i = 123 ∨ c i = 91) := ho
  have HX : Hid (c (i + 1 + L) = 125 ∨ c (i + 1 + L) = 93) := hx
  clear hx
  have f1 : (c i == 34) = false := beq_eq_false_iff_ne.2 (by omega)
  have key : ∀ (f2 : (c i == 123) = true ∨ ((c i == 123) = false ∧ (c i == 91) = true)),
      Calls Try.prog 25 #[.slice (some ⟨b, off, none⟩) n cap, .int .i64 (i : Int)] w fun e w' => e = .returned (.int .i64 ((i + L + 2 : Nat) : Int)) ∧ w = w' := by
    intro f2
    clear ho
    rcases f2 with f2 | ⟨f2, f3⟩
    all_goals
      go_enter Try.func25, Try.ntmps25
      go_wp2
      clear hci f1 f2
      try clear f3
      go_loop [1, 5] (fun vi vd => ∃ (j : Nat) (dep : Int), j ≤ i + 1 + L ∧ vi = .int .i64 (j : Int) ∧ vd = .int .i64 dep ∧ Hid (InCont c i L j dep)) (fun vi _ => n - (intOf vi).toNat)
      case atStart => exact ⟨i, 0, by omega, rfl, rfl, .inl ⟨rfl, rfl⟩⟩
      case round =>
        obtain ⟨j, dep, hj, rfl, rfl, hI⟩ := hrel
        have hbd := inCont_bd hI.out (by omega)
        have b1 := hbd.1
        have b2 := hbd.2
        clear hbd
        have hcx := ht.out.1 j (by omega)
        by_cases h34 : c j = 34
        · obtain ⟨M, hM, hT, hI2⟩ := inCont_quote hI.out HO.out HX.out hb.out h34
          have HT : Hid (StrTok c j M) := hT
          have HI2 : Hid (InCont c i L (j + M + 2) dep) := hI2
          have f1 : (c j == 34) = true := beq_iff_eq.2 h34
          clear h34 hT hI2
          go_wp2_with (go_at_call 11; refine (strEnd_calls b off n cap j M c _ ht hn hcap (by omega) HT).mono ?_; rintro e w' ⟨rfl, rfl⟩)
          go_round
          case rel => exact ⟨j + M + 2, dep, by omega, by go_num, rfl, HI2⟩
          case measure => simp [intOf]; omega
        · by_cases hop : c j = 123 ∨ c j = 91
          · obtain ⟨hj2, hI2⟩ := inCont_open (d := d) hI.out HX.out hop
            have HI2 : Hid (InCont c i L (j + 1) (dep + 1)) := hI2
            have f1 : (c j == 34) = false := beq_eq_false_iff_ne.2 h34
            clear h34 hI2
            rcases hop with hop | hop
            · have f2 : (c j == 123) = true := beq_iff_eq.2 hop
              clear hop
              go_wp2
              go_round
              case rel => exact ⟨j + 1, dep + 1, by omega, by go_num, rfl, HI2⟩
              case measure => simp [intOf]; omega
            · have f2 : (c j == 123) = false := beq_eq_false_iff_ne.2 (by omega)
              have f3 : (c j == 91) = true := beq_iff_eq.2 hop
              clear hop
              go_wp2
              go_round
              case rel => exact ⟨j + 1, dep + 1, by omega, by go_num, rfl, HI2⟩
              case measure => simp [intOf]; omega
          · by_cases hcl : c j = 125 ∨ c j = 93
            · have f1 : (c j == 34) = false := beq_eq_false_iff_ne.2 h34
              have f2 : (c j == 123) = false := beq_eq_false_iff_ne.2 (by omega)
              have f3 : (c j == 91) = false := beq_eq_false_iff_ne.2 (by omega)
              have hcc := inCont_close hI.out HO.out hb.out hcl
              have f45 : (c j == 125) = true ∨ ((c j == 125) = false ∧ (c j == 93) = true) := by
                rcases hcl with h | h
                · exact .inl (beq_iff_eq.2 h)
                · exact .inr ⟨beq_eq_false_iff_ne.2 (by omega), beq_iff_eq.2 h⟩
              clear h34 hop hcl
              rcases hcc with ⟨e1, e2⟩ | ⟨e1, e2, e3⟩
              · have g : (dep - 1 == 0) = true := beq_iff_eq.2 e2
                have E1 : Hid (j = i + 1 + L) := e1
                clear e1 e2
                rcases f45 with f4 | ⟨f4, f5⟩
                all_goals
                  go_wp2
                  go_ret
                  exact ⟨ret_int (by have := E1.out; omega), rfl⟩
              · have g : (dep - 1 == 0) = false := beq_eq_false_iff_ne.2 e2
                have HI2 : Hid (InCont c i L (j + 1) (dep - 1)) := e3
                clear e2 e3
                rcases f45 with f4 | ⟨f4, f5⟩
                all_goals
                  go_wp2
                  go_round
                  case rel => exact ⟨j + 1, dep - 1, by omega, by go_num, rfl, HI2⟩
                  case measure => simp [intOf]; omega
            · obtain ⟨hj2, hI2⟩ := inCont_plain hI.out HO.out HX.out h34 (by omega) (by omega) (by omega) (by omega)
              have HI2 : Hid (InCont c i L (j + 1) dep) := hI2
              have f1 : (c j == 34) = false := beq_eq_false_iff_ne.2 h34
              have f2 : (c j == 123) = false := beq_eq_false_iff_ne.2 (by omega)
              have f3 : (c j == 91) = false := beq_eq_false_iff_ne.2 (by omega)
              have f4 : (c j == 125) = false := beq_eq_false_iff_ne.2 (by omega)
              have f5 : (c j == 93) = false := beq_eq_false_iff_ne.2 (by omega)
              clear h34 hop hcl hI2
              go_wp2
              go_round
              case rel => exact ⟨j + 1, dep, by omega, by go_num, rfl, HI2⟩
              case measure => simp [intOf]; omega
  rcases ho with h | h
  · exact key (.inl (beq_iff_eq.2 h))
  · exact key (.inr ⟨beq_eq_false_iff_ne.2 (by omega), beq_iff_eq.2 h⟩)

end Go.Proofs.Qxb6600463a
