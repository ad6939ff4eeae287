/-
  zzIsDigit (32), zzIsHex (35), zzLiteral (31), zzNumber (33).
-/
import Derived.Test.Qxb6600463aSkip
import Derived.Deep.QuietTactic
import Derived.BigQuiet
import Derived.Deep.DeepCutAuto
namespace Go.Proofs.Qxb6600463a
open Go.RowKit
set_option linter.unusedSimpArgs false
set_option linter.unusedVariables false

def digB (x : Int) : Bool := decide (48 ≤ x ∧ x ≤ 57)
def hexB (x : Int) : Bool := decide ((48 ≤ x ∧ x ≤ 57) ∨ (97 ≤ x ∧ x ≤ 102) ∨ (65 ≤ x ∧ x ≤ 70))

set_option maxHeartbeats 1000000 in
theorem isDigit_calls (x : Int) (w : World) : Calls Try.prog 32 #[.int .u8 x] w fun e w' => e = .returned (.bool (digB x)) ∧ w = w' := by
  go_enter Try.func32, Try.ntmps32
  go_wp2
  all_goals
    go_ret
    refine ⟨ret_bool ?_, rfl⟩
    rw [Bool.eq_iff_iff]
    simp only [digB, decide_eq_true_eq, Bool.or_eq_true, Bool.false_eq_true, true_iff, false_iff]
    omega

set_option maxHeartbeats 1000000 in
theorem isHex_calls (x : Int) (w : World) : Calls Try.prog 35 #[.int .u8 x] w fun e w' => e = .returned (.bool (hexB x)) ∧ w = w' := by
  cases hd : digB x
  · have hd' : ¬ (48 ≤ x ∧ x ≤ 57) := by simpa [digB] using hd
    go_enter Try.func35, Try.ntmps35
    go_wp2_with (go_at_call 32; refine (isDigit_calls _ _).mono ?_; rintro e w' ⟨rfl, rfl⟩)
    all_goals
      go_ret
      refine ⟨ret_bool ?_, rfl⟩
      rw [Bool.eq_iff_iff]
      simp only [hexB, decide_eq_true_eq, Bool.or_eq_true, Bool.false_eq_true, true_iff, false_iff, Bool.true_eq_false, Bool.or_true, Bool.or_false, Bool.false_or]
      omega
  · have hd' : 48 ≤ x ∧ x ≤ 57 := by simpa [digB] using hd
    have hr : Hid (hexB x = true) := by show hexB x = true; unfold hexB; exact decide_eq_true (by omega)
    clear hd'
    go_enter Try.func35, Try.ntmps35
    go_wp2_with (go_at_call 32; refine (isDigit_calls _ _).mono ?_; rintro e w' ⟨rfl, rfl⟩)
    go_ret
    exact ⟨ret_bool hr.out.symm, rfl⟩

/-- [i, j) holds bytes of numbers and words alone -/
def ScTo (c : Nat → Int) (i j : Nat) : Prop := i ≤ j ∧ ∀ k, i ≤ k → k < j → sc (c k)
/-- what a reader of a number or a word hands back: a place and a yes or no; at a yes, bytes of numbers and words alone lie up to there -/
def ReadSc (c : Nat → Int) (i n : Nat) (e : Ending) : Prop := ∃ (v : Int) (ok : Bool), e = .returned (.tuple #[.int .i64 v, .bool ok]) ∧ (ok = true → ∃ j : Nat, v = (j : Int) ∧ i < j ∧ j ≤ n ∧ ScTo c i j)
theorem scTo_refl (c : Nat → Int) (i : Nat) : ScTo c i i := ⟨Nat.le_refl _, fun k h1 h2 => by omega⟩
theorem scTo_step {c : Nat → Int} {i j : Nat} (h : ScTo c i j) (hx : sc (c j)) : ScTo c i (j + 1) := by
  have h1 := h.1
  refine ⟨by omega, fun k h2 h3 => ?_⟩
  by_cases e : k = j
  · rw [e]; exact hx
  · exact h.2 k h2 (by omega)

set_option maxHeartbeats 1000000 in
theorem literal_calls (b off n cap i : Nat) (c : Nat → Int) (s : ByteArray) (w : World) (ht : Hid (Txt w b off n c)) (hn : n ≤ 1000000) (hi : i < n) (hs1 : 1 ≤ s.size) (hs2 : s.size ≤ 5) (hsc : Hid (∀ k, (h : k < s.size) → sc ((s[k].toNat : Nat) : Int))) :
    Calls Try.prog 31 #[.slice (some ⟨b, off, none⟩) n cap, .int .i64 (i : Int), .string s] w fun e w' => ReadSc c i n e ∧ ∃ m, w' = w.drewN m := by
  by_cases hlen : (n : Int) - (i : Int) < (s.size : Int)
  · go_enter Try.func31, Try.ntmps31
    go_wp2
    go_ret2
    exact ⟨⟨0, false, rfl, fun h => by cases h⟩, 0, rfl⟩
  · have hle : i + s.size ≤ n := by omega
    go_enter Try.func31, Try.ntmps31
    go_wp2
    go_loopw [8] (fun v wr => ∃ (k m : Nat), k ≤ s.size ∧ v = .int .i64 (k : Int) ∧ wr = w.drewN m ∧ Hid (ScTo c i (i + k))) (fun v _ => s.size - (intOf v).toNat)
    case atStart => exact ⟨0, 0, Nat.zero_le _, rfl, rfl, scTo_refl c i⟩
    case round =>
      obtain ⟨k, m, hk, rfl, rfl, hS⟩ := hrel
      by_cases hlt : k < s.size
      · have hcx := ht.out.1 (i + k) (by omega)
        have hk0 : (0 : Int) ≤ (k : Int) := by omega
        have hk1 : (k : Int) < (s.size : Int) := by omega
        have hi0 : (0 : Int) ≤ (i : Int) + (k : Int) := by omega
        have hi1 : (i : Int) + (k : Int) < (n : Int) := by omega
        have hww : IntKind.i64.wrap ((i : Int) + (k : Int)) = (i : Int) + (k : Int) := wrap_small _ (by omega) (by omega)
        by_cases hq : c (i + k) = ((s[k].toNat : Nat) : Int)
        · have hsq : sc (c (i + k)) := by rw [hq]; exact hsc.out k hlt
          have hS2 : Hid (ScTo c i (i + (k + 1))) := scTo_step hS.out hsq
          clear hsq
          have f1 : (c (i + k) != ((s[k].toNat : Nat) : Int)) = false := by rw [hq]; simp
          clear hq
          go_wp2
          go_quiet (fail)
          go_wp2
          go_roundw
          case rel => exact ⟨k + 1, _, by omega, by go_num, rfl, hS2⟩
          case measure => simp [intOf]; omega
        · have f1 : (c (i + k) != ((s[k].toNat : Nat) : Int)) = true := bne_iff_ne.2 hq
          clear hq
          go_wp2
          go_quiet (fail)
          go_wp2
          go_ret2
          exact ⟨⟨0, false, rfl, fun h => by cases h⟩, m + nq, by rw [World.drewN_drewN]⟩
      · have hke : Hid (k = s.size) := by show k = s.size; omega
        go_wp2
        go_ret2
        refine ⟨⟨_, true, rfl, fun _ => ⟨i + k, ?_, by omega, by omega, hS.out⟩⟩, _, rfl⟩
        have := hke.out
        go_num

theorem digB_sc {x : Int} (h : digB x = true) : sc x := by
  unfold digB at h
  have := of_decide_eq_true h
  unfold sc; omega

/-- what the reading of a number has come to -/
def NumAt (c : Nat → Int) (w : World) (i n : Nat) (v : Value) (w' : World) : Prop := ∃ j : Nat, v = .int .i64 (j : Int) ∧ i < j ∧ j ≤ n ∧ Hid (ScTo c i j) ∧ w' = w

set_option maxRecDepth 100000 in
set_option maxHeartbeats 4000000 in
theorem number_calls (b off n cap i : Nat) (c : Nat → Int) (w : World) (ht : Hid (Txt w b off n c)) (hn : n ≤ 1000000) (hi : i < n) :
    Calls Try.prog 33 #[.slice (some ⟨b, off, none⟩) n cap, .int .i64 (i : Int)] w fun e w' => ReadSc c i n e ∧ w = w' := by
  have hci := ht.out.1 i hi
  go_enter Try.func33, Try.ntmps33
  go_upto_region 2 with fail
  go_cut [20] (fun s20 wc => ∃ bb : Bool, s20 = .bool bb ∧ (bb = true → c i = 45) ∧ wc = w)
  case first =>
    cases hq : (c i == 45)
    · go_wp2
      go_meet
      case rel => exact ⟨false, by simp [hq], fun h => (by cases h), rfl⟩
    · go_wp2
      go_meet
      case rel => exact ⟨true, by simp [hq], fun _ => beq_iff_eq.1 hq, rfl⟩
  case rest =>
    obtain ⟨bb, rfl, hbb, hwc⟩ := hcut
    subst hwc
    go_upto_if 20 with fail
    go_cut [6] (fun s6 wx => ∃ j : Nat, s6 = .int .i64 (j : Int) ∧ j ≤ n ∧ Hid (ScTo c i j) ∧ wx = wc)
    case first =>
      cases bb
      · go_wp2
        go_meet
        case rel => exact ⟨i, rfl, by omega, scTo_refl c i, rfl⟩
      · have hS : Hid (ScTo c i (i + 1)) := scTo_step (scTo_refl c i) (by rw [hbb rfl]; unfold sc; omega)
        clear hbb
        go_wp2
        go_meet
        case rel => exact ⟨i + 1, by go_num, by omega, hS, rfl⟩
    case rest =>
      obtain ⟨j, rfl, hj, hS, hwx⟩ := hcut
      subst hwx
      clear hbb hci
      by_cases hjn : j < n
      · have hcj := ht.out.1 j hjn
        go_upto_region 6 with fail
        go_cut [31] (fun s31 wx => ∃ bb : Bool, s31 = .bool bb ∧ (bb = true → c j = 48) ∧ (bb = false → c j ≠ 48) ∧ wx = wc)
        case first =>
          cases hq : (c j == 48)
          · go_wp2
            go_meet
            case rel => exact ⟨false, by simp [hq], fun h => (by cases h), fun _ => beq_eq_false_iff_ne.1 hq, rfl⟩
          · go_wp2
            go_meet
            case rel => exact ⟨true, by simp [hq], fun _ => beq_iff_eq.1 hq, fun h => (by cases h), rfl⟩
        case rest =>
        obtain ⟨b0, rfl, hb1, hb2, hwy⟩ := hcut
        subst hwy
        have HB1 : Hid (b0 = true → c j = 48) := hb1
        have HB2 : Hid (b0 = false → c j ≠ 48) := hb2
        clear hb1 hb2
        go_upto_if 31 with fail
        go_cut [6] (fun s6 wx => ∃ j' : Nat, s6 = .int .i64 (j' : Int) ∧ i < j' ∧ j' ≤ n ∧ Hid (ScTo c i j') ∧ wx = wc)
        case first =>
          have hSij : i ≤ j := hS.out.1
          cases b0
          rotate_left
          · have hS2 : Hid (ScTo c i (j + 1)) := scTo_step hS.out (by rw [HB1.out rfl]; unfold sc; omega)
            clear HB1 HB2
            go_wp2
            go_meet
            case rel => exact ⟨j + 1, by go_num, by omega, by omega, hS2, rfl⟩
          · clear HB1 HB2
            by_cases h49 : 49 ≤ c j ∧ c j ≤ 57
            · have g1 := h49.1
              have g2 := h49.2
              have hdj0 : digB (c j) = true := by unfold digB; exact decide_eq_true (by omega)
              have hdj : Hid (digB (c j) = true) := hdj0
              clear h49 hdj0
              go_wp2
              clear g1 g2 hcj
              go_loop [6] (fun v => ∃ q : Nat, j ≤ q ∧ q ≤ n ∧ v = .int .i64 (q : Int) ∧ Hid (ScTo c i q)) (fun v => n - (intOf v).toNat)
              case atStart => exact ⟨j, Nat.le_refl _, by omega, by go_num, hS⟩
              case round =>
                obtain ⟨q, hjq, hq, rfl, hSq⟩ := hrel
                by_cases hlt : q < n
                · have hcq := ht.out.1 q hlt
                  cases hd : digB (c q)
                  · have hqj : j < q := by
                      by_cases e : j = q
                      · subst e; rw [hdj.out] at hd; cases hd
                      · omega
                    go_wp2_with (go_at_call 32; refine (isDigit_calls _ _).mono ?_; rintro e w' ⟨rfl, rfl⟩)
                    go_meet
                    case rel => exact ⟨q, rfl, by have := hSij; omega, by omega, hSq, rfl⟩
                  · have hS2 : Hid (ScTo c i (q + 1)) := scTo_step hSq.out (digB_sc hd)
                    go_wp2_with (go_at_call 32; refine (isDigit_calls _ _).mono ?_; rintro e w' ⟨rfl, rfl⟩)
                    go_round
                    case rel => first | exact ⟨q + 1, by omega, by omega, by go_num, hS2⟩ | (refine ⟨trivial, ?_⟩; (repeat apply Exists.intro); exact ⟨⟨q + 1, by omega, by omega, by go_num, hS2⟩, rfl⟩)
                    case measure => simp [intOf]; omega
                · go_wp2
                  go_meet
                  case rel => exact ⟨q, rfl, by have := hSij; omega, by omega, hSq, rfl⟩
            · by_cases g : 49 ≤ c j
              · have g2 : ¬ c j ≤ 57 := by omega
                clear h49
                go_wp2
                go_ret2
                exact ⟨⟨0, false, rfl, fun h => by cases h⟩, rfl⟩
              · clear h49
                go_wp2
                go_ret2
                exact ⟨⟨0, false, rfl, fun h => by cases h⟩, rfl⟩
        case rest =>
          clear hcj hS HB1 HB2
          obtain ⟨j1, rfl, hij, hj1, hS, hwy⟩ := hcut
          subst hwy
          clear hjn
          go_upto_region 12 with fail
          go_cut [69] (fun s69 wx => ∃ bb : Bool, s69 = .bool bb ∧ (bb = true → j1 < n ∧ c j1 = 46) ∧ wx = wc)
          case first =>
            by_cases hjn : j1 < n
            · have hcj := ht.out.1 j1 hjn
              cases hq : (c j1 == 46)
              · go_wp2
                go_meet
                case rel => exact ⟨false, by simp [hq], fun h => (by cases h), rfl⟩
              · go_wp2
                go_meet
                case rel => exact ⟨true, by simp [hq], fun _ => ⟨by omega, beq_iff_eq.1 hq⟩, rfl⟩
            · go_wp2
              go_meet
              case rel => exact ⟨false, by simp, fun h => (by cases h), rfl⟩
          case rest =>
            obtain ⟨bb, rfl, hbb0, hwy⟩ := hcut
            subst hwy
            have hbb : Hid (bb = true → j1 < n ∧ c j1 = 46) := hbb0
            clear hbb0
            go_upto_if 69 with fail
            go_cut [6, 7] (fun s6 s7 wx => ∃ j' : Nat, s6 = .int .i64 (j' : Int) ∧ i < j' ∧ j' ≤ n ∧ Hid (ScTo c i j') ∧ wx = wc)
            case first =>
              cases bb
              · go_wp2
                go_meet
                case rel => exact ⟨j1, rfl, by omega, by omega, hS, rfl⟩
              · have hlt1 : j1 < n := (hbb.out rfl).1
                have hS2 : Hid (ScTo c i (j1 + 1)) := scTo_step hS.out (by rw [(hbb.out rfl).2]; unfold sc; omega)
                clear hbb hS
                go_wp2
                go_loop [6] (fun v => ∃ q : Nat, j1 + 1 ≤ q ∧ q ≤ n ∧ v = .int .i64 (q : Int) ∧ Hid (ScTo c i q)) (fun v => n - (intOf v).toNat)
                case atStart => exact ⟨j1 + 1, Nat.le_refl _, by omega, by go_num, hS2⟩
                case round =>
                  obtain ⟨q, hjq, hq, rfl, hSq⟩ := hrel
                  by_cases hlt : q < n
                  · have hcq := ht.out.1 q hlt
                    cases hd : digB (c q)
                    · by_cases e : q = j1 + 1
                      · have f9 : ((q : Int) == (j1 : Int) + 1) = true := beq_iff_eq.2 (by omega)
                        clear e
                        go_wp2_with (go_at_call 32; refine (isDigit_calls _ _).mono ?_; rintro e w' ⟨rfl, rfl⟩)
                        go_ret2
                        exact ⟨⟨0, false, rfl, fun h => by cases h⟩, rfl⟩
                      · have f9 : ((q : Int) == (j1 : Int) + 1) = false := beq_eq_false_iff_ne.2 (by omega)
                        clear e
                        go_wp2_with (go_at_call 32; refine (isDigit_calls _ _).mono ?_; rintro e w' ⟨rfl, rfl⟩)
                        go_meet
                        case rel => exact ⟨q, rfl, by omega, by omega, hSq, rfl⟩
                    · have hS2 : Hid (ScTo c i (q + 1)) := scTo_step hSq.out (digB_sc hd)
                      go_wp2_with (go_at_call 32; refine (isDigit_calls _ _).mono ?_; rintro e w' ⟨rfl, rfl⟩)
                      go_round
                      case rel => first | exact ⟨q + 1, by omega, by omega, by go_num, hS2⟩ | (refine ⟨trivial, ?_⟩; (repeat apply Exists.intro); exact ⟨⟨q + 1, by omega, by omega, by go_num, hS2⟩, rfl⟩)
                      case measure => simp [intOf]; omega
                  · by_cases e : q = j1 + 1
                    · have f9 : ((q : Int) == (j1 : Int) + 1) = true := beq_iff_eq.2 (by omega)
                      clear e
                      go_wp2
                      go_ret2
                      exact ⟨⟨0, false, rfl, fun h => by cases h⟩, rfl⟩
                    · have f9 : ((q : Int) == (j1 : Int) + 1) = false := beq_eq_false_iff_ne.2 (by omega)
                      clear e
                      go_wp2
                      go_meet
                      case rel => exact ⟨q, rfl, by omega, by omega, hSq, rfl⟩
            case rest =>
              clear hbb hS hij hj1
              obtain ⟨j2, rfl, hij, hj2, hS, hwy⟩ := hcut
              subst hwy
              go_upto_region 19 with fail
              go_cut [106] (fun s106 wx => ∃ bb : Bool, s106 = .bool bb ∧ (bb = true → j2 < n ∧ (c j2 = 101 ∨ c j2 = 69)) ∧ wx = wc)
              case first =>
                by_cases hjn : j2 < n
                · have hcj := ht.out.1 j2 hjn
                  cases hq : (c j2 == 101)
                  · cases hq2 : (c j2 == 69)
                    · go_wp2
                      go_meet
                      case rel => exact ⟨false, by simp [hq, hq2], fun h => (by cases h), rfl⟩
                    · go_wp2
                      go_meet
                      case rel => exact ⟨true, by simp [hq, hq2], fun _ => ⟨by omega, .inr (beq_iff_eq.1 hq2)⟩, rfl⟩
                  · go_wp2
                    go_meet
                    case rel => exact ⟨true, by simp [hq], fun _ => ⟨by omega, .inl (beq_iff_eq.1 hq)⟩, rfl⟩
                · go_wp2
                  go_meet
                  case rel => exact ⟨false, by simp, fun h => (by cases h), rfl⟩
              case rest =>
                obtain ⟨bc, rfl, hbc0, hwy⟩ := hcut
                subst hwy
                have hbc : Hid (bc = true → j2 < n ∧ (c j2 = 101 ∨ c j2 = 69)) := hbc0
                clear hbc0
                cases bc
                · go_wp2
                  go_ret2
                  exact ⟨⟨_, true, rfl, fun _ => ⟨j2, rfl, by omega, by omega, hS.out⟩⟩, rfl⟩
                · have hlt2 : j2 < n := (hbc.out rfl).1
                  have hS2 : Hid (ScTo c i (j2 + 1)) := scTo_step hS.out (by have := (hbc.out rfl).2; unfold sc; omega)
                  clear hbc hS
                  go_upto_region 21 with fail
                  go_cut [126] (fun s126 wx => ∃ bb : Bool, s126 = .bool bb ∧ (bb = true → j2 + 1 < n ∧ (c (j2 + 1) = 43 ∨ c (j2 + 1) = 45)) ∧ wx = wc)
                  case first =>
                    by_cases hjn : j2 + 1 < n
                    · have hcj := ht.out.1 (j2 + 1) hjn
                      cases hq : (c (j2 + 1) == 43)
                      · cases hq2 : (c (j2 + 1) == 45)
                        · go_wp2
                          go_meet
                          case rel => exact ⟨false, by simp [hq, hq2], fun h => (by cases h), rfl⟩
                        · go_wp2
                          go_meet
                          case rel => exact ⟨true, by simp [hq, hq2], fun _ => ⟨by omega, .inr (beq_iff_eq.1 hq2)⟩, rfl⟩
                      · go_wp2
                        go_meet
                        case rel => exact ⟨true, by simp [hq], fun _ => ⟨by omega, .inl (beq_iff_eq.1 hq)⟩, rfl⟩
                    · go_wp2
                      go_meet
                      case rel => exact ⟨false, by simp, fun h => (by cases h), rfl⟩
                  case rest =>
                    obtain ⟨bd, rfl, hbd0, hwy⟩ := hcut
                    subst hwy
                    have hbd : Hid (bd = true → j2 + 1 < n ∧ (c (j2 + 1) = 43 ∨ c (j2 + 1) = 45)) := hbd0
                    clear hbd0
                    go_upto_if 126 with fail
                    go_cut [6] (fun s6 wx => ∃ j' : Nat, s6 = .int .i64 (j' : Int) ∧ i < j' ∧ j' ≤ n ∧ Hid (ScTo c i j') ∧ wx = wc)
                    case first =>
                      cases bd
                      · go_wp2
                        go_meet
                        case rel => exact ⟨j2 + 1, by go_num, by omega, by omega, hS2, rfl⟩
                      · have hlt3 : j2 + 1 < n := (hbd.out rfl).1
                        have hS3 : Hid (ScTo c i (j2 + 1 + 1)) := scTo_step hS2.out (by have := (hbd.out rfl).2; unfold sc; omega)
                        clear hbd hS2
                        go_wp2
                        go_meet
                        case rel => exact ⟨j2 + 1 + 1, by go_num, by omega, by omega, hS3, rfl⟩
                    case rest =>
                      clear hbd hS2 hij hj2 hlt2
                      obtain ⟨j3, rfl, hij, hj3, hS, hwy⟩ := hcut
                      subst hwy
                      go_wp2
                      go_loop [6] (fun v => ∃ q : Nat, j3 ≤ q ∧ q ≤ n ∧ v = .int .i64 (q : Int) ∧ Hid (ScTo c i q)) (fun v => n - (intOf v).toNat)
                      case atStart => exact ⟨j3, Nat.le_refl _, by omega, by go_num, hS⟩
                      case round =>
                        obtain ⟨q, hjq, hq, rfl, hSq⟩ := hrel
                        by_cases hlt : q < n
                        · have hcq := ht.out.1 q hlt
                          cases hd : digB (c q)
                          · by_cases e : q = j3
                            · have f9 : ((q : Int) == (j3 : Int)) = true := beq_iff_eq.2 (by omega)
                              clear e
                              go_wp2_with (go_at_call 32; refine (isDigit_calls _ _).mono ?_; rintro e w' ⟨rfl, rfl⟩)
                              go_ret2
                              exact ⟨⟨0, false, rfl, fun h => by cases h⟩, rfl⟩
                            · have f9 : ((q : Int) == (j3 : Int)) = false := beq_eq_false_iff_ne.2 (by omega)
                              clear e
                              go_wp2_with (go_at_call 32; refine (isDigit_calls _ _).mono ?_; rintro e w' ⟨rfl, rfl⟩)
                              go_ret2
                              exact ⟨⟨_, true, rfl, fun _ => ⟨q, rfl, by omega, by omega, hSq.out⟩⟩, rfl⟩
                          · have hS2 : Hid (ScTo c i (q + 1)) := scTo_step hSq.out (digB_sc hd)
                            go_wp2_with (go_at_call 32; refine (isDigit_calls _ _).mono ?_; rintro e w' ⟨rfl, rfl⟩)
                            go_round
                            case rel => first | exact ⟨q + 1, by omega, by omega, by go_num, hS2⟩ | (refine ⟨trivial, ?_⟩; (repeat apply Exists.intro); exact ⟨⟨q + 1, by omega, by omega, by go_num, hS2⟩, rfl⟩)
                            case measure => simp [intOf]; omega
                        · by_cases e : q = j3
                          · have f9 : ((q : Int) == (j3 : Int)) = true := beq_iff_eq.2 (by omega)
                            clear e
                            go_wp2
                            go_ret2
                            exact ⟨⟨0, false, rfl, fun h => by cases h⟩, rfl⟩
                          · have f9 : ((q : Int) == (j3 : Int)) = false := beq_eq_false_iff_ne.2 (by omega)
                            clear e
                            go_wp2
                            go_ret2
                            exact ⟨⟨_, true, rfl, fun _ => ⟨q, rfl, by omega, by omega, hSq.out⟩⟩, rfl⟩
      · go_wp2
        go_ret2
        exact ⟨⟨0, false, rfl, fun h => by cases h⟩, rfl⟩

end Go.Proofs.Qxb6600463a
