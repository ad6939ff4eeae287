/-
  (*zzModel).str (28).
-/
import Derived.Test.Qxb6600463aNum
import Derived.Test.Qxb6600463aMod
namespace Go.Proofs.Qxb6600463a
open Go.RowKit
set_option linter.unusedSimpArgs false
set_option linter.unusedVariables false

theorem Try.info3 : (Try.prog.info? 3).map (fun i => (i.zero, i.size, i.bytes)) = some (some (.int .i64 0), 1, 8) := by kernel_rfl

/-- the body of a string token that opens at i reaches to place j -/
def BodyTo (c : Nat → Int) (i j : Nat) : Prop := i + 1 ≤ j ∧ okB false (seg c (i + 1) (j - (i + 1))) = true

theorem bodyTo_start (c : Nat → Int) (i : Nat) : BodyTo c i (i + 1) := ⟨Nat.le_refl _, by rw [Nat.sub_self]; rfl⟩
theorem bodyTo_add {c : Nat → Int} {i j m : Nat} (h : BodyTo c i j) (hm : okB false (seg c j m) = true) : BodyTo c i (j + m) := by
  have h1 := h.1
  refine ⟨by omega, ?_⟩
  rw [show j + m - (i + 1) = (j - (i + 1)) + m by omega, seg_add, okB_append _ _ _ h.2, show i + 1 + (j - (i + 1)) = j by omega]
  exact hm
theorem bodyTo_plain {c : Nat → Int} {i j : Nat} (h : BodyTo c i j) (h1 : c j ≠ 34) (h2 : c j ≠ 92) : BodyTo c i (j + 1) :=
  bodyTo_add h (by show okB false [c j] = true; rw [okB_f, if_neg h2, if_neg h1]; rfl)
theorem bodyTo_two {c : Nat → Int} {i j : Nat} (h : BodyTo c i j) (h1 : c j = 92) : BodyTo c i (j + 2) :=
  bodyTo_add h (by show okB false [c j, c (j + 1)] = true; rw [okB_f, if_pos h1, okB_t]; rfl)
theorem hex_ne {x : Int} (h : hexB x = true) : x ≠ 34 ∧ x ≠ 92 := by
  unfold hexB at h
  have := of_decide_eq_true h
  omega
theorem bodyTo_six {c : Nat → Int} {i j : Nat} (h : BodyTo c i j) (h1 : c j = 92) (hx : ∀ q, 2 ≤ q → q < 6 → hexB (c (j + q)) = true) : BodyTo c i (j + 6) := by
  refine bodyTo_add h ?_
  show okB false [c j, c (j + 1), c (j + 2), c (j + 3), c (j + 4), c (j + 5)] = true
  have a2 := hex_ne (hx 2 (by omega) (by omega))
  have a3 := hex_ne (hx 3 (by omega) (by omega))
  have a4 := hex_ne (hx 4 (by omega) (by omega))
  have a5 := hex_ne (hx 5 (by omega) (by omega))
  rw [okB_f, if_pos h1, okB_t, okB_f, if_neg a2.2, if_neg a2.1, okB_f, if_neg a3.2, if_neg a3.1, okB_f, if_neg a4.2, if_neg a4.1, okB_f, if_neg a5.2, if_neg a5.1]
  rfl
theorem bodyTo_end {c : Nat → Int} {i j : Nat} (h : BodyTo c i j) (h0 : c i = 34) (h1 : c j = 34) : StrSeg c i (j + 1) := by
  have a := h.1
  refine ⟨seg c (i + 1) (j - (i + 1)), ?_, ?_, h.2⟩
  · rw [seg_len]; omega
  · rw [show j + 1 - i = ((j - (i + 1)) + 1) + 1 by omega, seg_add]
    have e1 : seg c i ((j - (i + 1)) + 1) = c i :: seg c (i + 1) (j - (i + 1)) := rfl
    have e2 : seg c (i + ((j - (i + 1)) + 1)) 1 = [c j] := by
      rw [show i + ((j - (i + 1)) + 1) = j by omega]; rfl
    rw [e1, e2, h0, h1]

theorem hex_more {c : Nat → Int} {j k : Nat} (h : ∀ q, 2 ≤ q → q < k → hexB (c (j + q)) = true) (hx : hexB (c (j + k)) = true) : ∀ q, 2 ≤ q → q < k + 1 → hexB (c (j + q)) = true := by
  intro q h1 h2
  by_cases e : q = k
  · rw [e]; exact hx
  · exact h q h1 (by omega)

/-- at a yes: up to place x there lies a value; the record stands -/
def PartOk (c : Nat → Int) (n M : Nat) (tx : Value) (i : Nat) (x : Int) (w' : World) : Prop :=
  ∃ (j d : Nat) (v' : Nat → Value) (L' : Nat → List Int), x = (j : Int) ∧ j ≤ n ∧ ValSeg c i j d ∧ Mod w' M tx v' L' ∧ (∃ m, m + 1 ≤ j ∧ Cnt L' m) ∧ Ents c n (L' 3) (L' 4)

/-- what str, array and object hand back -/
def PartPost (c : Nat → Int) (n M : Nat) (tx : Value) (i : Nat) (w : World) (e : Ending) (w' : World) : Prop :=
  ∃ (x : Int) (ok : Bool), e = .returned (.tuple #[.int .i64 x, .bool ok]) ∧ Below M w w' ∧
    (ok = true → PartOk c n M tx i x w')

theorem partPost_no {c : Nat → Int} {n M : Nat} {tx : Value} {i : Nat} {w w' : World} (h : Below M w w') : PartPost c n M tx i w (.returned (.tuple #[.int .i64 0, .bool false])) w' :=
  ⟨0, false, rfl, h, fun h => by cases h⟩

set_option maxRecDepth 100000 in
set_option maxHeartbeats 4000000 in
theorem str_calls (b off n cap i M : Nat) (c : Nat → Int) (v : Nat → Value) (L : Nat → List Int) (w : World) (ht : Hid (Txt w b off n c)) (hn : n ≤ 1000000) (hi : i < n) (hbM : b < M)
    (h34 : Hid (c i = 34)) (hMod : Hid (Mod w M (.slice (some ⟨b, off, none⟩) n cap) v L)) (hC : Hid (Cnt L i)) (hE : Hid (Ents c n (L 3) (L 4))) :
    Calls Try.prog 28 #[.pointer (some ⟨M, 0, none⟩), .int .i64 (i : Int)] w fun e w' => PartPost c n M (.slice (some ⟨b, off, none⟩) n cap) i w e w' := by
  obtain ⟨i3, hi3, hz0, hz1, hz2⟩ := info_parts Try.info3
  obtain ⟨deep, m0, m1, m2, m3, m4, m5, mf, _, _⟩ := hMod.out.cells
  have mf1 := mf 1
  have mf2 := mf 2
  clear mf m3 m4 m5
  go_enter Try.func28, Try.ntmps28
  go_wp2
  go_loop [7] (fun vj => ∃ j : Nat, vj = .int .i64 (j : Int) ∧ i + 1 ≤ j ∧ Hid (BodyTo c i j)) (fun vj => n + 10 - (intOf vj).toNat)
  case atStart => exact ⟨i + 1, by go_num, Nat.le_refl _, bodyTo_start c i⟩
  case round =>
    obtain ⟨j, rfl, hj, hB⟩ := hrel
    by_cases hlt : j < n
    · have hcx := ht.out.1 j hlt
      have hby := ht.out.2 j
      have hb0 := hby.1
      have hb1 := hby.2
      clear hby
      by_cases hq : c j = 34
      · have f1 : (c j == 34) = true := beq_iff_eq.2 hq
        have hS : Hid (StrSeg c i (j + 1)) := bodyTo_end hB.out h34.out hq
        clear hq
        go_upto_region 7 with (at_builtin; refine wpList_append_lies _ rfl (.tmp 30) (.tmp 32) 30 rfl (M + 1) 3 i3 (.int .i64 0) 1 8 Try.underlying30 hi3 hz0 hz1 hz2 rfl (by decide) (v 1) (L 1).length ((L 1).map I64) rfl ((hMod.out.own 1).alloc _) ⟨w.heap.size, 0, none⟩ 1 1 [.int .i64 (i : Int)] rfl rfl (World.news_of_block (heap_alloc_new w _)) (I64_one [(i : Int)]) (by decide) (by have := hC.out.1; unfold maxLen; omega) (by have := hC.out.1; omega) (by have := hMod.out.lt; simp; omega) (w.heap.size + 1) (by simp) ?_; intro g1 cap1 w1 hown1 hgr1 hat1 hlt1; obtain ⟨dp1, k0, k1, k2, k3, k4, k5, kf⟩ := hMod.out.cells1 (hMod.out.before hgr1); have kf1 := kf 1; clear kf k3 k4 k5 k2 k0)
        obtain ⟨v2, L2, hMod2, hB2, hL1, hLo⟩ := hMod.out.push2 (k := 1) (.inl rfl) hown1 hgr1 hat1
        have E2 : Hid (L2 1 = L 1 ++ [(i : Int)] ∧ L2 2 = L 2 ∧ L2 3 = L 3 ∧ L2 4 = L 4) := ⟨hL1, hLo 2 (by decide), hLo 3 (by decide), hLo 4 (by decide)⟩
        have M2 : Hid (Mod (w1.setCell ⟨M, 1, none⟩ (.slice (some ⟨g1, 0, none⟩) ((L 1).length + 1) cap1)) M (.slice (some ⟨b, off, none⟩) n cap) v2 L2) := hMod2
        have B2 : Hid (Below M w (w1.setCell ⟨M, 1, none⟩ (.slice (some ⟨g1, 0, none⟩) ((L 1).length + 1) cap1))) := hB2
        clear hMod2 hB2 hL1 hLo hown1 hgr1 hat1 hlt1 k1 kf1 m1 m0 mf1 m2 mf2 hcx
        generalize w1.setCell ⟨M, 1, none⟩ (.slice (some ⟨g1, 0, none⟩) ((L 1).length + 1) cap1) = w2 at M2 B2 ⊢
        obtain ⟨dp2, n0, n1, n2, n3, n4, n5, nf, _, _⟩ := M2.out.cells
        have nf2 := nf 2
        clear nf n0 n1 n3 n4 n5
        have hL2 : (L2 2).length ≤ i := by rw [E2.out.2.1]; exact hC.out.2.1
        go_wp2_with (at_builtin; refine wpList_append_lies _ rfl (.tmp 40) (.tmp 43) 30 rfl (M + 1) 3 i3 (.int .i64 0) 1 8 Try.underlying30 hi3 hz0 hz1 hz2 rfl (by decide) (v2 2) (L2 2).length ((L2 2).map I64) rfl ((M2.out.own 2).alloc _) ⟨w2.heap.size, 0, none⟩ 1 1 [.int .i64 ((j : Int) + 1)] rfl rfl (World.news_of_block (heap_alloc_new w2 _)) (I64_one [(j : Int) + 1]) (by decide) (by unfold maxLen; omega) (by omega) (by have := M2.out.lt; simp; omega) (w2.heap.size + 1) (by simp) ?_; intro g2 cap2 w3 hown2 hgr2 hat2 hlt2; obtain ⟨dp3, k0, k1, k2, k3, k4, k5, kf⟩ := M2.out.cells1 (M2.out.before hgr2); have kf2 := kf 2; clear kf k3 k4 k5 k1 k0)
        go_ret2
        obtain ⟨v4, L4, hMod4, hB4, hL2', hLo'⟩ := M2.out.push2 (k := 2) (.inr (.inl rfl)) hown2 hgr2 hat2
        refine ⟨(j : Int) + 1, true, rfl, B2.out.trans hB4, fun _ => ⟨j + 1, 0, v4, L4, by omega, by omega, hS.out.val, hMod4, ⟨i + 1, by omega, ?_⟩, ?_⟩⟩
        · have q1 := hC.out
          obtain ⟨e1, e2, e3, e4⟩ := E2.out
          have q2 := hLo' 1 (by decide)
          have q3 := hLo' 3 (by decide)
          have q4 := hLo' 4 (by decide)
          unfold Cnt at q1 ⊢
          rw [q2, q3, q4, hL2', e1, e2, e3, e4, List.length_append, List.length_append]
          simp only [List.length_cons, List.length_nil]
          omega
        · obtain ⟨e1, e2, e3, e4⟩ := E2.out
          rw [hLo' 3 (by decide), hLo' 4 (by decide), e3, e4]
          exact hE.out
      · have f1 : (c j == 34) = false := beq_eq_false_iff_ne.2 hq
        by_cases h32 : c j < 32
        · clear hq
          go_wp2
          go_ret2
          exact partPost_no (Below.refl _ _)
        · by_cases h92 : c j = 92
          · have f2 : (c j != 92) = false := by rw [h92]; rfl
            have H92 : Hid (c j = 92) := h92
            have hB2 : Hid (BodyTo c i (j + 2)) := bodyTo_two hB.out h92
            have f3 : decide (c j < 32) = false := decide_eq_false h32
            clear hq h32 h92
            by_cases hj1 : j + 1 < n
            · have hcy := ht.out.1 (j + 1) hj1
              by_cases hE8 : c (j + 1) = 34 ∨ c (j + 1) = 92 ∨ c (j + 1) = 47 ∨ c (j + 1) = 98 ∨ c (j + 1) = 102 ∨ c (j + 1) = 110 ∨ c (j + 1) = 114 ∨ c (j + 1) = 116
              · generalize hy : c (j + 1) = y at hcy hE8
                clear hy
                rcases hE8 with rfl | rfl | rfl | rfl | rfl | rfl | rfl | rfl
                all_goals
                  go_wp2
                  go_round
                  case rel => exact ⟨j + 2, by go_num, by omega, hB2⟩
                  case measure => simp [intOf]; omega
              · by_cases h117 : c (j + 1) = 117
                · clear hE8
                  rw [h117] at hcy
                  clear h117
                  by_cases h6 : (n : Int) - (j : Int) < 6
                  · go_wp2
                    go_ret2
                    exact partPost_no (Below.refl _ _)
                  · have h6' : j + 6 ≤ n := by omega
                    go_wp2
                    go_loop [9] (fun vk => ∃ k : Nat, vk = .int .i64 (k : Int) ∧ 2 ≤ k ∧ k ≤ 6 ∧ Hid (∀ q, 2 ≤ q → q < k → hexB (c (j + q)) = true)) (fun vk => 6 - (intOf vk).toNat)
                    case atStart => exact ⟨2, rfl, Nat.le_refl _, by omega, fun q h1 h2 => absurd h2 (by omega)⟩
                    case round =>
                      obtain ⟨k, rfl, hk2, hk6, hX⟩ := hrel
                      by_cases hk : k < 6
                      · have hck := ht.out.1 (j + k) (by omega)
                        cases hx : hexB (c (j + k))
                        · go_wp2_with (go_at_call 35; refine (isHex_calls _ _).mono ?_; rintro e w' ⟨rfl, rfl⟩)
                          go_ret2
                          exact partPost_no (Below.refl _ _)
                        · have hX2 : Hid (∀ q, 2 ≤ q → q < k + 1 → hexB (c (j + q)) = true) := hex_more hX.out hx
                          go_wp2_with (go_at_call 35; refine (isHex_calls _ _).mono ?_; rintro e w' ⟨rfl, rfl⟩)
                          go_round
                          case rel => exact ⟨k + 1, by go_num, by omega, by omega, hX2⟩
                          case measure => simp [intOf]; omega
                      · have hk6' : k = 6 := by omega
                        have hB6 : Hid (BodyTo c i (j + 6)) := bodyTo_six hB.out H92.out (fun q h1 h2 => hX.out q h1 (by omega))
                        clear hk6'
                        go_wp2
                        go_round
                        case rel => exact ⟨j + 6, by go_num, by omega, hB6⟩
                        case measure => simp [intOf]; omega
                · have g1 : (c (j + 1) == 34) = false := beq_eq_false_iff_ne.2 (by omega)
                  have g2 : (c (j + 1) == 92) = false := beq_eq_false_iff_ne.2 (by omega)
                  have g3 : (c (j + 1) == 47) = false := beq_eq_false_iff_ne.2 (by omega)
                  have g4 : (c (j + 1) == 98) = false := beq_eq_false_iff_ne.2 (by omega)
                  have g5 : (c (j + 1) == 102) = false := beq_eq_false_iff_ne.2 (by omega)
                  have g6 : (c (j + 1) == 110) = false := beq_eq_false_iff_ne.2 (by omega)
                  have g7 : (c (j + 1) == 114) = false := beq_eq_false_iff_ne.2 (by omega)
                  have g8 : (c (j + 1) == 116) = false := beq_eq_false_iff_ne.2 (by omega)
                  have g9 : (c (j + 1) == 117) = false := beq_eq_false_iff_ne.2 h117
                  clear hE8 h117
                  go_wp2
                  go_ret2
                  exact partPost_no (Below.refl _ _)
            · go_wp2
              go_ret2
              exact partPost_no (Below.refl _ _)
          · have f2 : (c j != 92) = true := bne_iff_ne.2 h92
            have f3 : decide (c j < 32) = false := decide_eq_false h32
            have hB2 : Hid (BodyTo c i (j + 1)) := bodyTo_plain hB.out hq h92
            clear hq h32 h92
            go_wp2
            go_round
            case rel => exact ⟨j + 1, by go_num, by omega, hB2⟩
            case measure => simp [intOf]; omega
    · go_wp2
      go_ret2
      exact partPost_no (Below.refl _ _)

end Go.Proofs.Qxb6600463a
