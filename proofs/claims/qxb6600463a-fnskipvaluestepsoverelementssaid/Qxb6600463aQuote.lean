/-
  zzHexDigit (21) and zzQuote (10): what is appended is a string token's text.
-/
import Derived.Test.Qxb6600463aEnd
import Derived.Deep.AppendLies
namespace Go.Proofs.Qxb6600463a
open Go.RowKit
set_option linter.unusedSimpArgs false
set_option linter.unusedVariables false

theorem Try.info5 : (Try.prog.info? 5).map (fun i => (i.zero, i.size, i.bytes)) = some (some (.int .u8 0), 1, 1) := by kernel_rfl

/-- a slice of bytes that came in, nil too: its n bytes are 'c 0', 'c 1', .. -/
structure Row (w : World) (a : Option Addr) (n cap : Nat) (c : Nat → Int) : Prop where
  nil : a = none → n = 0 ∧ cap = 0
  le : n ≤ cap
  cells : ∀ ad, a = some ad → ∀ j, j < n → w.cell? (ad.add j) = some (.int .u8 (c j))
  byte : ∀ j, 0 ≤ c j ∧ c j < 256
  there : 0 < n → ∃ b off, a = some ⟨b, off, none⟩ ∧ b < w.heap.size

theorem Row.txt {w : World} {b off n cap : Nat} {c : Nat → Int} (h : Row w (some ⟨b, off, none⟩) n cap c) : Txt w b off n c :=
  ⟨fun j hj => by
    have := h.cells _ rfl j hj
    rwa [show (⟨b, off, none⟩ : Addr).add j = ⟨b, off + j, none⟩ from by unfold Addr.add; split <;> simp_all] at this, h.byte⟩

set_option maxHeartbeats 1000000 in
theorem hex_calls (v : Int) (h0 : 0 ≤ v) (h1 : v < 16) (w : World) :
    Calls Try.prog 21 #[.int .u8 v] w fun e w' => ∃ x : Int, e = .returned (.int .u8 x) ∧ 48 ≤ x ∧ x ≤ 102 ∧ x ≠ 92 ∧ w = w' := by
  by_cases hv : v < 10
  · go_enter Try.func21, Try.ntmps21
    go_wp2
    go_ret
    exact ⟨48 + v, rfl, by omega, by omega, by omega, rfl⟩
  · go_enter Try.func21, Try.ntmps21
    go_wp2
    go_ret
    exact ⟨97 + v - 10, rfl, by omega, by omega, by omega, rfl⟩

def V (x : Int) : Value := .int .u8 x

/-- what zzQuote has built so far -/
structure Quoted (base g k cap : Nat) (xs : List Value) (w wr : World) (j kk : Nat) (Q : List Int) : Prop where
  ok : okB false Q = true
  byte : ∀ x ∈ Q, 0 ≤ x ∧ x < 256
  len : Q.length ≤ 6 * j
  kke : kk = k + 1 + Q.length
  own : wr.ownsRow base 5 1 (.slice (some ⟨g, 0, none⟩) kk cap) kk (xs ++ (34 :: Q).map V)
  below : Below base w wr

theorem Quoted.step {base g k cap : Nat} {xs ys : List Value} {w wr w1 : World} {j kk m : Nat} {Q P : List Int} {o : Obj} (h : Quoted base g k cap xs w wr j kk Q) (hys : xs ++ (34 :: Q).map V = ys) (hbase : base ≤ w.heap.size) (hg : base ≤ g)
    (hP : okB false P = true) (hPb : ∀ x ∈ P, 0 ≤ x ∧ x < 256) (hm : P.length = m) (hm6 : m ≤ 6)
    (hown : w1.ownsRow base 5 1 (.slice (some ⟨g, 0, none⟩) (kk + m) cap) (kk + m) (ys ++ P.map V)) (hgr : (wr.alloc o).grownBy w1 (some g)) :
    Quoted base g k cap xs w w1 (j + 1) (kk + m) (Q ++ P) := by
  subst hys
  refine ⟨?_, ?_, ?_, ?_, ?_, ?_⟩
  · rw [okB_append Q false P h.ok]; exact hP
  · intro x hx
    rcases List.mem_append.1 hx with h1 | h1
    · exact h.byte x h1
    · exact hPb x h1
  · have := h.len; simp; omega
  · have := h.kke; simp; omega
  · have e : xs ++ (34 :: Q).map V ++ P.map V = xs ++ (34 :: (Q ++ P)).map V := by simp
    rw [e] at hown; exact hown
  · have hs := h.below.size
    refine (h.below.alloc (by omega) o).grown hgr (by simp; omega) (fun q hq => ?_)
    cases hq; exact hg

theorem V_one (l : List Int) : ∀ u ∈ l.map V, u.oneCell' = true := by
  intro u hu
  obtain ⟨x, _, rfl⟩ := List.mem_map.1 hu
  rfl

theorem quoted_start {base g k cap : Nat} {xs : List Value} {w w1 : World} {o : Obj} (hbase : base ≤ w.heap.size) (hg : base ≤ g)
    (hown : w1.ownsRow base 5 1 (.slice (some ⟨g, 0, none⟩) (k + 1) cap) (k + 1) (xs ++ [.int .u8 34])) (hgr : (w.alloc o).grownBy w1 (some g)) : Quoted base g k cap xs w w1 0 (k + 1) [] :=
  ⟨rfl, fun x hx => by simp at hx, by simp, by simp, hown, ((Below.refl _ _).alloc hbase o).grown hgr (by simp; omega) (fun q hq => by cases hq; exact hg)⟩

theorem Quoted.stop {base g k cap : Nat} {xs ys : List Value} {w wr w1 : World} {j kk : Nat} {Q : List Int} {o : Obj} (h : Quoted base g k cap xs w wr j kk Q) (hys : xs ++ (34 :: Q).map V = ys) (hbase : base ≤ w.heap.size) (hg : base ≤ g)
    (hown : w1.ownsRow base 5 1 (.slice (some ⟨g, 0, none⟩) (kk + 1) cap) (kk + 1) (ys ++ [.int .u8 34])) (hgr : (wr.alloc o).grownBy w1 (some g)) :
    kk + 1 = k + (Q.length + 2) ∧ okB false Q = true ∧ (∀ x ∈ Q, 0 ≤ x ∧ x < 256) ∧ Q.length ≤ 6 * j ∧ w1.ownsRow base 5 1 (.slice (some ⟨g, 0, none⟩) (kk + 1) cap) (kk + 1) (xs ++ ((34 :: Q) ++ [34]).map V) ∧ Below base w w1 := by
  have hk := h.kke
  have hs := h.below.size
  subst hys
  refine ⟨by omega, h.ok, h.byte, h.len, ?_, ?_⟩
  · have e : xs ++ (34 :: Q).map V ++ [.int .u8 34] = xs ++ ((34 :: Q) ++ [34]).map V := by simp [V]
    rw [e] at hown; exact hown
  · exact (h.below.alloc (by omega) o).grown hgr (by simp; omega) (fun q hq => by cases hq; exact hg)

theorem ok_one {x : Int} (h1 : x ≠ 34) (h2 : x ≠ 92) : okB false [x] = true := by
  rw [okB_f, if_neg h2, if_neg h1]; rfl
theorem ok_six {y1 y2 : Int} (a1 : 48 ≤ y1) (a2 : y1 ≤ 102) (a3 : y1 ≠ 92) (b1 : 48 ≤ y2) (b2 : y2 ≤ 102) (b3 : y2 ≠ 92) : okB false [92, 117, 48, 48, y1, y2] = true := by
  rw [okB_f, if_pos rfl, okB_t, okB_f, if_neg (by omega), if_neg (by omega), okB_f, if_neg (by omega), if_neg (by omega), okB_f, if_neg a3, if_neg (by omega), okB_f, if_neg b3, if_neg (by omega)]
  rfl
theorem byte_six {y1 y2 : Int} (a1 : 48 ≤ y1) (a2 : y1 ≤ 102) (b1 : 48 ≤ y2) (b2 : y2 ≤ 102) : ∀ x ∈ [92, 117, 48, 48, y1, y2], 0 ≤ x ∧ x < 256 := by
  intro x hx
  simp at hx
  omega


set_option maxRecDepth 100000 in
set_option maxHeartbeats 4000000 in
theorem quote_calls (base g k cap : Nat) (xs : List Value) (ao : Option Addr) (n ncap : Nat) (c : Nat → Int) (lf : Bool) (w : World)
    (hown : w.ownsRow base 5 1 (.slice (some ⟨g, 0, none⟩) k cap) k xs) (hbase : base ≤ w.heap.size) (hg : base ≤ g) (ht : Hid (Row w ao n ncap c)) (hb : ∀ ad, ao = some ad → 0 < n → ad.block < base)
    (hn : n ≤ 100000) (hroom : k + 6 * n + 2 ≤ cap) (hcap : cap ≤ 10000000) :
    Calls Try.prog 10 #[.slice (some ⟨g, 0, none⟩) k cap, .slice ao n ncap, .bool lf] w fun e w' => ∃ Q : List Int, e = .returned (.slice (some ⟨g, 0, none⟩) (k + (Q.length + 2)) cap) ∧ okB false Q = true ∧ (∀ x ∈ Q, 0 ≤ x ∧ x < 256) ∧ Q.length ≤ 6 * n ∧
      w'.ownsRow base 5 1 (.slice (some ⟨g, 0, none⟩) (k + (Q.length + 2)) cap) (k + (Q.length + 2)) (xs ++ ((34 :: Q) ++ [34]).map V) ∧ Below base w w' := by
  obtain ⟨i0, hi, hz0, hz1, hz2⟩ := info_parts Try.info5
  have HB : Hid (∀ ad, ao = some ad → 0 < n → ad.block < base) := hb
  clear hb
  have hle : Hid (n ≤ ncap) := ht.out.le
  go_enter Try.func10, Try.ntmps10
  go_wp2_with (at_builtin; refine wpList_append_fits _ rfl _ _ 22 rfl base 5 i0 1 Try.underlying22 hi hz1 g k cap xs rfl (hown.alloc _) ⟨w.heap.size, 0, none⟩ 1 1 [.int .u8 34] rfl rfl (World.news_of_block (heap_alloc_new w _)) (V_one [34]) (by omega) ?_)
  intro w1 hown1 hgr1
  have hQ0 : Hid (Quoted base g k cap xs w w1 0 (k + 1) []) := quoted_start hbase hg hown1 hgr1
  clear hown1 hgr1 hown
  go_wp2
  go_loopw [0, 7] (fun v i wr => ∃ (j kk : Nat) (Q : List Int), j ≤ n ∧ i = .int .i64 (j : Int) ∧ v = .slice (some ⟨g, 0, none⟩) kk cap ∧ kk ≤ k + 1 + 6 * j ∧ Hid (Quoted base g k cap xs w wr j kk Q)) (fun _ i _ => n - (intOf i).toNat)
  case atStart => exact ⟨0, k + 1, [], Nat.zero_le _, rfl, rfl, by omega, hQ0⟩
  case round =>
    obtain ⟨j, kk, Q, hj, rfl, rfl, hkk, hQ⟩ := hrel
    have hown := hQ.out.own
    generalize hy : xs ++ (34 :: Q).map V = ys at hown
    have HY : Hid (xs ++ (34 :: Q).map V = ys) := hy
    clear hy
    by_cases hlt : j < n
    · obtain ⟨b, off, hao, hbl⟩ := ht.out.there (by omega)
      subst hao
      have hbb : b < base := HB.out _ rfl (by omega)
      have hcx : wr.cell? ⟨b, off + j, none⟩ = some (.int .u8 (c j)) := (hQ.out.below.cell (p := ⟨b, off + j, none⟩) hbb).trans (ht.out.txt.1 j hlt)
      have hby := ht.out.byte j
      have hc0 := hby.1
      have hc1 := hby.2
      clear hby
      generalize hxe : c j = x at hcx hc0 hc1
      clear hxe
      cases lf
      · by_cases e1 : x = 34
        · subst e1
          go_wp2_with (at_builtin; refine wpList_append_fits _ rfl _ _ 22 rfl base 5 i0 1 Try.underlying22 hi hz1 g kk cap ys rfl (hown.alloc _) ⟨wr.heap.size, 0, none⟩ 2 2 [.int .u8 92, .int .u8 34] rfl rfl (World.news_of_block (heap_alloc_new wr _)) (V_one [92, 34]) (by omega) ?_)
          intro w1 hown1 hgr1
          have hN : Hid (Quoted base g k cap xs w w1 (j + 1) (kk + 2) (Q ++ [92, 34])) := hQ.out.step HY.out hbase hg (by decide) (by decide) rfl (by omega) hown1 hgr1
          clear hown1 hgr1
          go_wp2
          go_roundw
          case rel => exact ⟨j + 1, kk + 2, Q ++ [92, 34], by omega, by go_num, rfl, by omega, hN⟩
          case measure => simp [intOf]; omega
        · by_cases e92 : x = 92
          · subst e92
            go_wp2_with (at_builtin; refine wpList_append_fits _ rfl _ _ 22 rfl base 5 i0 1 Try.underlying22 hi hz1 g kk cap ys rfl (hown.alloc _) ⟨wr.heap.size, 0, none⟩ 2 2 [.int .u8 92, .int .u8 92] rfl rfl (World.news_of_block (heap_alloc_new wr _)) (V_one [92, 92]) (by omega) ?_)
            intro w1 hown1 hgr1
            have hN : Hid (Quoted base g k cap xs w w1 (j + 1) (kk + 2) (Q ++ [92, 92])) := hQ.out.step HY.out hbase hg (by decide) (by decide) rfl (by omega) hown1 hgr1
            clear hown1 hgr1
            go_wp2
            go_roundw
            case rel => exact ⟨j + 1, kk + 2, Q ++ [92, 92], by omega, by go_num, rfl, by omega, hN⟩
            case measure => simp [intOf]; omega
          · by_cases e47 : x = 47
            · subst e47
              go_wp2_with (at_builtin; refine wpList_append_fits _ rfl _ _ 22 rfl base 5 i0 1 Try.underlying22 hi hz1 g kk cap ys rfl (hown.alloc _) ⟨wr.heap.size, 0, none⟩ 2 2 [.int .u8 92, .int .u8 47] rfl rfl (World.news_of_block (heap_alloc_new wr _)) (V_one [92, 47]) (by omega) ?_)
              intro w1 hown1 hgr1
              have hN : Hid (Quoted base g k cap xs w w1 (j + 1) (kk + 2) (Q ++ [92, 47])) := hQ.out.step HY.out hbase hg (by decide) (by decide) rfl (by omega) hown1 hgr1
              clear hown1 hgr1
              go_wp2
              go_roundw
              case rel => exact ⟨j + 1, kk + 2, Q ++ [92, 47], by omega, by go_num, rfl, by omega, hN⟩
              case measure => simp [intOf]; omega
            · by_cases e8 : x = 8
              · subst e8
                go_wp2_with (at_builtin; refine wpList_append_fits _ rfl _ _ 22 rfl base 5 i0 1 Try.underlying22 hi hz1 g kk cap ys rfl (hown.alloc _) ⟨wr.heap.size, 0, none⟩ 2 2 [.int .u8 92, .int .u8 98] rfl rfl (World.news_of_block (heap_alloc_new wr _)) (V_one [92, 98]) (by omega) ?_)
                intro w1 hown1 hgr1
                have hN : Hid (Quoted base g k cap xs w w1 (j + 1) (kk + 2) (Q ++ [92, 98])) := hQ.out.step HY.out hbase hg (by decide) (by decide) rfl (by omega) hown1 hgr1
                clear hown1 hgr1
                go_wp2
                go_roundw
                case rel => exact ⟨j + 1, kk + 2, Q ++ [92, 98], by omega, by go_num, rfl, by omega, hN⟩
                case measure => simp [intOf]; omega
              · by_cases e12 : x = 12
                · subst e12
                  go_wp2_with (at_builtin; refine wpList_append_fits _ rfl _ _ 22 rfl base 5 i0 1 Try.underlying22 hi hz1 g kk cap ys rfl (hown.alloc _) ⟨wr.heap.size, 0, none⟩ 2 2 [.int .u8 92, .int .u8 102] rfl rfl (World.news_of_block (heap_alloc_new wr _)) (V_one [92, 102]) (by omega) ?_)
                  intro w1 hown1 hgr1
                  have hN : Hid (Quoted base g k cap xs w w1 (j + 1) (kk + 2) (Q ++ [92, 102])) := hQ.out.step HY.out hbase hg (by decide) (by decide) rfl (by omega) hown1 hgr1
                  clear hown1 hgr1
                  go_wp2
                  go_roundw
                  case rel => exact ⟨j + 1, kk + 2, Q ++ [92, 102], by omega, by go_num, rfl, by omega, hN⟩
                  case measure => simp [intOf]; omega
                · by_cases e10 : x = 10
                  · subst e10
                    go_wp2_with (at_builtin; refine wpList_append_fits _ rfl _ _ 22 rfl base 5 i0 1 Try.underlying22 hi hz1 g kk cap ys rfl (hown.alloc _) ⟨wr.heap.size, 0, none⟩ 2 2 [.int .u8 92, .int .u8 110] rfl rfl (World.news_of_block (heap_alloc_new wr _)) (V_one [92, 110]) (by omega) ?_)
                    intro w1 hown1 hgr1
                    have hN : Hid (Quoted base g k cap xs w w1 (j + 1) (kk + 2) (Q ++ [92, 110])) := hQ.out.step HY.out hbase hg (by decide) (by decide) rfl (by omega) hown1 hgr1
                    clear hown1 hgr1
                    go_wp2
                    go_roundw
                    case rel => exact ⟨j + 1, kk + 2, Q ++ [92, 110], by omega, by go_num, rfl, by omega, hN⟩
                    case measure => simp [intOf]; omega
                  · by_cases e13 : x = 13
                    · subst e13
                      go_wp2_with (at_builtin; refine wpList_append_fits _ rfl _ _ 22 rfl base 5 i0 1 Try.underlying22 hi hz1 g kk cap ys rfl (hown.alloc _) ⟨wr.heap.size, 0, none⟩ 2 2 [.int .u8 92, .int .u8 114] rfl rfl (World.news_of_block (heap_alloc_new wr _)) (V_one [92, 114]) (by omega) ?_)
                      intro w1 hown1 hgr1
                      have hN : Hid (Quoted base g k cap xs w w1 (j + 1) (kk + 2) (Q ++ [92, 114])) := hQ.out.step HY.out hbase hg (by decide) (by decide) rfl (by omega) hown1 hgr1
                      clear hown1 hgr1
                      go_wp2
                      go_roundw
                      case rel => exact ⟨j + 1, kk + 2, Q ++ [92, 114], by omega, by go_num, rfl, by omega, hN⟩
                      case measure => simp [intOf]; omega
                    · by_cases e9 : x = 9
                      · subst e9
                        go_wp2_with (at_builtin; refine wpList_append_fits _ rfl _ _ 22 rfl base 5 i0 1 Try.underlying22 hi hz1 g kk cap ys rfl (hown.alloc _) ⟨wr.heap.size, 0, none⟩ 2 2 [.int .u8 92, .int .u8 116] rfl rfl (World.news_of_block (heap_alloc_new wr _)) (V_one [92, 116]) (by omega) ?_)
                        intro w1 hown1 hgr1
                        have hN : Hid (Quoted base g k cap xs w w1 (j + 1) (kk + 2) (Q ++ [92, 116])) := hQ.out.step HY.out hbase hg (by decide) (by decide) rfl (by omega) hown1 hgr1
                        clear hown1 hgr1
                        go_wp2
                        go_roundw
                        case rel => exact ⟨j + 1, kk + 2, Q ++ [92, 116], by omega, by go_num, rfl, by omega, hN⟩
                        case measure => simp [intOf]; omega
                      · by_cases e32 : x < 32
                        · go_wp2_with fail
                          refine (hex_calls _ (by omega) (by omega) _).mono ?_
                          rintro e w' ⟨y1, rfl, a1, a2, a3, rfl⟩
                          go_wp2_with fail
                          refine (hex_calls _ (by omega) (by omega) _).mono ?_
                          rintro e w' ⟨y2, rfl, b1, b2, b3, rfl⟩
                          go_wp2_with (at_builtin; refine wpList_append_fits _ rfl _ _ 22 rfl base 5 i0 1 Try.underlying22 hi hz1 g kk cap ys rfl (hown.alloc _) ⟨wr.heap.size, 0, none⟩ 6 6 [.int .u8 92, .int .u8 117, .int .u8 48, .int .u8 48, .int .u8 y1, .int .u8 y2] rfl rfl (World.news_of_block (heap_alloc_new wr _)) (V_one [92, 117, 48, 48, y1, y2]) (by omega) ?_)
                          intro w1 hown1 hgr1
                          have hN : Hid (Quoted base g k cap xs w w1 (j + 1) (kk + 6) (Q ++ [92, 117, 48, 48, y1, y2])) := hQ.out.step HY.out hbase hg (ok_six a1 a2 a3 b1 b2 b3) (byte_six a1 a2 b1 b2) rfl (by omega) hown1 hgr1
                          clear hown1 hgr1
                          go_wp2
                          go_roundw
                          case rel => exact ⟨j + 1, kk + 6, Q ++ [92, 117, 48, 48, y1, y2], by omega, by go_num, rfl, by omega, hN⟩
                          case measure => simp [intOf]; omega
                        · have f1 : (x == 34) = false := beq_eq_false_iff_ne.2 (by omega)
                          have f2 : (x == 92) = false := beq_eq_false_iff_ne.2 (by omega)
                          have f3 : decide (x < 32) = false := decide_eq_false (by omega)
                          go_wp2_with (at_builtin; refine wpList_append_fits _ rfl _ _ 22 rfl base 5 i0 1 Try.underlying22 hi hz1 g kk cap ys rfl (hown.alloc _) ⟨wr.heap.size, 0, none⟩ 1 1 [.int .u8 x] rfl rfl (World.news_of_block (heap_alloc_new wr _)) (V_one [x]) (by omega) ?_)
                          intro w1 hown1 hgr1
                          have hN : Hid (Quoted base g k cap xs w w1 (j + 1) (kk + 1) (Q ++ [x])) := hQ.out.step HY.out hbase hg (ok_one (by omega) (by omega)) (by simp; omega) rfl (by omega) hown1 hgr1
                          clear hown1 hgr1
                          go_wp2
                          go_roundw
                          case rel => exact ⟨j + 1, kk + 1, Q ++ [x], by omega, by go_num, rfl, by omega, hN⟩
                          case measure => simp [intOf]; omega
      · by_cases e1 : x = 34
        · subst e1
          go_wp2_with fail
          refine (hex_calls _ (by omega) (by omega) _).mono ?_
          rintro e w' ⟨y1, rfl, a1, a2, a3, rfl⟩
          go_wp2_with fail
          refine (hex_calls _ (by omega) (by omega) _).mono ?_
          rintro e w' ⟨y2, rfl, b1, b2, b3, rfl⟩
          go_wp2_with (at_builtin; refine wpList_append_fits _ rfl _ _ 22 rfl base 5 i0 1 Try.underlying22 hi hz1 g kk cap ys rfl (hown.alloc _) ⟨wr.heap.size, 0, none⟩ 6 6 [.int .u8 92, .int .u8 117, .int .u8 48, .int .u8 48, .int .u8 y1, .int .u8 y2] rfl rfl (World.news_of_block (heap_alloc_new wr _)) (V_one [92, 117, 48, 48, y1, y2]) (by omega) ?_)
          intro w1 hown1 hgr1
          have hN : Hid (Quoted base g k cap xs w w1 (j + 1) (kk + 6) (Q ++ [92, 117, 48, 48, y1, y2])) := hQ.out.step HY.out hbase hg (ok_six a1 a2 a3 b1 b2 b3) (byte_six a1 a2 b1 b2) rfl (by omega) hown1 hgr1
          clear hown1 hgr1
          go_wp2
          go_roundw
          case rel => exact ⟨j + 1, kk + 6, Q ++ [92, 117, 48, 48, y1, y2], by omega, by go_num, rfl, by omega, hN⟩
          case measure => simp [intOf]; omega
        · by_cases e2 : x = 92
          · subst e2
            go_wp2_with fail
            refine (hex_calls _ (by omega) (by omega) _).mono ?_
            rintro e w' ⟨y1, rfl, a1, a2, a3, rfl⟩
            go_wp2_with fail
            refine (hex_calls _ (by omega) (by omega) _).mono ?_
            rintro e w' ⟨y2, rfl, b1, b2, b3, rfl⟩
            go_wp2_with (at_builtin; refine wpList_append_fits _ rfl _ _ 22 rfl base 5 i0 1 Try.underlying22 hi hz1 g kk cap ys rfl (hown.alloc _) ⟨wr.heap.size, 0, none⟩ 6 6 [.int .u8 92, .int .u8 117, .int .u8 48, .int .u8 48, .int .u8 y1, .int .u8 y2] rfl rfl (World.news_of_block (heap_alloc_new wr _)) (V_one [92, 117, 48, 48, y1, y2]) (by omega) ?_)
            intro w1 hown1 hgr1
            have hN : Hid (Quoted base g k cap xs w w1 (j + 1) (kk + 6) (Q ++ [92, 117, 48, 48, y1, y2])) := hQ.out.step HY.out hbase hg (ok_six a1 a2 a3 b1 b2 b3) (byte_six a1 a2 b1 b2) rfl (by omega) hown1 hgr1
            clear hown1 hgr1
            go_wp2
            go_roundw
            case rel => exact ⟨j + 1, kk + 6, Q ++ [92, 117, 48, 48, y1, y2], by omega, by go_num, rfl, by omega, hN⟩
            case measure => simp [intOf]; omega
          · by_cases e3 : x < 32
            · go_wp2_with fail
              refine (hex_calls _ (by omega) (by omega) _).mono ?_
              rintro e w' ⟨y1, rfl, a1, a2, a3, rfl⟩
              go_wp2_with fail
              refine (hex_calls _ (by omega) (by omega) _).mono ?_
              rintro e w' ⟨y2, rfl, b1, b2, b3, rfl⟩
              go_wp2_with (at_builtin; refine wpList_append_fits _ rfl _ _ 22 rfl base 5 i0 1 Try.underlying22 hi hz1 g kk cap ys rfl (hown.alloc _) ⟨wr.heap.size, 0, none⟩ 6 6 [.int .u8 92, .int .u8 117, .int .u8 48, .int .u8 48, .int .u8 y1, .int .u8 y2] rfl rfl (World.news_of_block (heap_alloc_new wr _)) (V_one [92, 117, 48, 48, y1, y2]) (by omega) ?_)
              intro w1 hown1 hgr1
              have hN : Hid (Quoted base g k cap xs w w1 (j + 1) (kk + 6) (Q ++ [92, 117, 48, 48, y1, y2])) := hQ.out.step HY.out hbase hg (ok_six a1 a2 a3 b1 b2 b3) (byte_six a1 a2 b1 b2) rfl (by omega) hown1 hgr1
              clear hown1 hgr1
              go_wp2
              go_roundw
              case rel => exact ⟨j + 1, kk + 6, Q ++ [92, 117, 48, 48, y1, y2], by omega, by go_num, rfl, by omega, hN⟩
              case measure => simp [intOf]; omega
            · have f1 : (x == 34) = false := beq_eq_false_iff_ne.2 (by omega)
              have f2 : (x == 92) = false := beq_eq_false_iff_ne.2 (by omega)
              have f3 : decide (x < 32) = false := decide_eq_false (by omega)
              go_wp2_with (at_builtin; refine wpList_append_fits _ rfl _ _ 22 rfl base 5 i0 1 Try.underlying22 hi hz1 g kk cap ys rfl (hown.alloc _) ⟨wr.heap.size, 0, none⟩ 1 1 [.int .u8 x] rfl rfl (World.news_of_block (heap_alloc_new wr _)) (V_one [x]) (by omega) ?_)
              intro w1 hown1 hgr1
              have hN : Hid (Quoted base g k cap xs w w1 (j + 1) (kk + 1) (Q ++ [x])) := hQ.out.step HY.out hbase hg (ok_one (by omega) (by omega)) (by simp; omega) rfl (by omega) hown1 hgr1
              clear hown1 hgr1
              go_wp2
              go_roundw
              case rel => exact ⟨j + 1, kk + 1, Q ++ [x], by omega, by go_num, rfl, by omega, hN⟩
              case measure => simp [intOf]; omega
    · have hjn : j = n := by omega
      go_wp2_with (at_builtin; refine wpList_append_fits _ rfl _ _ 22 rfl base 5 i0 1 Try.underlying22 hi hz1 g kk cap ys rfl (hown.alloc _) ⟨wr.heap.size, 0, none⟩ 1 1 [.int .u8 34] rfl rfl (World.news_of_block (heap_alloc_new wr _)) (V_one [34]) (by omega) ?_)
      intro w1 hown1 hgr1
      have hE : Hid (kk + 1 = k + (Q.length + 2) ∧ okB false Q = true ∧ (∀ x ∈ Q, 0 ≤ x ∧ x < 256) ∧ Q.length ≤ 6 * n ∧ w1.ownsRow base 5 1 (.slice (some ⟨g, 0, none⟩) (kk + 1) cap) (kk + 1) (xs ++ ((34 :: Q) ++ [34]).map V) ∧ Below base w w1) := by
        subst hjn
        exact hQ.out.stop HY.out hbase hg hown1 hgr1
      clear hown1 hgr1
      go_wp2
      go_ret
      obtain ⟨q1, q2, q3, q4, q5, q6⟩ := hE.out
      rw [q1] at q5
      refine ⟨Q, ?_, q2, q3, q4, q5, q6⟩
      rw [← q1]; rfl

end Go.Proofs.Qxb6600463a
