/-
  bytes.IndexByte (22) and jsonscan.StringEnd (11).
-/
import Derived.Test.Qxb6600463aRows
import Derived.Test.Qxb6600463aStr
import Derived.WalkKit
import Derived.WalkSpells
import Derived.WalkLawsBesides
namespace Go.Proofs.Qxb6600463a
open Go.RowKit
set_option linter.unusedSimpArgs false
set_option linter.unusedVariables false

theorem ret_bool {a b : Bool} (h : a = b) : Ending.returned (.bool a) = .returned (.bool b) := by rw [h]
theorem ret_int {k : IntKind} {a b : Int} (h : a = b) : Ending.returned (.int k a) = .returned (.int k b) := by rw [h]

/-- the text: n bytes from place off of block b on, byte j is 'c j' -/
def Txt (w : World) (b off n : Nat) (c : Nat → Int) : Prop :=
  (∀ j, j < n → w.cell? ⟨b, off + j, none⟩ = some (.int .u8 (c j))) ∧ ∀ j, 0 ≤ c j ∧ c j < 256

set_option maxHeartbeats 1000000 in
theorem idx_calls (b off n cap k : Nat) (c : Nat → Int) (w : World) (ht : Txt w b off n c) (hk : k < n) (h34 : c k = 34) (hn : ∀ j, j < k → c j ≠ 34) :
    Calls Try.prog 22 #[.slice (some ⟨b, off, none⟩) n cap, .int .u8 34] w fun e w' => e = .returned (.int .i64 (k : Int)) ∧ w' = w := by
  have hx : ((List.range n).map c).length = n := by simp
  have hg : ∀ j, j < n → ((List.range n).map c).getD j 0 = c j := by
    intro j hj
    simp [List.getD, hj]
  have hrun := Lib.run_indexByteSlice (P := Try.prog) w b off n cap ((List.range n).map c) hx (fun j hj => by rw [ht.1 j hj, hg j hj]) 34
  have hv : Lib.indexByte (Lib.bytesOf ((List.range n).map c)) (34 : Int).toNat.toUInt8 = (k : Int) :=
    idx_bytes _ k (by rw [hx]; exact hk) (fun x hx => by obtain ⟨j, _, rfl⟩ := List.mem_map.1 hx; exact ht.2 j) (by rw [hg k hk]; exact h34) (fun j hj => by rw [hg j (by omega)]; exact hn j hj)
  rw [hv] at hrun
  have HR : Hid ((Extern.BytealgIndexByte.indexByte #[.slice (some ⟨b, off, none⟩) n cap, .int .u8 34]).run Try.prog w = .ok (.int .i64 (k : Int)) w) := hrun
  clear hrun hv hg hx hn h34 hk ht
  go_enter Try.func22, Try.ntmps22
  go_wp2
  rw [run_callFunc_extern Try.func27 (by kernel_rfl) (by kernel_rfl) (by kernel_rfl) (e := Extern.BytealgIndexByte.indexByte) (by kernel_rfl), HR.out]
  simp only [Result.andThen]
  rw [Oper.upon_value]
  go_wp2
  go_ret
  exact ⟨rfl, rfl⟩

theorem txt_from {w : World} {b off n : Nat} {c : Nat → Int} (ht : Txt w b off n c) (p : Nat) : Txt w b (off + p) (n - p) (fun j => c (p + j)) :=
  ⟨fun j hj => by rw [Nat.add_assoc]; exact ht.1 (p + j) (by omega), fun j => ht.2 _⟩
theorem quote_at {c : Nat → Int} {i m d : Nat} (h : c (i + 1 + (m + d)) = 34) : c (i + m + 1 + d) = 34 := by
  rw [show i + m + 1 + d = i + 1 + (m + d) by omega]; exact h
theorem quote_none {c : Nat → Int} {i m d : Nat} (h : ∀ j, m ≤ j → j < m + d → ¬ c (i + 1 + j) = 34) : ∀ j, j < d → c (i + m + 1 + j) ≠ 34 := by
  intro j hj
  rw [show i + m + 1 + j = i + 1 + (m + j) by omega]
  exact h (m + j) (by omega) (by omega)

theorem run_more {c : Nat → Int} {i m d E : Nat} (h : ∀ j, j < E → c (i + (m + d) - j) = 92) (h92 : c (i + m + d - E) = 92) : ∀ j, j < E + 1 → c (i + (m + d) - j) = 92 := by
  intro j hj
  by_cases e : j = E
  · rw [e, show i + (m + d) - E = i + m + d - E by omega]; exact h92
  · exact h j (by omega)

set_option maxHeartbeats 1000000 in
theorem strEnd_calls (b off n cap i L : Nat) (c : Nat → Int) (w : World) (ht : Hid (Txt w b off n c)) (hn : n ≤ 1000000) (hcap : n ≤ cap) (hL : i + L + 2 ≤ n) (hs : Hid (StrTok c i L)) :
    Calls Try.prog 11 #[.slice (some ⟨b, off, none⟩) n cap, .int .i64 (i : Int)] w fun e w' => e = .returned (.int .i64 ((i + L + 2 : Nat) : Int)) ∧ w' = w := by
  go_enter Try.func11, Try.ntmps11
  go_wp2
  go_loop [1] (fun v => ∃ m : Nat, m ≤ L ∧ v = .int .i64 ((i + m : Nat) : Int) ∧ Hid (c (i + m) = 34)) (fun v => i + L + 1 - (intOf v).toNat)
  case atStart => exact ⟨0, Nat.zero_le _, rfl, hs.out.first⟩
  case round =>
    obtain ⟨m, hm, rfl, hq⟩ := hrel
    obtain ⟨k, hk1, hk2, hk3, hk4⟩ := first_quote (fun k => c (i + 1 + k) = 34) L hs.out.last (L - m) m (by omega)
    obtain ⟨d, rfl⟩ : ∃ d, k = m + d := ⟨k - m, by omega⟩
    have h3 : Hid (c (i + 1 + (m + d)) = 34) := hk3
    have h4 : Hid (∀ j, m ≤ j → j < m + d → ¬ c (i + 1 + j) = 34) := hk4
    clear hk3 hk4 hk1
    go_wp2_with fail
    refine (idx_calls b (off + (i + m + 1)) (n - (i + m + 1)) (cap - (i + m + 1)) d (fun j => c (i + m + 1 + j)) w (txt_from ht.out _ ) (by omega) (quote_at h3.out) (quote_none h4.out)).mono ?_
    rintro e w' ⟨rfl, rfl⟩
    go_wp2
    go_loop [6] (fun v => ∃ E : Nat, E ≤ d ∧ v = .int .i64 (E : Int) ∧ Hid (∀ j, j < E → c (i + (m + d) - j) = 92)) (fun v => d - (intOf v).toNat)
    case atStart => exact ⟨0, Nat.zero_le _, rfl, fun j hj => absurd hj (Nat.not_lt_zero j)⟩
    case round =>
      obtain ⟨E, hE, rfl, hr⟩ := hrel
      have hcx := ht.out.1 (i + m + d - E) (by omega)
      by_cases h92 : c (i + m + d - E) = 92
      · have hEd : E < d := by
          by_cases e : E = d
          · exfalso
            subst e
            have := hq.out
            rw [show i + m + E - E = i + m by omega] at h92
            omega
          · omega
        have hb : (c (i + m + d - E) == 92) = true := beq_iff_eq.2 h92
        have hr2 : Hid (∀ j, j < E + 1 → c (i + (m + d) - j) = 92) := run_more hr.out h92
        clear h92
        go_wp2
        go_round
        case rel => exact ⟨E + 1, by omega, by go_num, hr2⟩
        case measure => simp [intOf]; omega
      · have hb : (c (i + m + d - E) == 92) = false := beq_eq_false_iff_ne.2 h92
        have hes : escAt c i (m + d) = decide (E % 2 = 1) := esc_run c i (m + d) E (by omega) hr.out (by rw [show i + (m + d) - E = i + m + d - E by omega]; exact h92)
        by_cases hev : E % 2 = 1
        · have hlt : m + d < L := by
            by_cases e : m + d = L
            · exfalso
              have := hs.out.free
              rw [e] at hes
              rw [hes] at this
              simp [hev] at this
            · omega
          have hb2 : ((E : Int) % 2 == 0) = false := beq_eq_false_iff_ne.2 (by omega)
          have hq2 : Hid (c (i + (m + d + 1)) = 34) := by
            show c (i + (m + d + 1)) = 34
            rw [show i + (m + d + 1) = i + 1 + (m + d) by omega]; exact h3.out
          clear h92 hes hev
          go_wp2
          go_round
          case rel => exact ⟨m + d + 1, by omega, by go_num, hq2⟩
          case measure => simp [intOf]; omega
        · have hlt : m + d = L := by
            by_cases e : m + d = L
            · exact e
            · exfalso
              have := hs.out.inner (m + d) (by omega) h3.out
              rw [hes] at this
              simp [hev] at this
          have hb2 : ((E : Int) % 2 == 0) = true := beq_iff_eq.2 (by omega)
          have HL : Hid (m + d = L) := hlt
          clear h92 hes hev hlt
          go_wp2
          go_ret
          exact ⟨ret_int (by have := HL.out; omega), rfl⟩

end Go.Proofs.Qxb6600463a
