/-
  Plain laws on JSON string tokens in a text 'c : Nat → Int' (byte k of the text is 'c k'). No Go in sight.
-/
import Derived.Lib.BytesEntry
namespace Go.Proofs.Qxb6600463a
set_option linter.unusedSimpArgs false
set_option linter.unusedVariables false

/-- is the byte at place i + 1 + k escaped, in a string token that opens at i? -/
def escAt (c : Nat → Int) (i : Nat) : Nat → Bool
  | 0 => false
  | k + 1 => (c (i + 1 + k) == 92) && !escAt c i k

/-- a string token opens at i, its body has L bytes, its closing quote lies at i + 1 + L -/
structure StrTok (c : Nat → Int) (i L : Nat) : Prop where
  first : c i = 34
  last : c (i + 1 + L) = 34
  free : escAt c i L = false
  inner : ∀ k, k < L → c (i + 1 + k) = 34 → escAt c i k = true

/-- the first quote from place m on -/
theorem first_quote (p : Nat → Prop) [DecidablePred p] (L : Nat) (hL : p L) : ∀ (d m : Nat), m + d = L → ∃ k, m ≤ k ∧ k ≤ L ∧ p k ∧ ∀ j, m ≤ j → j < k → ¬ p j
  | 0, m, h => ⟨L, by omega, Nat.le_refl _, hL, fun j h1 h2 => by omega⟩
  | d + 1, m, h => by
    by_cases hm : p m
    · exact ⟨m, Nat.le_refl _, by omega, hm, fun j h1 h2 => by omega⟩
    · obtain ⟨k, h1, h2, h3, h4⟩ := first_quote p L hL d (m + 1) (by omega)
      refine ⟨k, by omega, h2, h3, fun j h5 h6 => ?_⟩
      by_cases e : j = m
      · rw [e]; exact hm
      · exact h4 j (by omega) h6

/-- a run of E backslashes that ends just ahead of place i + 1 + k, and no further -/
theorem esc_run (c : Nat → Int) (i k E : Nat) (hE : E ≤ k) (hrun : ∀ j, j < E → c (i + k - j) = 92) (hstop : c (i + k - E) ≠ 92) :
    escAt c i k = decide (E % 2 = 1) := by
  have h0 : escAt c i (k - E) = false := by
    cases hk : k - E with
    | zero => rfl
    | succ q =>
      unfold escAt
      have : i + 1 + q = i + k - E := by omega
      rw [this, beq_eq_false_iff_ne.2 hstop]; rfl
  have step : ∀ j, j ≤ E → escAt c i (k - E + j) = decide (j % 2 = 1) := by
    intro j
    induction j with
    | zero => intro _; simpa using h0
    | succ j ih =>
      intro hj
      have ih' := ih (by omega)
      rw [← Nat.add_assoc]
      unfold escAt
      have h92 := hrun (E - 1 - j) (by omega)
      have : i + 1 + (k - E + j) = i + k - (E - 1 - j) := by omega
      rw [this, h92, ih']
      have h1 : (j + 1) % 2 = 1 ↔ ¬ j % 2 = 1 := by omega
      by_cases hq : j % 2 = 1 <;> simp [h1, hq]
  have := step E (Nat.le_refl _)
  rwa [show k - E + E = k by omega] at this

/-- the body of a string token, as bytes: 'e': the byte to come is escaped -/
def okB : Bool → List Int → Bool
  | e, [] => !e
  | true, _ :: l => okB false l
  | false, x :: l => if x = 92 then okB true l else if x = 34 then false else okB false l

theorem okB_t (x : Int) (l : List Int) : okB true (x :: l) = okB false l := by simp [okB]
theorem okB_f (x : Int) (l : List Int) : okB false (x :: l) = if x = 92 then okB true l else if x = 34 then false else okB false l := by simp [okB]

theorem okB_append : ∀ (a : List Int) (e : Bool) (b : List Int), okB e a = true → okB e (a ++ b) = okB false b
  | [], e, b, h => by
    cases e
    · rfl
    · simp [okB] at h
  | x :: a, true, b, h => by
    rw [List.cons_append, okB_t]; rw [okB_t] at h; exact okB_append a false b h
  | x :: a, false, b, h => by
    rw [List.cons_append, okB_f]
    rw [okB_f] at h
    by_cases h1 : x = 92
    · rw [if_pos h1] at h ⊢; exact okB_append a true b h
    · rw [if_neg h1] at h ⊢
      by_cases h2 : x = 34
      · rw [if_pos h2] at h; cases h
      · rw [if_neg h2] at h ⊢; exact okB_append a false b h

theorem esc_of_body (c : Nat → Int) (i : Nat) : ∀ (l : List Int) (j : Nat) (e : Bool), okB e l = true → (∀ k, k < l.length → c (i + 1 + j + k) = l.getD k 0) → escAt c i j = e →
    escAt c i (j + l.length) = false ∧ ∀ k, k < l.length → c (i + 1 + j + k) = 34 → escAt c i (j + k) = true
  | [], j, e, h, _, he => by
    cases e
    · exact ⟨by simpa using he, fun k hk => by simp at hk⟩
    · simp [okB] at h
  | x :: l, j, e, h, hc, he => by
    have hx : c (i + 1 + j) = x := by simpa using hc 0 (by simp)
    have hs : escAt c i (j + 1) = ((x == 92) && !e) := by unfold escAt; rw [hx, he]
    have hc' : ∀ k, k < l.length → c (i + 1 + (j + 1) + k) = l.getD k 0 := by
      intro k hk
      have := hc (k + 1) (by simp; omega)
      rw [show i + 1 + (j + 1) + k = i + 1 + j + (k + 1) by omega, this]
      simp
    have hcase : okB ((x == 92) && !e) l = true ∧ (x = 34 → e = true) := by
      cases e
      · rw [okB_f] at h
        by_cases h1 : x = 92
        · rw [if_pos h1] at h
          refine ⟨?_, fun h2 => by omega⟩
          rw [h1]; exact h
        · rw [if_neg h1] at h
          by_cases h2 : x = 34
          · rw [if_pos h2] at h; cases h
          · rw [if_neg h2] at h
            refine ⟨?_, fun h3 => absurd h3 h2⟩
            rw [beq_eq_false_iff_ne.2 h1]; exact h
      · rw [okB_t] at h
        refine ⟨?_, fun _ => rfl⟩
        simpa using h
    obtain ⟨r1, r2⟩ := esc_of_body c i l (j + 1) _ hcase.1 hc' hs
    refine ⟨?_, fun k hk hq => ?_⟩
    · rw [List.length_cons, show j + (l.length + 1) = j + 1 + l.length by omega]; exact r1
    · cases k with
      | zero =>
        have : x = 34 := by rw [← hx]; simpa using hq
        rw [Nat.add_zero, he]; exact hcase.2 this
      | succ k =>
        have := r2 k (by simp at hk; omega) (by rw [show i + 1 + (j + 1) + k = i + 1 + j + (k + 1) by omega]; exact hq)
        rwa [show j + 1 + k = j + (k + 1) by omega] at this

theorem strTok_of_body (c : Nat → Int) (i : Nat) (l : List Int) (h : okB false l = true) (h0 : c i = 34) (hc : ∀ k, k < l.length → c (i + 1 + k) = l.getD k 0) (h1 : c (i + 1 + l.length) = 34) : StrTok c i l.length := by
  obtain ⟨r1, r2⟩ := esc_of_body c i l 0 false h (by simpa using hc) rfl
  exact ⟨h0, h1, by simpa using r1, by simpa using r2⟩

/-- 'Lib.indexByte' over numbers that are bytes -/
theorem idx_bytes : ∀ (xs : List Int) (k : Nat), k < xs.length → (∀ x ∈ xs, 0 ≤ x ∧ x < 256) → xs.getD k 0 = 34 → (∀ j, j < k → xs.getD j 0 ≠ 34) → Lib.indexByte (Lib.bytesOf xs) 34 = (k : Int)
  | [], k, h, _, _, _ => by simp at h
  | x :: l, k, h, hb, hk, hn => by
    have hx := hb x List.mem_cons_self
    have e : Lib.bytesOf (x :: l) = x.toNat.toUInt8 :: Lib.bytesOf l := rfl
    rw [e]
    unfold Lib.indexByte
    cases k with
    | zero =>
      have : x = 34 := by simpa using hk
      subst this
      rfl
    | succ k =>
      have h34 : x ≠ 34 := by simpa using hn 0 (by omega)
      have hne : (x.toNat.toUInt8 == 34) = false := by
        rw [beq_eq_false_iff_ne]
        intro e2
        have e3 := congrArg UInt8.toNat e2
        have e4 : (x.toNat.toUInt8).toNat = x.toNat % 256 := by simp
        rw [e4] at e3
        have : (34 : UInt8).toNat = 34 := rfl
        omega
      have ih := idx_bytes l k (by simpa using h) (fun y hy => hb y (List.mem_cons_of_mem _ hy)) (by simpa using hk) (fun j hj => by simpa using hn (j + 1) (by omega))
      rw [hne, ih]
      have : (((k : Int)) == -1) = false := beq_eq_false_iff_ne.2 (by omega)
      rw [this]
      simp

end Go.Proofs.Qxb6600463a
