/-
  Plain laws, on: what a loop over the text keeps. No Go in sight.
-/
import Derived.Test.Qxb6600463aScan
namespace Go.Proofs.Qxb6600463a
set_option linter.unusedSimpArgs false
set_option linter.unusedVariables false

/-- the scan from place a, started in 's', stands in state t at place i, outside of a string -/
def At (c : Nat → Int) (s : St) (a i : Nat) (dep mx mn : Int) : Prop := a ≤ i ∧ run s (seg c a (i - a)) = ⟨0, dep, mx, mn⟩

theorem at_start (c : Nat → Int) (a : Nat) (k mx mn : Int) : At c ⟨0, k, mx, mn⟩ a a k mx mn := ⟨Nat.le_refl _, by rw [Nat.sub_self]; rfl⟩

theorem run_to {c : Nat → Int} {s : St} {a i : Nat} {dep mx mn : Int} (h : At c s a i dep mx mn) (n : Nat) (hn : i ≤ n) : run s (seg c a (n - a)) = run ⟨0, dep, mx, mn⟩ (seg c i (n - i)) := by
  have h1 := h.1
  rw [show n - a = (i - a) + (n - i) by omega, seg_add, run_append, h.2, show a + (i - a) = i by omega]

theorem at_step {c : Nat → Int} {s : St} {a i : Nat} {dep mx mn dep' mx' mn' : Int} (h : At c s a i dep mx mn) (hs : step ⟨0, dep, mx, mn⟩ (c i) = ⟨0, dep', mx', mn'⟩) : At c s a (i + 1) dep' mx' mn' := by
  have h1 := h.1
  refine ⟨by omega, ?_⟩
  rw [run_to h (i + 1) (by omega), show i + 1 - i = 1 by omega]
  exact hs

theorem at_open {c : Nat → Int} {s : St} {a i : Nat} {dep mx mn : Int} (h : At c s a i dep mx mn) (hx : c i = 123 ∨ c i = 91) : At c s a (i + 1) (dep + 1) (max mx (dep + 1)) mn :=
  at_step h (by rw [step_open rfl hx])
theorem at_close {c : Nat → Int} {s : St} {a i : Nat} {dep mx mn : Int} (h : At c s a i dep mx mn) (hx : c i = 125 ∨ c i = 93) : At c s a (i + 1) (dep - 1) mx (min mn (dep - 1)) :=
  at_step h (by rw [step_close rfl hx])
theorem at_plain {c : Nat → Int} {s : St} {a i : Nat} {dep mx mn : Int} (h : At c s a i dep mx mn) (h1 : c i ≠ 34) (h2 : c i ≠ 123) (h3 : c i ≠ 91) (h4 : c i ≠ 125) (h5 : c i ≠ 93) : At c s a (i + 1) dep mx mn :=
  at_step h (by rw [step_plain rfl h1 h2 h3 h4 h5])

/-- at a quote: the string closes, ahead of the text's end; behind it the scan stands as it stood -/
theorem at_quote {c : Nat → Int} {s : St} {a i n : Nat} {dep mx mn : Int} (h : At c s a i dep mx mn) (hn : i < n) (hend : (run s (seg c a (n - a))).m = 0) (hx : c i = 34) :
    ∃ L, i + L + 2 ≤ n ∧ StrTok c i L ∧ At c s a (i + L + 2) dep mx mn := by
  have h1 := h.1
  rw [run_to h n (by omega), show n - i = (n - i - 1) + 1 by omega] at hend
  have e1 : seg c i (n - i - 1 + 1) = c i :: seg c (i + 1) (n - i - 1) := rfl
  rw [e1, hx] at hend
  have e2 : run ⟨0, dep, mx, mn⟩ (34 :: seg c (i + 1) (n - i - 1)) = run ⟨if false then 2 else 1, dep, mx, mn⟩ (seg c (i + 1) (n - i - 1)) := by
    simp [run, step]
  rw [e2] at hend
  obtain ⟨p, r, h2, h3⟩ := find_end dep mx mn _ false hend
  have hl := congrArg List.length h2
  rw [seg_len] at hl
  simp at hl
  have hs : seg c i (p.length + 2) = (34 :: p) ++ [34] := by
    have e3 : seg c i (n - i - 1 + 1) = seg c i (p.length + 2) ++ seg c (i + (p.length + 2)) r.length := by
      rw [← seg_add]; congr 1; omega
    rw [e1, hx, h2] at e3
    have e4 : (34 : Int) :: (p ++ 34 :: r) = ((34 :: p) ++ [34]) ++ r := by simp
    rw [e4] at e3
    have := List.append_inj e3 (by simp [seg_len])
    exact this.1.symm
  refine ⟨p.length, by omega, tok_of_seg rfl hs h3, by omega, ?_⟩
  rw [run_to h (i + p.length + 2) (by omega), show i + p.length + 2 - i = p.length + 2 by omega, hs]
  exact run_str _ rfl p h3

/-- bounds on the counts -/
theorem at_bd {c : Nat → Int} {a i : Nat} {k dep mx mn : Int} (h : At c ⟨0, k, k, k⟩ a i dep mx mn) : dep ≤ mx ∧ dep ≤ k + (i - a : Nat) ∧ k - (i - a : Nat) ≤ dep ∧ k ≤ mx ∧ mx ≤ k + (i - a : Nat) := by
  have := run_bd (seg c a (i - a)) ⟨0, k, k, k⟩ (Int.le_refl _)
  rw [h.2, seg_len] at this
  exact this

/-- within a balanced piece the depth never falls below its start -/
theorem at_ge {c : Nat → Int} {a i n d : Nat} {k dep mx mn : Int} (h : At c ⟨0, k, k, k⟩ a i dep mx mn) (hn : i ≤ n) (hb : Bal (seg c a (n - a)) d) : k ≤ dep := by
  have h1 := hb.run k k k (Int.le_refl _) (Int.le_refl _)
  rw [run_to h n hn] at h1
  have h2 := run_mn (seg c a (i - a)) ⟨0, k, k, k⟩ (Int.le_refl _)
  rw [h.2] at h2
  have h3 := run_mn (seg c i (n - i)) ⟨0, dep, mx, mn⟩ h2.1
  rw [h1] at h3
  have h4 := h3.2
  have h5 := h2.1
  simp only at h4 h5
  omega

theorem bal_mode {l : List Int} {d : Nat} (h : Bal l d) (k : Int) : (run ⟨0, k, k, k⟩ l).m = 0 := by
  rw [h.run k k k (Int.le_refl _) (Int.le_refl _)]

theorem at_end {c : Nat → Int} {a n d : Nat} {k dep mx mn : Int} (h : At c ⟨0, k, k, k⟩ a n dep mx mn) (hb : Bal (seg c a (n - a)) d) : dep = k ∧ mx = k + d := by
  have h1 := hb.run k k k (Int.le_refl _) (Int.le_refl _)
  rw [h.2] at h1
  injection h1 with e1 e2 e3 e4
  refine ⟨e2, ?_⟩
  rw [e3]; omega

def wsB (x : Int) : Bool := decide (x = 32 ∨ x = 9 ∨ x = 10 ∨ x = 13)
theorem wsB_iff {x : Int} : wsB x = true ↔ isWs x := by unfold wsB isWs; exact decide_eq_true_iff

theorem blank_step {c : Nat → Int} {j k : Nat} (h : Blank c j k) (hx : wsB (c k) = true) : Blank c j (k + 1) := by
  have h1 := h.1
  refine ⟨by omega, fun x h2 h3 => ?_⟩
  by_cases e : x = k
  · rw [e]; exact wsB_iff.1 hx
  · exact h.2 x h2 (by omega)
theorem blank_refl (c : Nat → Int) (j : Nat) : Blank c j j := ⟨Nat.le_refl _, fun x h1 h2 => by omega⟩

end Go.Proofs.Qxb6600463a
