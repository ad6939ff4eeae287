/-
  Plain laws: scanning a JSON text for its brackets, strings stepped over. No Go in sight.
-/
import Derived.Test.Qxb6600463aStr
namespace Go.Proofs.Qxb6600463a
set_option linter.unusedSimpArgs false
set_option linter.unusedVariables false

/-- n bytes of the text from place i on -/
def seg (c : Nat → Int) : Nat → Nat → List Int
  | _, 0 => []
  | i, n + 1 => c i :: seg c (i + 1) n

theorem seg_len (c : Nat → Int) : ∀ (n i : Nat), (seg c i n).length = n
  | 0, _ => rfl
  | n + 1, i => by simp [seg, seg_len c n (i + 1)]

theorem seg_add (c : Nat → Int) : ∀ (m i n : Nat), seg c i (m + n) = seg c i m ++ seg c (i + m) n
  | 0, i, n => by simp [seg]
  | m + 1, i, n => by
    rw [show m + 1 + n = (m + n) + 1 by omega]
    simp only [seg, List.cons_append]
    rw [seg_add c m (i + 1) n, show i + 1 + m = i + (m + 1) by omega]

theorem seg_get (c : Nat → Int) : ∀ (n i k : Nat), k < n → (seg c i n).getD k 0 = c (i + k)
  | 0, _, _, h => by omega
  | n + 1, i, 0, _ => by simp [seg]
  | n + 1, i, k + 1, h => by
    simp only [seg, List.getD_cons_succ]
    rw [seg_get c n (i + 1) k (by omega), show i + 1 + k = i + (k + 1) by omega]

theorem seg_mem (c : Nat → Int) : ∀ (n i : Nat) (x : Int), x ∈ seg c i n → ∃ k, i ≤ k ∧ k < i + n ∧ x = c k
  | 0, _, _, h => by simp [seg] at h
  | n + 1, i, x, h => by
    rcases List.mem_cons.1 h with rfl | h1
    · exact ⟨i, Nat.le_refl _, by omega, rfl⟩
    · obtain ⟨k, h2, h3, h4⟩ := seg_mem c n (i + 1) x h1
      exact ⟨k, by omega, by omega, h4⟩

theorem seg_congr (c c' : Nat → Int) : ∀ (n i i' : Nat), (∀ k, k < n → c (i + k) = c' (i' + k)) → seg c i n = seg c' i' n
  | 0, _, _, _ => rfl
  | n + 1, i, i', h => by
    simp only [seg]
    have h0 := h 0 (by omega)
    rw [Nat.add_zero, Nat.add_zero] at h0
    rw [h0, seg_congr c c' n (i + 1) (i' + 1) (fun k hk => by
      have := h (k + 1) (by omega)
      rwa [show i + (k + 1) = i + 1 + k by omega, show i' + (k + 1) = i' + 1 + k by omega] at this)]

/-- where the scan stands: m: 0 outside of a string, 1 inside, 2 behind a backslash; d: the depth; mx: the deepest so far; mn: the least so far -/
structure St where
  m : Nat
  d : Int
  mx : Int
  mn : Int

def step (s : St) (x : Int) : St :=
  if s.m = 0 then
    if x = 34 then ⟨1, s.d, s.mx, s.mn⟩
    else if x = 123 ∨ x = 91 then ⟨0, s.d + 1, max s.mx (s.d + 1), s.mn⟩
    else if x = 125 ∨ x = 93 then ⟨0, s.d - 1, s.mx, min s.mn (s.d - 1)⟩
    else s
  else if s.m = 1 then
    if x = 92 then ⟨2, s.d, s.mx, s.mn⟩ else if x = 34 then ⟨0, s.d, s.mx, s.mn⟩ else s
  else ⟨1, s.d, s.mx, s.mn⟩

def run (s : St) : List Int → St
  | [] => s
  | x :: l => run (step s x) l

theorem run_append : ∀ (a b : List Int) (s : St), run s (a ++ b) = run (run s a) b
  | [], _, _ => rfl
  | x :: a, b, s => by simp only [List.cons_append, run]; exact run_append a b (step s x)

theorem step_open {s : St} {x : Int} (hm : s.m = 0) (hx : x = 123 ∨ x = 91) : step s x = ⟨0, s.d + 1, max s.mx (s.d + 1), s.mn⟩ := by
  unfold step
  rw [if_pos hm, if_neg (by omega), if_pos hx]
theorem step_close {s : St} {x : Int} (hm : s.m = 0) (hx : x = 125 ∨ x = 93) : step s x = ⟨0, s.d - 1, s.mx, min s.mn (s.d - 1)⟩ := by
  unfold step
  rw [if_pos hm, if_neg (by omega), if_neg (by omega), if_pos hx]
theorem step_plain {s : St} {x : Int} (hm : s.m = 0) (h1 : x ≠ 34) (h2 : x ≠ 123) (h3 : x ≠ 91) (h4 : x ≠ 125) (h5 : x ≠ 93) : step s x = s := by
  unfold step
  rw [if_pos hm, if_neg h1, if_neg (by omega), if_neg (by omega)]
theorem step_quote {s : St} (hm : s.m = 0) : step s 34 = ⟨1, s.d, s.mx, s.mn⟩ := by
  unfold step
  rw [if_pos hm, if_pos rfl]

/-- inside a string nothing turns but the mode -/
theorem run_body (d mx mn : Int) : ∀ (l : List Int) (e : Bool), okB e l = true → run ⟨if e then 2 else 1, d, mx, mn⟩ l = ⟨1, d, mx, mn⟩
  | [], e, h => by
    cases e
    · rfl
    · simp [okB] at h
  | x :: l, true, h => by
    rw [okB_t] at h
    have := run_body d mx mn l false h
    simpa [run, step] using this
  | x :: l, false, h => by
    rw [okB_f] at h
    by_cases h1 : x = 92
    · rw [if_pos h1] at h
      have := run_body d mx mn l true h
      simpa [run, step, h1] using this
    · rw [if_neg h1] at h
      by_cases h2 : x = 34
      · rw [if_pos h2] at h; cases h
      · rw [if_neg h2] at h
        have := run_body d mx mn l false h
        simpa [run, step, h1, h2] using this

theorem run_str (s : St) (hm : s.m = 0) (p : List Int) (h : okB false p = true) : run s ((34 :: p) ++ [34]) = s := by
  obtain ⟨m, d, mx, mn⟩ := s
  simp only at hm
  subst hm
  rw [run_append]
  have e1 : run ⟨0, d, mx, mn⟩ (34 :: p) = run ⟨1, d, mx, mn⟩ p := by simp [run, step]
  have e2 := run_body d mx mn p false h
  simp only [Bool.false_eq_true, if_false] at e2
  rw [e1, e2]
  simp [run, step]

/-- a string that is open closes, if the scan ends outside of one -/
theorem find_end (d mx mn : Int) : ∀ (l : List Int) (e : Bool), (run ⟨if e then 2 else 1, d, mx, mn⟩ l).m = 0 → ∃ p r, l = p ++ 34 :: r ∧ okB e p = true
  | [], e, h => by cases e <;> simp [run] at h
  | x :: l, true, h => by
    have h' : (run ⟨if false then 2 else 1, d, mx, mn⟩ l).m = 0 := by simpa [run, step] using h
    obtain ⟨p, r, e1, e2⟩ := find_end d mx mn l false h'
    exact ⟨x :: p, r, by rw [e1]; rfl, by rw [okB_t]; exact e2⟩
  | x :: l, false, h => by
    by_cases h1 : x = 92
    · have h' : (run ⟨if true then 2 else 1, d, mx, mn⟩ l).m = 0 := by simpa [run, step, h1] using h
      obtain ⟨p, r, e1, e2⟩ := find_end d mx mn l true h'
      exact ⟨x :: p, r, by rw [e1]; rfl, by rw [okB_f, if_pos h1]; exact e2⟩
    · by_cases h2 : x = 34
      · exact ⟨[], l, by rw [h2]; rfl, rfl⟩
      · have h' : (run ⟨if false then 2 else 1, d, mx, mn⟩ l).m = 0 := by simpa [run, step, h1, h2] using h
        obtain ⟨p, r, e1, e2⟩ := find_end d mx mn l false h'
        exact ⟨x :: p, r, by rw [e1]; rfl, by rw [okB_f, if_neg h1, if_neg h2]; exact e2⟩

/-- the least depth is the least -/
theorem step_mn (s : St) (x : Int) (h : s.mn ≤ s.d) : (step s x).mn ≤ (step s x).d ∧ (step s x).mn ≤ s.mn := by
  unfold step
  repeat' split
  all_goals (try simp only [])
  all_goals omega
theorem run_mn : ∀ (l : List Int) (s : St), s.mn ≤ s.d → (run s l).mn ≤ (run s l).d ∧ (run s l).mn ≤ s.mn
  | [], s, h => ⟨h, Int.le_refl _⟩
  | x :: l, s, h => by
    have h1 := step_mn s x h
    have h2 := run_mn l (step s x) h1.1
    simp only [run]
    omega

/-- no count is greater than the text is long -/
theorem step_bd (s : St) (x : Int) (h : s.d ≤ s.mx) : (step s x).d ≤ (step s x).mx ∧ (step s x).d ≤ s.d + 1 ∧ s.d - 1 ≤ (step s x).d ∧ s.mx ≤ (step s x).mx ∧ (step s x).mx ≤ s.mx + 1 := by
  unfold step
  repeat' split
  all_goals (try simp only [])
  all_goals omega
theorem run_bd : ∀ (l : List Int) (s : St), s.d ≤ s.mx → (run s l).d ≤ (run s l).mx ∧ (run s l).d ≤ s.d + l.length ∧ s.d - l.length ≤ (run s l).d ∧ s.mx ≤ (run s l).mx ∧ (run s l).mx ≤ s.mx + l.length
  | [], s, h => by simp [run]; omega
  | x :: l, s, h => by
    have h1 := step_bd s x h
    have h2 := run_bd l (step s x) h1.1
    simp only [run, List.length_cons]
    omega

/-- a piece of a text whose brackets are balanced, d deep -/
structure Bal (l : List Int) (d : Nat) : Prop where
  run : ∀ k mx mn : Int, k ≤ mx → mn ≤ k → run ⟨0, k, mx, mn⟩ l = ⟨0, k, max mx (k + d), mn⟩
  two : 2 * d ≤ l.length

theorem bal_nil : Bal [] 0 := ⟨fun k mx mn h1 h2 => by simp [run]; omega, by simp⟩

theorem bal_app {a b : List Int} {d1 d2 : Nat} (h1 : Bal a d1) (h2 : Bal b d2) : Bal (a ++ b) (max d1 d2) := by
  refine ⟨fun k mx mn g1 g2 => ?_, ?_⟩
  · rw [run_append, h1.run k mx mn g1 g2, h2.run k _ mn (by omega) g2]
    congr 1
    omega
  · have := h1.two; have := h2.two
    rw [List.length_append]; omega

theorem bal_plain : ∀ (l : List Int), (∀ x ∈ l, x ≠ 34 ∧ x ≠ 123 ∧ x ≠ 91 ∧ x ≠ 125 ∧ x ≠ 93) → Bal l 0
  | [], _ => bal_nil
  | x :: l, h => by
    have hx := h x List.mem_cons_self
    have ih := bal_plain l (fun y hy => h y (List.mem_cons_of_mem _ hy))
    refine ⟨fun k mx mn g1 g2 => ?_, by simp⟩
    show Qxb6600463a.run (step ⟨0, k, mx, mn⟩ x) l = _
    rw [step_plain rfl hx.1 hx.2.1 hx.2.2.1 hx.2.2.2.1 hx.2.2.2.2]
    exact ih.run k mx mn g1 g2

theorem bal_str {p : List Int} (h : okB false p = true) : Bal ((34 :: p) ++ [34]) 0 := by
  refine ⟨fun k mx mn g1 g2 => ?_, by simp⟩
  rw [run_str ⟨0, k, mx, mn⟩ rfl p h]
  congr 1
  omega

theorem bal_wrap {o x : Int} {p : List Int} {d : Nat} (ho : o = 123 ∨ o = 91) (hx : x = 125 ∨ x = 93) (h : Bal p d) : Bal ((o :: p) ++ [x]) (d + 1) := by
  refine ⟨fun k mx mn g1 g2 => ?_, ?_⟩
  · rw [run_append]
    have e1 : Qxb6600463a.run ⟨0, k, mx, mn⟩ (o :: p) = Qxb6600463a.run ⟨0, k + 1, max mx (k + 1), mn⟩ p := by
      show Qxb6600463a.run (step ⟨0, k, mx, mn⟩ o) p = _
      rw [step_open rfl ho]
    rw [e1, h.run (k + 1) _ mn (by omega) (by omega)]
    simp only [Qxb6600463a.run]
    rw [step_close rfl hx]
    simp only []
    have e2 : k + 1 - 1 = k := by omega
    have e3 : min mn (k + 1 - 1) = mn := by omega
    have e4 : max (max mx (k + 1)) (k + 1 + (d : Int)) = max mx (k + ((d + 1 : Nat) : Int)) := by omega
    simp only [e3, e4]
    rw [e2]
  · have := h.two
    simp; omega

/-- a byte of a number, of true, false or null -/
def sc (x : Int) : Prop := (48 ≤ x ∧ x ≤ 57) ∨ (97 ≤ x ∧ x ≤ 122) ∨ x = 45 ∨ x = 43 ∨ x = 46 ∨ x = 69
def isWs (x : Int) : Prop := x = 32 ∨ x = 9 ∨ x = 10 ∨ x = 13

theorem sc_plain {x : Int} (h : sc x) : x ≠ 34 ∧ x ≠ 123 ∧ x ≠ 91 ∧ x ≠ 125 ∧ x ≠ 93 := by unfold sc at h; omega
theorem ws_plain {x : Int} (h : isWs x) : x ≠ 34 ∧ x ≠ 123 ∧ x ≠ 91 ∧ x ≠ 125 ∧ x ≠ 93 := by unfold isWs at h; omega

/-- a value, as bytes; d: how deep it nests -/
structure Val (v : List Int) (d : Nat) : Prop where
  bal : Bal v d
  kind : (∃ p, v = (34 :: p) ++ [34] ∧ okB false p = true) ∨
    (∃ o p x d', v = (o :: p) ++ [x] ∧ (o = 123 ∨ o = 91) ∧ (x = 125 ∨ x = 93) ∧ Bal p d') ∨
    (v ≠ [] ∧ ∀ x ∈ v, sc x)

theorem val_str {p : List Int} (h : okB false p = true) : Val ((34 :: p) ++ [34]) 0 := ⟨bal_str h, .inl ⟨p, rfl, h⟩⟩
theorem val_cont {o x : Int} {p : List Int} {d : Nat} (ho : o = 123 ∨ o = 91) (hx : x = 125 ∨ x = 93) (h : Bal p d) : Val ((o :: p) ++ [x]) (d + 1) :=
  ⟨bal_wrap ho hx h, .inr (.inl ⟨o, p, x, d, rfl, ho, hx, h⟩)⟩
theorem val_scal {v : List Int} (hv : v ≠ []) (h : ∀ x ∈ v, sc x) : Val v 0 := ⟨bal_plain v fun x hx => sc_plain (h x hx), .inr (.inr ⟨hv, h⟩)⟩

/-- the piece [i, j) of the text is balanced -/
def BalSeg (c : Nat → Int) (i j d : Nat) : Prop := i ≤ j ∧ Bal (seg c i (j - i)) d

theorem balSeg_refl (c : Nat → Int) (i : Nat) : BalSeg c i i 0 := ⟨Nat.le_refl _, by rw [Nat.sub_self]; exact bal_nil⟩
theorem balSeg_trans {c : Nat → Int} {i j k d1 d2 : Nat} (h1 : BalSeg c i j d1) (h2 : BalSeg c j k d2) : BalSeg c i k (max d1 d2) := by
  refine ⟨Nat.le_trans h1.1 h2.1, ?_⟩
  have a1 := h1.1
  have a2 := h2.1
  rw [show k - i = (j - i) + (k - j) by omega, seg_add, show i + (j - i) = j by omega]
  exact bal_app h1.2 h2.2

/-- [j, k) holds blanks alone -/
def Blank (c : Nat → Int) (j k : Nat) : Prop := j ≤ k ∧ ∀ x, j ≤ x → x < k → isWs (c x)
theorem blank_bal {c : Nat → Int} {j k : Nat} (h : Blank c j k) : BalSeg c j k 0 := by
  have a := h.1
  refine ⟨a, bal_plain _ fun x hx => ?_⟩
  obtain ⟨q, h1, h2, rfl⟩ := seg_mem c _ _ x hx
  exact ws_plain (h.2 q h1 (by omega))
theorem one_bal {c : Nat → Int} {j : Nat} (h : c j ≠ 34 ∧ c j ≠ 123 ∧ c j ≠ 91 ∧ c j ≠ 125 ∧ c j ≠ 93) : BalSeg c j (j + 1) 0 := by
  refine ⟨by omega, bal_plain _ fun x hx => ?_⟩
  obtain ⟨q, h1, h2, rfl⟩ := seg_mem c _ _ x hx
  rw [show q = j by omega]; exact h

/-- the piece [i, e) of the text is a value -/
def ValSeg (c : Nat → Int) (i e d : Nat) : Prop := i < e ∧ Val (seg c i (e - i)) d
theorem ValSeg.bal {c : Nat → Int} {i e d : Nat} (h : ValSeg c i e d) : BalSeg c i e d := ⟨Nat.le_of_lt h.1, h.2.bal⟩

theorem valSeg_cont {c : Nat → Int} {i j d : Nat} (ho : c i = 123 ∨ c i = 91) (hx : c j = 125 ∨ c j = 93) (h : BalSeg c (i + 1) j d) : ValSeg c i (j + 1) (d + 1) := by
  have a := h.1
  refine ⟨by omega, ?_⟩
  rw [show j + 1 - i = ((j - (i + 1)) + 1) + 1 by omega, seg_add]
  have e1 : seg c i ((j - (i + 1)) + 1) = c i :: seg c (i + 1) (j - (i + 1)) := rfl
  have e2 : seg c (i + ((j - (i + 1)) + 1)) 1 = [c j] := by
    rw [show i + ((j - (i + 1)) + 1) = j by omega]; rfl
  rw [e1, e2]
  exact val_cont ho hx h.2

theorem valSeg_scal {c : Nat → Int} {i e : Nat} (h : i < e) (hs : ∀ k, i ≤ k → k < e → sc (c k)) : ValSeg c i e 0 := by
  refine ⟨h, val_scal ?_ fun x hx => ?_⟩
  · intro h0
    have := seg_len c (e - i) i
    rw [h0] at this
    simp at this
    omega
  · obtain ⟨q, h1, h2, rfl⟩ := seg_mem c _ _ x hx
    exact hs q h1 (by omega)

/-- a string token's piece of the text -/
def StrSeg (c : Nat → Int) (i e : Nat) : Prop := ∃ p, i + p.length + 2 = e ∧ seg c i (e - i) = (34 :: p) ++ [34] ∧ okB false p = true

theorem StrSeg.val {c : Nat → Int} {i e : Nat} (h : StrSeg c i e) : ValSeg c i e 0 := by
  obtain ⟨p, h1, h2, h3⟩ := h
  exact ⟨by omega, by rw [h2]; exact val_str h3⟩

theorem tok_of_seg {c : Nat → Int} {i : Nat} {p : List Int} {n : Nat} (hn : n = p.length + 2) (h : seg c i n = (34 :: p) ++ [34]) (hp : okB false p = true) : StrTok c i p.length := by
  have hg : ∀ k, k < n → c (i + k) = ((34 :: p) ++ [34]).getD k 0 := fun k hk => by rw [← h, seg_get c n i k hk]
  refine strTok_of_body c i p hp ?_ ?_ ?_
  · have := hg 0 (by omega)
    simpa using this
  · intro k hk
    have := hg (1 + k) (by omega)
    rw [show i + (1 + k) = i + 1 + k by omega] at this
    rw [this, show 1 + k = k + 1 by omega, List.cons_append, List.getD_cons_succ]
    simp [List.getD, List.getElem?_append_left hk]
  · have := hg (1 + p.length) (by omega)
    rw [show i + (1 + p.length) = i + 1 + p.length by omega] at this
    rw [this, show 1 + p.length = p.length + 1 by omega, List.cons_append, List.getD_cons_succ]
    simp

theorem StrSeg.tok {c : Nat → Int} {i e : Nat} (h : StrSeg c i e) : ∃ L, i + L + 2 = e ∧ StrTok c i L := by
  obtain ⟨p, h1, h2, h3⟩ := h
  exact ⟨p.length, h1, tok_of_seg (n := e - i) (by omega) h2 h3⟩

end Go.Proofs.Qxb6600463a
