/-
  Slices of bytes that came in, and rows of the call's own: small laws.
-/
import Derived.Test.Qxb6600463aQuote
import Derived.OpenShut
namespace Go.Proofs.Qxb6600463a
open Go.RowKit
set_option linter.unusedSimpArgs false
set_option linter.unusedVariables false

theorem byte_wf {x : Int} (h : (Lit.int .u8 x).wf = true) : 0 ≤ x ∧ x < 256 := by
  have := bounds_u8 h
  omega

/-- what a row's proof hands to the walk, as 'Row' -/
theorem row_of {w : World} {a : Option Addr} {n cap : Nat} {zs : List Int}
    (h : (a = none ∧ n = 0 ∧ cap = 0 ∧ zs = []) ∨ ∃ x, a = some x ∧ n ≤ cap ∧ cap ≤ maxLen ∧ zs.length = cap ∧ (∀ i, i < zs.length → w.cell? (x.add i) = some (.int .u8 (zs.getD i 0))) ∧ ∀ n ∈ zs, (Lit.int .u8 n).wf = true) :
    Row w a n cap (fun j => zs.getD j 0) := by
  rcases h with ⟨rfl, rfl, rfl, rfl⟩ | ⟨x, rfl, h1, h2, h3, h4, h5⟩
  · exact ⟨fun _ => ⟨rfl, rfl⟩, Nat.le_refl _, fun ad h => by simp at h, fun j => by simp, fun h => by omega⟩
  · refine ⟨fun h => by simp at h, h1, fun ad h j hj => ?_, fun j => ?_, fun h => ?_⟩
    · cases h; exact h4 j (by omega)
    · by_cases hj : j < zs.length
      · have e : zs.getD j 0 = zs[j] := by simp [List.getD, List.getElem?_eq_getElem hj]
        show 0 ≤ zs.getD j 0 ∧ zs.getD j 0 < 256
        rw [e]
        exact byte_wf (h5 _ (List.getElem_mem hj))
      · have e : zs.getD j 0 = 0 := by simp [List.getD, List.getElem?_eq_none (Nat.le_of_not_lt hj)]
        show 0 ≤ zs.getD j 0 ∧ zs.getD j 0 < 256
        rw [e]; omega
    · obtain ⟨b, off, rfl, hc⟩ := ints_at h4 (by omega)
      exact ⟨b, off, rfl, World.block_lt_of_cell? _ _ (hc 0 (by omega))⟩

theorem Row.lt {w : World} {a : Option Addr} {n cap : Nat} {c : Nat → Int} (h : Row w a n cap c) : ∀ ad, a = some ad → 0 < n → ad.block < w.heap.size := by
  intro ad ha hn
  obtain ⟨b, off, e, hb⟩ := h.there hn
  rw [ha] at e; cases e; exact hb

theorem Row.mono {w w' : World} {a : Option Addr} {n cap : Nat} {c : Nat → Int} (h : Row w a n cap c) (hb : Below w.heap.size w w') : Row w' a n cap c := by
  refine ⟨h.nil, h.le, fun ad ha j hj => ?_, h.byte, fun hn => ?_⟩
  · have hc := h.cells ad ha j hj
    rw [← hc]
    exact hb.cell (World.block_lt_of_cell? _ _ hc)
  · obtain ⟨b, off, e, h1⟩ := h.there hn
    exact ⟨b, off, e, Nat.lt_of_lt_of_le h1 hb.size⟩

/-- the bytes of a text, as a list -/
def bytesL (c : Nat → Int) (n : Nat) : List Int := (List.range n).map c

theorem bytesL_len (c : Nat → Int) (n : Nat) : (bytesL c n).length = n := by simp [bytesL]
theorem bytesL_get (c : Nat → Int) (n j : Nat) (h : j < n) : (bytesL c n).getD j 0 = c j := by
  simp [bytesL, List.getD, h]
theorem bytesL_mem {c : Nat → Int} {n : Nat} (hc : ∀ j, 0 ≤ c j ∧ c j < 256) : ∀ x ∈ bytesL c n, 0 ≤ x ∧ x < 256 := by
  intro x hx
  obtain ⟨j, _, rfl⟩ := List.mem_map.1 hx
  exact hc j

/-- its cells, as 'append(out, x...)' asks for them -/
theorem Row.news {w : World} {a : Option Addr} {n cap : Nat} {c : Nat → Int} (h : Row w a n cap c) : ∀ ad, a = some ad → ∀ (j : Nat) u, ((bytesL c n).map V)[j]? = some u → w.cell? (ad.add j) = some u := by
  intro ad ha j u hu
  have hj : j < n := by
    have := (List.getElem?_eq_some_iff.1 hu).1
    simpa [bytesL] using this
  rw [h.cells ad ha j hj]
  have : ((bytesL c n).map V)[j]? = some (V (c j)) := by simp [bytesL, hj]
  rw [this] at hu
  exact hu

theorem getD_app (A R : List Int) (k : Nat) : (A ++ R).getD (A.length + k) 0 = R.getD k 0 := by
  simp only [List.getD]
  rw [List.getElem?_append_right (by omega), Nat.add_sub_cancel_left]
theorem getD_app' (A R : List Int) (n k : Nat) (h : A.length = n) : (A ++ R).getD (n + k) 0 = R.getD k 0 := by
  rw [← h]; exact getD_app A R k
theorem getD_left (A R : List Int) (k : Nat) (h : k < A.length) : (A ++ R).getD k 0 = A.getD k 0 := by
  simp [List.getD, List.getElem?_append_left h]

/-- a row of the call's own that holds the bytes N is a text -/
theorem txt_of_own {w : World} {base g cap : Nat} {N : List Int} (h : w.ownsRow base 5 1 (.slice (some ⟨g, 0, none⟩) N.length cap) N.length (N.map V)) (hN : ∀ x ∈ N, 0 ≤ x ∧ x < 256) :
    Txt w g 0 N.length (fun j => N.getD j 0) := by
  refine ⟨fun j hj => ?_, fun j => ?_⟩
  · have := h.cellAt j (by omega)
    rw [Nat.zero_add, this]
    simp [V, List.getD, List.getElem?_eq_getElem hj]
  · by_cases hj : j < N.length
    · have e : N.getD j 0 = N[j] := by simp [List.getD, List.getElem?_eq_getElem hj]
      show 0 ≤ N.getD j 0 ∧ N.getD j 0 < 256
      rw [e]; exact hN _ (List.getElem_mem hj)
    · have e : N.getD j 0 = 0 := by simp [List.getD, List.getElem?_eq_none (Nat.le_of_not_lt hj)]
      show 0 ≤ N.getD j 0 ∧ N.getD j 0 < 256
      rw [e]; omega

/-- a token in the midst of a text -/
theorem strTok_mid (A Q R : List Int) (h : okB false Q = true) : StrTok (fun j => (A ++ ((34 :: Q) ++ 34 :: R)).getD j 0) A.length Q.length := by
  refine strTok_of_body _ _ Q h ?_ ?_ ?_
  · simp
  · intro k hk
    show (A ++ ((34 :: Q) ++ 34 :: R)).getD (A.length + 1 + k) 0 = _
    rw [Nat.add_assoc, getD_app]
    rw [show 1 + k = k + 1 by omega, List.cons_append, List.getD_cons_succ, getD_left _ _ _ hk]
  · show (A ++ ((34 :: Q) ++ 34 :: R)).getD (A.length + 1 + Q.length) 0 = _
    rw [Nat.add_assoc, getD_app, show 1 + Q.length = Q.length + 1 by omega, List.cons_append, List.getD_cons_succ]
    simp

end Go.Proofs.Qxb6600463a
