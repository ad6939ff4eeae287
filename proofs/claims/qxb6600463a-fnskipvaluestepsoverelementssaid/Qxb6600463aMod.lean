/-
  The parser's record in memory: its block, the four lists that it owns; what was recorded.
-/
import Derived.Test.Qxb6600463aEnd
import Derived.Test.Qxb6600463aScan2
import Derived.Deep.AppendLies
namespace Go.Proofs.Qxb6600463a
open Go.RowKit
set_option linter.unusedSimpArgs false
set_option linter.unusedVariables false

def I64 (x : Int) : Value := .int .i64 x

theorem I64_one (l : List Int) : ∀ u ∈ l.map I64, u.oneCell' = true := by
  intro u hu
  obtain ⟨x, _, rfl⟩ := List.mem_map.1 hu
  rfl

/-- the record lies in block M; field 0: the text; fields 1 to 4: slices of ints that the call owns, in blocks behind M, no two in one block; field 5: a count -/
structure Mod (w : World) (M : Nat) (tx : Value) (v : Nat → Value) (L : Nat → List Int) : Prop where
  blk : ∃ deep : Int, w.heap[M]? = some (.cells #[tx, v 1, v 2, v 3, v 4, .int .i64 deep] 32 (0, 0)) ∧ -4000000 ≤ deep ∧ deep ≤ 4000000
  own : ∀ k, w.ownsRow (M + 1) 3 1 (v k) (L k).length ((L k).map I64)
  apart : ∀ j k, j ≠ k → ∀ g, (v j).ownBlock = some g → (v k).ownBlock ≠ some g

theorem Mod.lt {w : World} {M : Nat} {tx : Value} {v : Nat → Value} {L : Nat → List Int} (h : Mod w M tx v L) : M < w.heap.size := by
  obtain ⟨d, h1, _⟩ := h.blk
  exact lt_of_block h1

theorem Mod.cells {w : World} {M : Nat} {tx : Value} {v : Nat → Value} {L : Nat → List Int} (h : Mod w M tx v L) :
    ∃ deep : Int, w.cell? ⟨M, 0, none⟩ = some tx ∧ w.cell? ⟨M, 1, none⟩ = some (v 1) ∧ w.cell? ⟨M, 2, none⟩ = some (v 2) ∧ w.cell? ⟨M, 3, none⟩ = some (v 3) ∧ w.cell? ⟨M, 4, none⟩ = some (v 4) ∧ w.cell? ⟨M, 5, none⟩ = some (.int .i64 deep) ∧
      (∀ o, w.frozen? ⟨M, o, none⟩ = false) ∧ -4000000 ≤ deep ∧ deep ≤ 4000000 := by
  obtain ⟨d, h1, h2, h3⟩ := h.blk
  refine ⟨d, ?_, ?_, ?_, ?_, ?_, ?_, fun o => ?_, h2, h3⟩
  all_goals simp [World.cell?, World.frozen?, h1]

theorem Mod.drewN {w : World} {M : Nat} {tx : Value} {v : Nat → Value} {L : Nat → List Int} (h : Mod w M tx v L) (n : Nat) : Mod (w.drewN n) M tx v L := ⟨h.blk, h.own, h.apart⟩

theorem below_drewN' {B : Nat} {w0 w : World} (h : Below B w0 w) (n : Nat) : Below B w0 (w.drewN n) := ⟨h.os, h.tape, h.output, h.size, h.block⟩

/-- one field turned -/
def upd {α : Type} (f : Nat → α) (k : Nat) (x : α) : Nat → α := fun j => if j = k then x else f j
theorem upd_same {α : Type} (f : Nat → α) (k : Nat) (x : α) : upd f k x k = x := by simp [upd]
theorem upd_other {α : Type} (f : Nat → α) (k j : Nat) (x : α) (h : j ≠ k) : upd f k x j = f j := by simp [upd, h]

/-- the record's block behind an append onto one of its lists, ahead of the store: the cell and its mark -/
theorem Mod.before {w w1 : World} {M k : Nat} {tx : Value} {v : Nat → Value} {L : Nat → List Int} {o : Obj} (h : Mod w M tx v L) (hgr : (w.alloc o).grownBy w1 (v k).ownBlock) :
    w1.heap[M]? = w.heap[M]? := by
  have hM := h.lt
  have h1 : w1.heap[M]? = (w.alloc o).heap[M]? := by
    refine hgr.block M (by simp; omega) ?_
    intro e
    have := (h.own k).lt M e.symm
    omega
  rw [h1, Below.heap_alloc w o M hM]

theorem Mod.cells1 {w w1 : World} {M : Nat} {tx : Value} {v : Nat → Value} {L : Nat → List Int} (h : Mod w M tx v L) (h1 : w1.heap[M]? = w.heap[M]?) :
    ∃ deep : Int, w1.cell? ⟨M, 0, none⟩ = some tx ∧ w1.cell? ⟨M, 1, none⟩ = some (v 1) ∧ w1.cell? ⟨M, 2, none⟩ = some (v 2) ∧ w1.cell? ⟨M, 3, none⟩ = some (v 3) ∧ w1.cell? ⟨M, 4, none⟩ = some (v 4) ∧ w1.cell? ⟨M, 5, none⟩ = some (.int .i64 deep) ∧
      (∀ o, w1.frozen? ⟨M, o, none⟩ = false) := by
  obtain ⟨d, h2, _, _⟩ := h.blk
  rw [← h1] at h2
  refine ⟨d, ?_, ?_, ?_, ?_, ?_, ?_, fun o => ?_⟩
  all_goals simp [World.cell?, World.frozen?, h2]

theorem Mod.push {w w1 : World} {M k : Nat} {tx : Value} {v : Nat → Value} {L : Nat → List Int} {o : Obj} {g cap : Nat} {x : Int} (h : Mod w M tx v L) (hk : k = 1 ∨ k = 2 ∨ k = 3 ∨ k = 4)
    (hown : w1.ownsRow (M + 1) 3 1 (.slice (some ⟨g, 0, none⟩) ((L k).length + 1) cap) ((L k).length + 1) ((L k).map I64 ++ [.int .i64 x]))
    (hgr : (w.alloc o).grownBy w1 (v k).ownBlock) (hat : (v k).ownBlock = some g ∨ g = w.heap.size + 1) :
    Mod (w1.setCell ⟨M, k, none⟩ (.slice (some ⟨g, 0, none⟩) ((L k).length + 1) cap)) M tx (upd v k (.slice (some ⟨g, 0, none⟩) ((L k).length + 1) cap)) (upd L k (L k ++ [x])) ∧
      Below M w (w1.setCell ⟨M, k, none⟩ (.slice (some ⟨g, 0, none⟩) ((L k).length + 1) cap)) := by
  have hM := h.lt
  have hb := h.before hgr
  obtain ⟨d, hd, hd1, hd2⟩ := h.blk
  rw [← hb] at hd
  have hgM : M + 1 ≤ g := (hown.lt g rfl).1
  refine ⟨⟨⟨d, ?_, hd1, hd2⟩, ?_, ?_⟩, ?_⟩
  · rw [heap_setCell_same w1 M k _ 32 _ hd]
    rcases hk with rfl | rfl | rfl | rfl <;> simp [upd]
  · intro j
    by_cases e : j = k
    · subst e
      rw [upd_same, upd_same]
      have e2 : ((L j ++ [x]).map I64) = (L j).map I64 ++ [.int .i64 x] := by simp [I64]
      rw [e2, List.length_append]
      exact ownsRow_setCell_below hown (by simp) _
    · rw [upd_other _ _ _ _ e, upd_other _ _ _ _ e]
      refine ownsRow_setCell_below ?_ (by simp) _
      refine ((h.own j).alloc o).kept hgr ?_
      cases hj : (v j).ownBlock with
      | none => exact .inl rfl
      | some q =>
        refine .inr (fun e3 => ?_)
        exact h.apart j k e q hj e3.symm
  · intro j1 j2 hne q hq hq2
    have lt1 : ∀ j, (v j).ownBlock = some q → q < w.heap.size := fun j hj => ((h.own j).lt q hj).2
    by_cases e1 : j1 = k
    · subst e1
      rw [upd_same] at hq
      rw [upd_other _ _ _ _ (fun e => hne e.symm)] at hq2
      have hgq : g = q := by simpa [Value.ownBlock] using hq
      rcases hat with ha | ha
      · rw [hgq] at ha
        exact h.apart j1 j2 hne q ha hq2
      · have := lt1 j2 hq2; omega
    · rw [upd_other _ _ _ _ e1] at hq
      by_cases e2 : j2 = k
      · subst e2
        rw [upd_same] at hq2
        have hgq : g = q := by simpa [Value.ownBlock] using hq2
        rcases hat with ha | ha
        · rw [hgq] at ha
          exact h.apart j1 j2 hne q hq ha
        · have := lt1 j1 hq; omega
      · rw [upd_other _ _ _ _ e2] at hq2
        exact h.apart j1 j2 hne q hq hq2
  · have hs : w.heap.size ≤ (w.alloc o).heap.size := by simp
    refine (((Below.refl M w).alloc (by omega) o).grown hgr (by simp; omega) (fun q hq => ?_)).setCell (Nat.le_refl _) _
    have := (h.own k).lt q hq
    omega

/-- .. its new fields named -/
theorem Mod.push2 {w w1 : World} {M k : Nat} {tx : Value} {v : Nat → Value} {L : Nat → List Int} {o : Obj} {g cap : Nat} {x : Int} (h : Mod w M tx v L) (hk : k = 1 ∨ k = 2 ∨ k = 3 ∨ k = 4)
    (hown : w1.ownsRow (M + 1) 3 1 (.slice (some ⟨g, 0, none⟩) ((L k).length + 1) cap) ((L k).length + 1) ((L k).map I64 ++ [.int .i64 x]))
    (hgr : (w.alloc o).grownBy w1 (v k).ownBlock) (hat : (v k).ownBlock = some g ∨ g = w.heap.size + 1) :
    ∃ v' L', Mod (w1.setCell ⟨M, k, none⟩ (.slice (some ⟨g, 0, none⟩) ((L k).length + 1) cap)) M tx v' L' ∧ Below M w (w1.setCell ⟨M, k, none⟩ (.slice (some ⟨g, 0, none⟩) ((L k).length + 1) cap)) ∧
      L' k = L k ++ [x] ∧ ∀ j, j ≠ k → L' j = L j :=
  ⟨_, _, (h.push hk hown hgr hat).1, (h.push hk hown hgr hat).2, upd_same _ _ _, fun j hj => upd_other _ _ _ _ hj⟩

/-- the depth count is stored anew -/
theorem Mod.deepen {w : World} {M : Nat} {tx : Value} {v : Nat → Value} {L : Nat → List Int} {x : Int} (h : Mod w M tx v L) (h1 : -4000000 ≤ x) (h2 : x ≤ 4000000) :
    Mod (w.setCell ⟨M, 5, none⟩ (.int .i64 x)) M tx v L ∧ Below M w (w.setCell ⟨M, 5, none⟩ (.int .i64 x)) := by
  obtain ⟨d, hd, _, _⟩ := h.blk
  refine ⟨⟨⟨x, ?_, h1, h2⟩, fun k => ownsRow_setCell_below (h.own k) (by simp) _, h.apart⟩, (Below.refl M w).setCell (Nat.le_refl _) _⟩
  rw [heap_setCell_same w M 5 _ 32 _ hd]
  simp

/-- how many entries there are -/
def Cnt (L : Nat → List Int) (n : Nat) : Prop := (L 1).length ≤ n ∧ (L 2).length ≤ n ∧ (L 3).length ≤ n ∧ (L 4).length ≤ n

theorem Cnt.mono {L : Nat → List Int} {a b : Nat} (h : Cnt L a) (hab : a ≤ b) : Cnt L b := by unfold Cnt at *; omega

/-- each recorded value is one; what follows it ends it, but for those that end at 'lim' -/
def EntsL (c : Nat → Int) (n lim : Nat) (A B : List Int) : Prop :=
  A.length = B.length ∧ ∀ k, k < A.length → ∃ s e d : Nat, A.getD k 0 = (s : Int) ∧ B.getD k 0 = (e : Int) ∧ ValSeg c s e d ∧ e ≤ n ∧ (e = lim ∨ (e < n → delimP (c e)))
where delimP (x : Int) : Prop := isWs x ∨ x = 44 ∨ x = 125 ∨ x = 93

/-- .. without exception -/
def Ents (c : Nat → Int) (n : Nat) (A B : List Int) : Prop :=
  A.length = B.length ∧ ∀ k, k < A.length → ∃ s e d : Nat, A.getD k 0 = (s : Int) ∧ B.getD k 0 = (e : Int) ∧ ValSeg c s e d ∧ e ≤ n ∧ (e < n → EntsL.delimP (c e))

theorem ents_nil (c : Nat → Int) (n : Nat) : Ents c n [] [] := ⟨rfl, fun k hk => by simp at hk⟩
theorem Ents.lim {c : Nat → Int} {n : Nat} {A B : List Int} (h : Ents c n A B) (lim : Nat) : EntsL c n lim A B :=
  ⟨h.1, fun k hk => by obtain ⟨s, e, d, h1, h2, h3, h4, h5⟩ := h.2 k hk; exact ⟨s, e, d, h1, h2, h3, h4, .inr h5⟩⟩
theorem EntsL.good {c : Nat → Int} {n lim : Nat} {A B : List Int} (h : EntsL c n lim A B) (hl : lim < n → EntsL.delimP (c lim)) : Ents c n A B :=
  ⟨h.1, fun k hk => by
    obtain ⟨s, e, d, h1, h2, h3, h4, h5⟩ := h.2 k hk
    refine ⟨s, e, d, h1, h2, h3, h4, ?_⟩
    rcases h5 with rfl | h5
    · exact hl
    · exact h5⟩
theorem EntsL.push {c : Nat → Int} {n s e d : Nat} {A B : List Int} (h : EntsL c n e A B) (hv : ValSeg c s e d) (he : e ≤ n) : EntsL c n e (A ++ [(s : Int)]) (B ++ [(e : Int)]) := by
  refine ⟨by simp [h.1], fun k hk => ?_⟩
  by_cases e1 : k < A.length
  · obtain ⟨s', e', d', h1, h2, h3⟩ := h.2 k e1
    have hB : k < B.length := by rw [← h.1]; exact e1
    refine ⟨s', e', d', ?_, ?_, h3⟩
    · rw [← h1]; simp [List.getD, List.getElem?_append_left e1]
    · rw [← h2]; simp [List.getD, List.getElem?_append_left hB]
  · have e2 : k = A.length := by simp at hk; omega
    subst e2
    refine ⟨s, e, d, ?_, ?_, hv, he, .inl rfl⟩
    · simp [List.getD]
    · rw [h.1]; simp [List.getD]

end Go.Proofs.Qxb6600463a
