/-
  Plain laws on 'Lib.indexByte .. 32', counts, and cuts of byte strings. No Go in sight.
-/
import Derived.Lib.Bytealg
namespace Go.Proofs.Qxb6003735a
set_option linter.unusedSimpArgs false
set_option linter.unusedVariables false

theorem idx_notmem : ∀ (l : List UInt8), 32 ∉ l → Lib.indexByte l 32 = -1
  | [], _ => rfl
  | b :: l, h => by
    have hb : (b == 32) = false := beq_eq_false_iff_ne.2 (fun e => h (by rw [e]; exact List.mem_cons_self))
    have ih := idx_notmem l (fun hm => h (List.mem_cons_of_mem _ hm))
    unfold Lib.indexByte
    rw [hb, ih]; rfl

theorem idx_app : ∀ (a b : List UInt8), 32 ∉ a → Lib.indexByte (a ++ 32 :: b) 32 = (a.length : Int)
  | [], b, _ => by simp [Lib.indexByte]
  | x :: a, b, h => by
    have hb : (x == 32) = false := beq_eq_false_iff_ne.2 (fun e => h (by rw [e]; exact List.mem_cons_self))
    have ih := idx_app a b (fun hm => h (List.mem_cons_of_mem _ hm))
    rw [List.cons_append]
    unfold Lib.indexByte
    rw [hb, ih]
    have : (((a.length : Int)) == -1) = false := beq_eq_false_iff_ne.2 (by omega)
    rw [this]
    simp

theorem idx_cases (l : List UInt8) : (Lib.indexByte l 32 = -1 ∧ 32 ∉ l) ∨ ∃ a b : List UInt8, l = a ++ 32 :: b ∧ 32 ∉ a ∧ Lib.indexByte l 32 = (a.length : Int) := by
  by_cases h : (32 : UInt8) ∈ l
  · obtain ⟨a, b, e, ha⟩ := List.eq_append_cons_of_mem h
    exact .inr ⟨a, b, e, ha, by rw [e]; exact idx_app a b ha⟩
  · exact .inl ⟨idx_notmem l h, h⟩

theorem ext_list (s : ByteArray) (a b : Nat) : (s.extract a b).data.toList = (s.data.toList.take b).drop a := by
  rw [ByteArray.data_extract, Array.toList_extract, List.extract_eq_take_drop, List.drop_take]

theorem sz_list (s : ByteArray) : s.size = s.data.toList.length := by simp

theorem ba_ext {a b : ByteArray} (h : a.data.toList = b.data.toList) : a = b := by
  apply ByteArray.ext
  exact Array.ext' h

theorem ext_head {s : ByteArray} {a b : List UInt8} (h : s.data.toList = a ++ 32 :: b) : (s.extract 0 a.length).data.toList = a := by
  rw [ext_list, h]; simp
theorem ext_rest {s : ByteArray} {a b : List UInt8} (h : s.data.toList = a ++ 32 :: b) : (s.extract (a.length + 1) s.size).data.toList = b := by
  rw [ext_list, sz_list s, h, List.take_length]
  have : a ++ 32 :: b = (a ++ [32]) ++ b := by simp
  rw [this]
  exact List.drop_left' (by simp)

theorem first_at (s : ByteArray) (k : Nat) (hk : k < s.size) (hn : 32 ∉ s.data.toList.take k) (h32 : s[k] = 32) : Lib.indexByte s.data.toList 32 = (k : Int) := by
  have hl : k < s.data.toList.length := by rw [← sz_list]; exact hk
  have e : s.data.toList = s.data.toList.take k ++ 32 :: s.data.toList.drop (k + 1) := by
    have e1 : s.data.toList.drop k = s[k] :: s.data.toList.drop (k + 1) := by rw [List.drop_eq_getElem_cons hl]; rfl
    rw [h32] at e1
    rw [← e1, List.take_append_drop]
  have := idx_app (s.data.toList.take k) (s.data.toList.drop (k + 1)) hn
  rw [← e] at this
  rw [this, List.length_take]
  omega

theorem cnt_le (l : List UInt8) (k : Nat) : (l.take k).count 32 ≤ k := by
  have h1 := List.count_le_length (a := (32 : UInt8)) (l := l.take k)
  have h2 : (l.take k).length ≤ k := List.length_take_le _ _
  omega

theorem take_snoc' (s : ByteArray) (k : Nat) (h : k < s.size) : s.data.toList.take (k + 1) = s.data.toList.take k ++ [s[k]] := by
  rw [List.take_succ_eq_append_getElem (by simpa using h)]; rfl

theorem cnt_step1 (s : ByteArray) (k : Nat) (h : k < s.size) (h32 : s[k] = 32) : (s.data.toList.take (k + 1)).count 32 = (s.data.toList.take k).count 32 + 1 := by
  rw [take_snoc' s k h, List.count_append, h32]; simp
theorem cnt_step0 (s : ByteArray) (k : Nat) (h : k < s.size) (h32 : s[k] ≠ 32) : (s.data.toList.take (k + 1)).count 32 = (s.data.toList.take k).count 32 := by
  rw [take_snoc' s k h, List.count_append, List.count_singleton]
  simp [h32]
theorem nomem_step (s : ByteArray) (k : Nat) (h : k < s.size) (hn : 32 ∉ s.data.toList.take k) (h32 : s[k] ≠ 32) : 32 ∉ s.data.toList.take (k + 1) := by
  rw [take_snoc' s k h]
  intro hm
  rcases List.mem_append.1 hm with h1 | h1
  · exact hn h1
  · exact h32 (List.mem_singleton.1 h1).symm
theorem nomem_end (s : ByteArray) (k : Nat) (h : ¬ k < s.size) (hn : 32 ∉ s.data.toList.take k) : 32 ∉ s.data.toList := by
  rwa [List.take_of_length_le (by simp; omega)] at hn

theorem byte32 (c : UInt8) : ((c.toNat : Int) == 32) = decide (c = 32) := by
  by_cases h : c = 32
  · subst h; rfl
  · rw [decide_eq_false h, beq_eq_false_iff_ne]
    intro e
    apply h
    apply UInt8.toNat_inj.1
    show c.toNat = 32
    omega

end Go.Proofs.Qxb6003735a
