/-
  Contracts of the leaves: tcharModel (19), hostByteModel (21), isAlnum (23).
-/
import Derived.Test.Qxb6003735aRows
import Derived.WalkKit
import Derived.WalkSpells
import Derived.WalkLawsBesides
namespace Go.Proofs.Qxb6003735a
open Go.RowKit
set_option linter.unusedSimpArgs false
set_option linter.unusedVariables false

def tcharB (c : Int) : Bool :=
  decide (33 ≤ c ∧ c ≤ 126 ∧ c ≠ 34 ∧ c ≠ 40 ∧ c ≠ 41 ∧ c ≠ 44 ∧ c ≠ 47 ∧ c ≠ 58 ∧ c ≠ 59 ∧ c ≠ 60 ∧ c ≠ 61 ∧ c ≠ 62 ∧ c ≠ 63 ∧ c ≠ 64 ∧ c ≠ 91 ∧ c ≠ 92 ∧ c ≠ 93 ∧ c ≠ 123 ∧ c ≠ 125)

def hostByteB (c : Int) : Bool :=
  decide (33 ≤ c ∧ c ≤ 126 ∧ c ≠ 34 ∧ c ≠ 35 ∧ c ≠ 47 ∧ c ≠ 60 ∧ c ≠ 62 ∧ c ≠ 63 ∧ c ≠ 64 ∧ c ≠ 92 ∧ c ≠ 94 ∧ c ≠ 96 ∧ c ≠ 123 ∧ c ≠ 124 ∧ c ≠ 125)

def alnumB (c : Int) : Bool := decide ((97 ≤ c ∧ c ≤ 122) ∨ (65 ≤ c ∧ c ≤ 90) ∨ (48 ≤ c ∧ c ≤ 57))

theorem ret_bool {a b : Bool} (h : a = b) : Ending.returned (.bool a) = .returned (.bool b) := by rw [h]

set_option maxHeartbeats 1000000 in
theorem alnum_calls (c : Int) (w : World) :
    Calls Try.prog 23 #[.int .u8 c] w fun e w' => e = .returned (.bool (alnumB c)) ∧ w' = w := by
  go_enter Try.func23, Try.ntmps23
  go_wp2
  all_goals
    go_ret
    refine ⟨ret_bool ?_, rfl⟩
    try simp only [beq_iff_eq, beq_eq_false_iff_ne, ne_eq] at *
    rw [Bool.eq_iff_iff]
    simp only [alnumB, decide_eq_true_eq, Bool.or_eq_true, Bool.false_eq_true, true_iff, false_iff, ne_eq]
    omega

set_option maxHeartbeats 1000000 in
theorem tchar_calls (c : Int) (w : World) :
    Calls Try.prog 19 #[.int .u8 c] w fun e w' => e = .returned (.bool (tcharB c)) ∧ w' = w := by
  go_enter Try.func19, Try.ntmps19
  go_wp2
  all_goals
    go_ret
    refine ⟨ret_bool ?_, rfl⟩
    try simp only [beq_iff_eq, beq_eq_false_iff_ne, ne_eq] at *
    rw [Bool.eq_iff_iff]
    simp only [tcharB, decide_eq_true_eq, Bool.or_eq_true, Bool.false_eq_true, true_iff, false_iff, ne_eq]
    omega

set_option maxHeartbeats 1000000 in
theorem hostByte_calls (c : Int) (w : World) :
    Calls Try.prog 21 #[.int .u8 c] w fun e w' => e = .returned (.bool (hostByteB c)) ∧ w' = w := by
  go_enter Try.func21, Try.ntmps21
  go_wp2
  all_goals
    go_ret
    refine ⟨ret_bool ?_, rfl⟩
    try simp only [beq_iff_eq, beq_eq_false_iff_ne, ne_eq] at *
    rw [Bool.eq_iff_iff]
    simp only [hostByteB, decide_eq_true_eq, Bool.or_eq_true, Bool.false_eq_true, true_iff, false_iff, ne_eq]
    omega

end Go.Proofs.Qxb6003735a
