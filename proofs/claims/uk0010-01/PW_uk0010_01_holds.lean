import PyProof.Rows.All
import Wide.All
import OpenK.AllK
import Wide.FinOn
import PySem.Challenge.RW_uk0010_01
open PySem PySem.W PyProof.Rows
set_option Elab.async false
set_option linter.unusedVariables false
set_option linter.unusedSimpArgs false
set_option linter.unnecessarySimpa false
set_option linter.deprecated false
set_option exponentiation.threshold 300
set_option maxRecDepth 100000
set_option maxHeartbeats 8000000
set_option compiler.extract_closed false

/-! lemmas of plain arithmetic, each used where it is named -/
namespace Mine
theorem om0 {x0 : Int} : (1 : Int) ≤ x0 → x0 ≤ (6 : Int) → x0 = (↑(x0 - (1 : Int)).toNat : Int) + (1 : Int) := by grind
theorem om1 {x0 : Nat} : (1 : Int) ≤ (↑x0 : Int) + (1 : Int) → (↑x0 : Int) + (1 : Int) ≤ (6 : Int) → x0 < (6 : Nat) := by grind
theorem om2 {x0 : Int} : (0 : Int) ≤ x0 → x0 = (↑x0.toNat : Int) := by grind
theorem om3 {x0 : Nat} : (0 : Int) ≤ (↑x0 : Int) → (↑x0 : Int) < (↑(7 : Nat) : Int) → x0 < (7 : Nat) := by grind
theorem om4 {x0 : Nat} : (0 : Int) ≤ (↑x0 : Int) → (↑x0 : Int) < (↑(13 : Nat) : Int) → x0 < (13 : Nat) := by grind
theorem om5 {x0 : Nat} : (0 : Int) ≤ (↑x0 : Int) → (↑x0 : Int) < (↑(19 : Nat) : Int) → x0 < (19 : Nat) := by grind
theorem om6 {x0 : Int} : (0 : Int) < x0 → x0 ≠ (0 : Int) := by grind
theorem om7 {x0 x1 : Int} : x0 * (-1 : Int) - x1 = -x0 - x1 := by grind
theorem om8 {x0 x1 x2 x3 : Int} : x0 + x1 = (-1 : Int) - x2 → x3 + ((-1 : Int) - x0) + (-x3 - x1) = x2 := by grind
theorem om9 {x0 x1 x2 x3 x4 : Int} : x0 + x1 = (-1 : Int) - x2 → x0 < x3 → x4 = -x3 - x1 → (0 : Int) ≤ x3 + ((-1 : Int) - x0) := by grind
theorem om10 {x0 x1 x2 x3 : Int} : x0 + x1 = (-1 : Int) - x2 → (0 : Int) ≤ x0 → x3 + ((-1 : Int) - x0) < x3 := by grind
theorem om11 {x0 : Int} : (0 : Int) < x0 → x0 < (2 : Int) ^ (100 : Nat) → ¬x0 = (0 : Int) := by grind
theorem om12 {x0 : Int} : (0 : Int) < x0 → x0 < (2 : Int) ^ (100 : Nat) → ¬x0 < (0 : Int) := by grind
theorem om13 {x0 : Int} : (0 : Int) ≤ x0 → x0 < (2 : Int) ^ (300 : Nat) → ¬x0 < (0 : Int) := by grind
theorem om14 {x0 : Nat} : x0 + (402 : Nat) ≤ x0 + (403 : Nat) := by first | (intros; simp at *; done) | (simp; done) | (simp_all; done)
theorem om15 {x0 : Int} : -(2 : Int) ^ (299 : Nat) ≤ x0 → x0 < (2 : Int) ^ (299 : Nat) → (0 : Int) ≤ x0 → x0 < (2 : Int) ^ (300 : Nat) := by grind
theorem om16 {x0 : Int} : -x0 - (1 : Int) = (-1 : Int) - x0 := by grind
theorem om17 {x0 x1 : Int} : -(2 : Int) ^ (299 : Nat) ≤ x0 → x0 < (2 : Int) ^ (299 : Nat) → ¬(0 : Int) ≤ x0 → x1 = (-1 : Int) - x0 → x0 < (0 : Int) := by grind
theorem om18 {x0 x1 : Int} : -(2 : Int) ^ (299 : Nat) ≤ x0 → x0 < (2 : Int) ^ (299 : Nat) → ¬(0 : Int) ≤ x0 → x1 = (-1 : Int) - x0 → (0 : Int) ≤ (-1 : Int) - x0 := by grind
theorem om19 {x0 x1 : Int} : -(2 : Int) ^ (299 : Nat) ≤ x0 → x0 < (2 : Int) ^ (299 : Nat) → ¬(0 : Int) ≤ x0 → x1 = (-1 : Int) - x0 → (-1 : Int) - x0 < (2 : Int) ^ (300 : Nat) := by grind
theorem om20 {x0 x1 x2 x3 x4 : Int} : x0 = (-1 : Int) - x1 ∧ x2 = x3 + ((-1 : Int) - x4) → x3 + (-x4 - (1 : Int)) = x2 := by grind
theorem om21 : (0 : Int) ≤ (1 : Int) := by first | (intros; simp at *; done) | (simp; done) | (simp_all; done)
theorem om22 : (1 : Int) < (2 : Int) ^ (62 : Nat) := by first | (intros; simp at *; done) | (simp; done) | (simp_all; done)
theorem om23 {x0 x1 : Nat} : x0 < x1 → x0 ≤ (x0 + x1) / (2 : Nat) := by grind
theorem om24 {x0 x1 : Nat} : x0 < x1 → (x0 + x1) / (2 : Nat) ≤ x1 := by grind
theorem om25 {x0 x1 : Nat} : x0 < x1 → (x0 + x1) / (2 : Nat) + (1 : Nat) ≤ x1 := by grind
theorem om26 : ¬(0 : Int) < (0 : Int) := by decide
theorem om27 {x0 : Nat} : x0 ≤ (1000 : Nat) → x0 < (2 : Nat) ^ (62 : Nat) := by grind
theorem om28 {x0 : Nat} : x0 ≤ (1000 : Nat) → x0 - (0 : Nat) ≤ x0 := by first | (intros; simp at *; done) | (simp; done) | (simp_all; done)
theorem om29 {x0 x1 x2 : Nat} : x0 - x1 ≤ x2 → x1 < x0 → x2 = x2 - (1 : Nat) + (1 : Nat) := by grind
theorem om30 {x0 x1 x2 : Nat} : x0 = (x1 + x2) / (2 : Nat) → ((↑x1 : Int) + (↑x2 : Int)) / (2 : Int) = (↑x0 : Int) := by first | (intros; simp at *; done) | (simp; done) | (simp_all; done)
theorem om31 {x0 x1 x2 x3 : Nat} {x4 : Int} : x0 ≤ x1 → x2 < x0 → x3 = (x2 + x0) / (2 : Nat) → x4 = (↑x3 : Int) → x3 < x1 := by omega
theorem om32 {x0 x1 : Nat} : x0 < x1 → (↑x0 : Int) < (↑x1 : Int) := by grind
theorem om33 : (2 : Int) ≠ (0 : Int) := by decide
theorem om34 : Int.natAbs (2 : Int) < (2 : Nat) ^ (100 : Nat) := by decide
theorem om35 {x0 x1 x2 : Nat} {x3 : Int} : x0 = (x1 + x2) / (2 : Nat) → x3 = (↑x0 : Int) → (0 : Int) ≤ (↑x0 : Int) := by first | (intros; simp at *; done) | (simp; done) | (simp_all; done)
theorem om36 {x0 x1 x2 x3 : Nat} {x4 : Int} : x0 ≤ (1000 : Nat) → x1 ≤ x0 → x2 < x1 → x3 = (x2 + x1) / (2 : Nat) → x4 = (↑x3 : Int) → (↑x3 : Int) < (2 : Int) ^ (62 : Nat) := by grind
theorem om37 {x0 x1 x2 : Nat} {x3 : Int} : x0 < x1 → x2 = (x0 + x1) / (2 : Nat) → x3 = (↑x2 : Int) → x0 ≤ x2 := by omega
theorem om38 {x0 x1 x2 x3 : Nat} {x4 : Int} : x0 ≤ x1 → x2 < x0 → x3 = (x2 + x0) / (2 : Nat) → x4 = (↑x3 : Int) → x3 ≤ x1 := by omega
theorem om39 {x0 x1 x2 x3 x4 : Nat} {x5 : Int} : x0 ≤ (1000 : Nat) → x1 ≤ x0 → x2 < x1 → x1 - x2 ≤ x3 + (1 : Nat) → x4 = (x2 + x1) / (2 : Nat) → x5 = (↑x4 : Int) → x4 - x2 ≤ x3 := by grind
theorem om40 {x0 x1 x2 : Nat} {x3 : Int} : x0 < x1 → x2 = (x0 + x1) / (2 : Nat) → x3 = (↑x2 : Int) → x2 + (1 : Nat) ≤ x1 := by grind
theorem om41 {x0 x1 : Nat} : x0 ≤ x1 → x0 ≤ x1 := by first | (intros; simp at *; done) | (simp; done) | (simp_all; done)
theorem om42 {x0 x1 x2 x3 x4 : Nat} {x5 : Int} : x0 ≤ (1000 : Nat) → x1 ≤ x0 → x2 < x1 → x1 - x2 ≤ x3 + (1 : Nat) → x4 = (x2 + x1) / (2 : Nat) → x5 = (↑x4 : Int) → x1 - (x4 + (1 : Nat)) ≤ x3 := by grind
theorem om43 {x0 x1 x2 : Nat} : x0 = x1 → x0 ≤ x2 → ¬x0 < x2 → ¬(↑x0 : Int) < (↑x2 : Int) := by first | (intros; simp at *; done) | (simp; done) | (simp_all; done)
theorem om44 {x0 : Nat} : x0 ≤ (1000 : Nat) → x0 ≤ (2 : Nat) ^ (20 : Nat) := by grind
theorem om45 {x0 : Nat} : (0 : Int) ≤ (↑x0 : Int) := by first | (intros; simp at *; done) | (simp; done) | (simp_all; done)
theorem om46 {x0 x1 : Nat} : x0 ≤ x1 → (↑x0 : Int) ≤ (↑x1 : Int) := by first | (intros; simp at *; done) | (simp; done) | (simp_all; done)
theorem om47 {x0 x1 : Nat} : min x0 x1 + (x1 - x0 + (1 : Nat)) = x1 + (1 : Nat) := by grind
theorem om48 {x0 : Int} : (1 : Int) < x0 → x0 ≠ (0 : Int) := by grind
theorem om49 {x0 : Int} : (1 : Int) < x0 → (0 : Int) < x0 := by grind
theorem om50 {x0 : Nat} : (2 : Nat) ≤ x0 → x0 ≤ (100 : Nat) → (↑x0 : Int) - (1 : Int) = (0 : Int) + (↑(x0 - (1 : Nat)) : Int) := by grind
theorem om51 {x0 : Nat} : (2 : Nat) ≤ x0 → x0 ≤ (100 : Nat) → (↑x0 : Int) - (1 : Int) < (2 : Int) ^ (62 : Nat) := by grind
theorem om52 {x0 : Nat} : (2 : Nat) ≤ x0 → x0 ≤ (100 : Nat) → (1 : Int) < (↑x0 : Int) := by grind
theorem om53 {x0 x1 : Nat} : x0 = x1 → (0 : Int) ≤ (↑x1 : Int) % (2 : Int) := by grind
theorem om54 {x0 x1 : Nat} : x0 = x1 → (↑x1 : Int) % (2 : Int) < (2 : Int) := by grind
theorem om55 {x0 : Nat} : (2 : Nat) ≤ x0 → x0 ≤ (100 : Nat) → (↑x0 : Int).natAbs < (2 : Nat) ^ (64 : Nat) := by grind
theorem om56 {x0 : Int} : (0 : Int) ≤ x0 ∧ x0 < (2 : Int) → x0 = (0 : Int) ∨ x0 = (1 : Int) := by grind
theorem om57 {x0 x1 : Int} : (-100 : Int) ≤ x0 - x1 ∧ x0 - x1 ≤ (100 : Int) → (x0 - x1).natAbs < (2 : Nat) ^ (64 : Nat) := by grind
theorem om58 : (3 : Int) ≠ (0 : Int) := by decide
theorem om59 {x0 : Int} : x0 = (0 : Int) → ¬¬x0 = (0 : Int) := by grind
theorem om60 {x0 : Nat} : (3 : Nat) ≤ x0 + (409 : Nat) := by first | (intros; simp at *; done) | (simp; done) | (simp_all; done)
theorem om61 {x0 x1 x2 : Nat} : (2 : Nat) ≤ x0 → x0 ≤ (100 : Nat) → x1 < x0 - (1 : Nat) → x2 = x1 → x2 ≤ (1000 : Nat) := by grind
theorem om62 {x0 : Nat} : x0 + (403 : Nat) ≤ x0 + (409 : Nat) := by first | (intros; simp at *; done) | (simp; done) | (simp_all; done)
theorem om63 {x0 : Nat} : (2 : Nat) ≤ x0 → x0 ≤ (100 : Nat) → (0 : Int) < (↑x0 : Int) := by grind
theorem om64 {x0 : Nat} : (2 : Nat) ≤ x0 → x0 ≤ (100 : Nat) → (↑x0 : Int) < (2 : Int) ^ (100 : Nat) := by grind
theorem om65 {x0 x1 x2 : Nat} {x3 : Int} : (2 : Nat) ≤ x0 → x0 ≤ (100 : Nat) → x1 < x0 - (1 : Nat) → x2 = x1 → ¬x3 = (0 : Int) → x2 ≤ (1000 : Nat) := by grind
theorem om66 {x0 : Nat} : x0 + (1 : Nat) ≤ (20 : Nat) → x0 ≤ (20 : Nat) := by grind
theorem om67 {x0 x1 : Int} : -x0 ≤ x1 ∧ x1 ≤ x0 → (0 : Int) < x0 → x1.natAbs ≤ x0.natAbs := by grind
theorem om68 {x0 : Int} {x1 : Nat} : (0 : Int) ≤ x0 → x0 ≤ (20 : Int) → x1 + (1 : Nat) ≤ (20 : Nat) → (x0 - (↑x1 : Int)).natAbs ≤ (20 : Nat) := by grind
theorem om69 {x0 x1 : Int} : (0 : Int) < x0 → x1.natAbs ≤ x0.natAbs * (20 : Nat) → -(x0 * (20 : Int)) ≤ x1 ∧ x1 ≤ x0 * (20 : Int) := by grind
theorem om70 {x0 : Nat} : x0 + (1 : Nat) ≤ (20 : Nat) → (1 : Int) ≤ (↑x0 : Int) + (1 : Int) := by grind
theorem om71 {x0 x1 : Int} : (1 : Int) ≤ x0 ∧ x0 ≤ x1 → (0 : Int) ≤ x0 := by grind
theorem om72 {x0 x1 x2 : Int} : (1 : Int) ≤ x0 ∧ x0 ≤ x1 → x0 * (1 : Int) ≤ x2 → (1 : Int) ≤ x2 := by grind
theorem om73 {x0 : Nat} : x0 + (1 : Nat) ≤ (20 : Nat) → (↑x0 : Int) + (1 : Int) ≤ (20 : Int) := by grind
theorem om74 {x0 : Nat} : x0 + (1 : Nat) ≤ (20 : Nat) → (0 : Int) ≤ (↑x0 : Int) + (1 : Int) := by grind
theorem om75 {x0 : Int} : (0 : Int) < x0 → (0 : Int) ≤ x0 := by grind
theorem om76 {x0 : Nat} : (↑x0 : Int) = (0 : Int) + (↑x0 : Int) := by first | (intros; simp at *; done) | (simp; done) | (simp_all; done)
theorem om77 {x0 : Nat} : x0 ≤ (20 : Nat) → (↑x0 : Int) < (2 : Int) ^ (62 : Nat) := by grind
theorem om78 {x0 : Int} {x1 x2 : Nat} : (0 : Int) ≤ x0 → x0 ≤ (20 : Int) → x1 ≤ (20 : Nat) → x2 < x1 → (x0 - (↑x2 : Int)).natAbs < (2 : Nat) ^ (64 : Nat) := by grind
theorem om79 {x0 x1 : Nat} : x0 ≤ (20 : Nat) → x1 < x0 → ((↑x1 : Int) + (1 : Int)).natAbs < (2 : Nat) ^ (64 : Nat) := by grind
theorem om80 {x0 x1 : Int} : -x0 ≤ x1 ∧ x1 ≤ x0 → x0 ≤ (2 : Int) ^ (90 : Nat) → -(2 : Int) ^ (299 : Nat) ≤ x1 := by grind
theorem om81 {x0 x1 : Int} : -x0 ≤ x1 ∧ x1 ≤ x0 → x0 ≤ (2 : Int) ^ (90 : Nat) → x1 < (2 : Int) ^ (299 : Nat) := by grind
theorem om82 {x0 x1 : Int} : (1 : Int) ≤ x0 ∧ x0 ≤ x1 → (0 : Int) < x0 := by intros; exact And.left ‹_›
theorem om83 {x0 x1 x2 : Int} : -x0 ≤ x1 ∧ x1 ≤ x0 → (1 : Int) ≤ x2 ∧ x2 ≤ x0 → x0 ≤ (2 : Int) ^ (90 : Nat) → x2 < (2 : Int) ^ (100 : Nat) := by grind
theorem om84 {x0 : Nat} : x0 - (0 : Nat) < x0 + (1 : Nat) := by first | (intros; simp at *; done) | (simp; done) | (simp_all; done)
theorem om85 {x0 : Nat} : x0 ≤ (400 : Nat) → x0 ≤ (1000 : Nat) := by grind
theorem om86 {x0 x1 : Nat} : x0 ≤ (400 : Nat) → x1 ≤ (2 : Nat) * x0 → x0 = x0 → x1 ≤ (1000 : Nat) := by grind
theorem om87 : (1 : Int) ≤ (1 : Int) ∧ (1 : Int) ≤ (1 : Int) + (↑(0 : Nat) : Int) := by decide
theorem om88 {x0 : Int} {x1 : Nat} {x2 x3 x4 : Int} : (1 : Int) ≤ x0 ∧ x0 ≤ (1 : Int) + (↑x1 : Int) → x2 = (0 : Int) ∨ x2 = (1 : Int) → x3 = (0 : Int) ∨ x3 = (1 : Int) → x4 = (0 : Int) ∨ x4 = (1 : Int) → (1 : Int) ≤ x0 + x2 ∧ x0 + x2 ≤ (1 : Int) + (↑(x1 + (1 : Nat)) : Int) := by grind
theorem om89 {x0 : Int} {x1 : Nat} {x2 x3 : Int} : (1 : Int) ≤ x0 ∧ x0 ≤ (1 : Int) + (↑x1 : Int) → x2 = (0 : Int) ∨ x2 = (1 : Int) → x3 = (0 : Int) ∨ x3 = (1 : Int) → (1 : Int) ≤ x0 + x2 ∧ x0 + x2 ≤ (1 : Int) + (↑(x1 + (1 : Nat)) : Int) := by grind
theorem om90 {x0 : Int} {x1 : Nat} {x2 : Int} : (1 : Int) ≤ x0 ∧ x0 ≤ (1 : Int) + (↑x1 : Int) → x2 = (0 : Int) ∨ x2 = (1 : Int) → (1 : Int) ≤ x0 + x2 ∧ x0 + x2 ≤ (1 : Int) + (↑(x1 + (1 : Nat)) : Int) := by grind
theorem om91 {x0 : Int} {x1 : Nat} : (1 : Int) ≤ x0 ∧ x0 ≤ (1 : Int) + (↑x1 : Int) → (1 : Int) ≤ x0 + (1 : Int) ∧ x0 + (1 : Int) ≤ (1 : Int) + (↑(x1 + (1 : Nat)) : Int) := by grind
theorem om92 {x0 : Int} {x1 : Nat} : (1 : Int) ≤ x0 ∧ x0 ≤ (1 : Int) + (↑x1 : Int) → (1 : Int) ≤ x0 ∧ x0 ≤ (1 : Int) + (↑(x1 + (1 : Nat)) : Int) := by grind
theorem om93 {x0 : Nat} : (2 : Nat) ≤ x0 → x0 ≤ (19 : Nat) → (↑x0 : Int) = (1 : Int) + (↑(x0 - (1 : Nat)) : Int) := by grind
theorem om94 {x0 : Nat} : (2 : Nat) ≤ x0 → x0 ≤ (19 : Nat) → (↑x0 : Int) < (2 : Int) ^ (62 : Nat) := by grind
theorem om95 {x0 : Nat} : (1 : Int) + (↑x0 : Int) = (↑((1 : Nat) + x0) : Int) := by intros; rfl
theorem om96 {x0 x1 : Nat} : (1 : Int) + (↑x0 : Int) = (↑x1 : Int) → (1 : Nat) ≤ x1 := by grind
theorem om97 {x0 x1 x2 : Nat} : (2 : Nat) ≤ x0 → x0 ≤ (19 : Nat) → x1 < x0 - (1 : Nat) → (1 : Int) + (↑x1 : Int) = (↑x2 : Int) → x2 < x0 := by omega
theorem om98 {x0 : Nat} : (2 : Nat) ≤ x0 → x0 ≤ (19 : Nat) → (↑x0 : Int) ≠ (0 : Int) := by grind
theorem om99 {x0 : Nat} : (2 : Nat) ≤ x0 + (9 : Nat) := by first | (intros; simp at *; done) | (simp; done) | (simp_all; done)
theorem om100 {x0 x1 : Nat} : (2 : Nat) ≤ x0 → x0 ≤ (19 : Nat) → x1 = x0 - (1 : Nat) → x1 ≤ (1000 : Nat) := by grind
theorem om101 {x0 : Int} : (0 : Int) < x0 → x0 = (↑x0.toNat : Int) := by grind
theorem om102 {x0 : Nat} : (2 : Nat) ≤ x0 → x0 ≤ (19 : Nat) → (0 : Int) < (↑x0 : Int) := by grind
theorem om103 {x0 : Int} {x1 x2 : Nat} : x0 = (↑x1 : Int) → x0 < (↑x2 : Int) → x1 < x2 := by first | (intros; simp at *; done) | (simp; done) | (simp_all; done)
theorem om104 {x0 : Int} {x1 : Nat} : (0 : Int) < x0 → x0 = (↑x1 : Int) → (0 : Nat) < x1 := by grind
theorem om105 {x0 x1 x2 x3 : Nat} : x0 = x1 - (1 : Nat) → x2 < x1 - (1 : Nat) → (1 : Int) + (↑x2 : Int) = (↑x3 : Int) → ((↑x3 : Int) - (1 : Int)).toNat < x0 := by grind
theorem om106 {x0 : Int} : (0 : Int) ≤ x0 ∧ x0 ≤ (6 : Int) → x0.natAbs < (2 : Nat) ^ (64 : Nat) := by grind
theorem om107 {x0 : Int} : (0 : Int) ≤ x0 → x0 < (6 : Int) → x0 = (↑x0.toNat : Int) := by grind
theorem om108 {x0 : Int} : (0 : Int) ≤ x0 → x0 < (6 : Int) → x0.toNat < (6 : Nat) := by first | (intros; simp at *; done) | (simp; done) | (simp_all; done)
theorem om109 {x0 x1 : Nat} : (2 : Nat) ≤ x0 → x0 ≤ (19 : Nat) → x1 < x0 → x1 < (19 : Nat) := by grind
theorem om110 : (0 : Int) ≤ (0 : Int) := by first | (intros; simp at *; done) | (simp; done) | (simp_all; done)
theorem om111 : (0 : Int) < (2 : Int) ^ (62 : Nat) := by first | (intros; simp at *; done) | (simp; done) | (simp_all; done)
theorem om112 {x0 x1 : Nat} : (1 : Int) + (↑x0 : Int) = (↑x1 : Int) → (0 : Int) ≤ (↑x1 : Int) - (1 : Int) := by grind
theorem om113 {x0 x1 : Nat} : (2 : Nat) ≤ x0 → x0 ≤ (19 : Nat) → x1 < x0 → (↑x1 : Int) - (1 : Int) < (2 : Int) ^ (62 : Nat) := by grind
theorem om114 : (6 : Int) ≠ (0 : Int) := by decide
theorem om115 {x0 : Nat} : x0 < (6 : Nat) → (↑x0 : Int).natAbs < (2 : Nat) ^ (200 : Nat) := by grind
theorem om116 {x0 x1 x2 : Nat} : (2 : Nat) ≤ x0 → x0 ≤ (19 : Nat) → (1 : Int) + (↑x1 : Int) = (↑x2 : Int) → x2 < x0 → (↑x2 : Int).natAbs < (2 : Nat) ^ (200 : Nat) := by grind
theorem om117 {x0 : Nat} : (1 : Nat) ≤ x0 + (9 : Nat) := by first | (intros; simp at *; done) | (simp; done) | (simp_all; done)
theorem om118 {x0 : Int} {x1 x2 : Nat} : (0 : Int) ≤ x0 → x0 < (3 : Int) → (1 : Int) + (↑x1 : Int) = (↑x2 : Int) → (0 : Int) ≤ x0 + (↑x2 : Int) := by grind
theorem om119 {x0 : Nat} {x1 : Int} {x2 : Nat} : (2 : Nat) ≤ x0 → x0 ≤ (19 : Nat) → (0 : Int) ≤ x1 → x1 < (3 : Int) → x2 < x0 → x1 + (↑x2 : Int) ≤ (100 : Int) := by grind
theorem om120 {x0 x1 x2 : Nat} {x3 : Int} : (2 : Nat) ≤ x0 → x0 ≤ (19 : Nat) → (1 : Int) + (↑x1 : Int) = (↑x2 : Int) → x2 < x0 → (1 : Int) ≤ x3 ∧ x3 ≤ (1 : Int) + (↑x1 : Int) → (1 : Int) ≤ x3 ∧ x3 ≤ (19 : Int) := by grind
theorem om121 {x0 x1 : Nat} : x0 = (4 : Nat) → x1 < (3 : Nat) → x1 < x0 := by grind
theorem om122 {x0 : Nat} : x0 < (3 : Nat) → (0 : Int) ≤ (↑x0 : Int) := by first | (intros; simp at *; done) | (simp; done) | (simp_all; done)
theorem om123 {x0 : Nat} : x0 < (3 : Nat) → (↑x0 : Int) < (2 : Int) ^ (62 : Nat) := by omega
theorem om124 {x0 x1 x2 : Int} : x0 = (0 : Int) ∨ x0 = (1 : Int) → x1 = (0 : Int) ∨ x1 = (1 : Int) → x2 = (0 : Int) ∨ x2 = (1 : Int) → (0 : Int) ≤ x0 := by grind
theorem om125 {x0 x1 x2 : Int} : x0 = (0 : Int) ∨ x0 = (1 : Int) → x1 = (0 : Int) ∨ x1 = (1 : Int) → x2 = (0 : Int) ∨ x2 = (1 : Int) → x0 ≤ (1 : Int) := by grind
theorem om126 {x0 x1 : Int} : x0 = (0 : Int) ∨ x0 = (1 : Int) → x1 = (0 : Int) ∨ x1 = (1 : Int) → (0 : Int) ≤ x0 := by grind
theorem om127 {x0 x1 : Int} : x0 = (0 : Int) ∨ x0 = (1 : Int) → x1 = (0 : Int) ∨ x1 = (1 : Int) → x0 ≤ (1 : Int) := by grind
theorem om128 {x0 : Int} : x0 = (0 : Int) ∨ x0 = (1 : Int) → (0 : Int) ≤ x0 := by grind
theorem om129 {x0 : Int} : x0 = (0 : Int) ∨ x0 = (1 : Int) → x0 ≤ (1 : Int) := by grind
theorem om130 : (1 : Int) ≤ (1 : Int) := by first | (intros; simp at *; done) | (simp; done) | (simp_all; done)
theorem om131 {x0 x1 x2 x3 x4 : Nat} : x0 ≤ (30 : Nat) → x1 ≤ (30 : Nat) → x2 ≤ (30 : Nat) → x3 ≤ (30 : Nat) → (1000 : Nat) ≤ x4 → (0 : Nat) + x0 + (2 : Nat) + x1 + (2 : Nat) + x2 + (2 : Nat) + (0 : Nat) + (2 : Nat) + x3 + (2 : Nat) ≤ x4 := by grind
theorem om132 {x0 x1 x2 x3 x4 : Nat} : x0 ≤ (30 : Nat) → x1 ≤ (30 : Nat) → x2 ≤ (30 : Nat) → x3 ≤ (30 : Nat) → (1000 : Nat) ≤ x4 → x0 + (x1 + (x2 + (x3 + (1 : Nat) + (1 : Nat) + (1 : Nat) + (1 : Nat)) + (1 : Nat) + (1 : Nat)) + (1 : Nat) + (1 : Nat)) ≤ x4 := by grind
theorem om133 : (0 : Int) ≤ (6 : Int) := by first | (intros; simp at *; done) | (simp; done) | (simp_all; done)
theorem om134 : (6 : Int) ≤ (1000 : Int) := by first | (intros; simp at *; done) | (simp; done) | (simp_all; done)
theorem om135 : Int.natAbs (10 : Int) < (2 : Nat) ^ (64 : Nat) := by decide
theorem om136 : ((10 : Int) ^ (6 : Nat)).natAbs < (2 : Nat) ^ (200 : Nat) := by decide
theorem om137 {x0 : Int} : (1 : Int) ≤ x0 ∧ x0 ≤ (19 : Int) → x0 ≤ (20 : Int) := by grind
theorem om138 {x0 : Nat} : x0 < (4 : Nat) → (0 : Int) ≤ (↑x0 : Int) := by first | (intros; simp at *; done) | (simp; done) | (simp_all; done)
theorem om139 {x0 : Nat} : x0 < (4 : Nat) → (↑x0 : Int) < (2 : Int) ^ (62 : Nat) := by grind
theorem om140 {x0 : Int} : (0 : Int) ≤ x0 → x0 ≤ (1 : Int) → (1 : Int) - x0 ≤ (1000 : Int) := by grind
theorem om141 {x0 : Int} : (0 : Int) ≤ x0 → x0 ≤ (1 : Int) → (-1000 : Int) ≤ (1 : Int) - x0 := by grind
theorem om142 {x0 : Int} : (1 : Int) ≤ x0 → x0 ≤ (20 : Int) → x0 ≤ (1000 : Int) := by grind
theorem om143 {x0 : Int} : (1 : Int) ≤ x0 → x0 ≤ (20 : Int) → (-1000 : Int) ≤ x0 := by grind
theorem om144 {x0 x1 : Int} : (0 : Int) ≤ x0 → x0 ≤ (1 : Int) → (1 : Int) ≤ x1 → x1 ≤ (20 : Int) → ((1 : Int) - x0).toNat * ((0 : Nat) + (1 : Nat) + (1 : Nat)) + x1.toNat * ((0 : Nat) + (1 : Nat)) ≤ (1000000 : Nat) := by grind
theorem om145 {x0 x1 : Int} {x2 : Nat} : (0 : Int) ≤ x0 → x0 ≤ (1 : Int) → (1 : Int) ≤ x1 → x1 ≤ (20 : Int) → x2 ≤ (2 : Nat) → ((1 : Int) - x0).toNat * ((0 : Nat) + (1 : Nat) + (1 : Nat)) + x1.toNat * ((0 : Nat) + (1 : Nat)) + x2 ≤ (1000000 : Nat) := by grind
theorem om146 {x0 : Int} {x1 : Nat} : x0 = (↑x1 : Int) → x0 < (3 : Int) → x1 < (3 : Nat) := by grind
theorem om147 {x0 x1 : Int} {x2 : Nat} : (x0 + x1) % (3 : Int) = (↑x2 : Int) → (x0 + x1 + (1 : Int)) % (3 : Int) = (↑((x2 + (1 : Nat)) % (3 : Nat)) : Int) := by grind
theorem om148 {x0 x1 : Int} {x2 : Nat} {x3 : Int} : (x0 + x1) % (3 : Int) = (↑x2 : Int) → x3 = (↑((x2 + (1 : Nat)) % (3 : Nat)) : Int) → (x0 + x1 + (2 : Int)) % (3 : Int) = (↑((x2 + (2 : Nat)) % (3 : Nat)) : Int) := by grind
theorem om149 {x0 : Int} {x1 : Nat} {x2 x3 : Int} : x0 = (↑x1 : Int) → x1 < (3 : Nat) → x2 = (↑((x1 + (1 : Nat)) % (3 : Nat)) : Int) → x3 = (↑((x1 + (2 : Nat)) % (3 : Nat)) : Int) → (0 : Int) ≤ x0 := by grind
theorem om150 {x0 : Int} {x1 : Nat} {x2 x3 : Int} : x0 = (↑x1 : Int) → x1 < (3 : Nat) → x2 = (↑((x1 + (1 : Nat)) % (3 : Nat)) : Int) → x3 = (↑((x1 + (2 : Nat)) % (3 : Nat)) : Int) → x0 < (2 : Int) ^ (62 : Nat) := by grind
theorem om151 {x0 x1 : Nat} : x0 ≤ (2 : Nat) → x1 ≤ (30 : Nat) → x1 + x0 ≤ (1000000 : Nat) := by grind
theorem om152 {x0 x1 x2 : Nat} : x0 ≤ (2 : Nat) → x1 ≤ (30 : Nat) → x2 ≤ (30 : Nat) → x1 + x0 + x2 ≤ (1000000 : Nat) := by grind
theorem om153 {x0 : Int} {x1 : Nat} {x2 : Int} : x0 = (↑((x1 + (1 : Nat)) % (3 : Nat)) : Int) → x2 = (↑((x1 + (2 : Nat)) % (3 : Nat)) : Int) → (0 : Int) ≤ x0 := by grind
theorem om154 {x0 : Int} {x1 : Nat} {x2 : Int} : x0 = (↑((x1 + (1 : Nat)) % (3 : Nat)) : Int) → x2 = (↑((x1 + (2 : Nat)) % (3 : Nat)) : Int) → x0 < (2 : Int) ^ (62 : Nat) := by grind
theorem om155 {x0 x1 x2 x3 : Nat} : x0 ≤ (2 : Nat) → x1 ≤ (2 : Nat) → x2 ≤ (30 : Nat) → x3 ≤ (30 : Nat) → x2 + x0 + x3 + x1 ≤ (1000000 : Nat) := by grind
theorem om156 : (0 : Int) ≤ (2 : Int) := by first | (intros; simp at *; done) | (simp; done) | (simp_all; done)
theorem om157 : (2 : Int) < (2 : Int) ^ (62 : Nat) := by first | (intros; simp at *; done) | (simp; done) | (simp_all; done)
theorem om158 {x0 x1 x2 x3 x4 : Nat} : x0 ≤ (2 : Nat) → x1 ≤ (2 : Nat) → x2 ≤ (30 : Nat) → x3 ≤ (30 : Nat) → x4 ≤ (30 : Nat) → x2 + x0 + x3 + x1 + x4 ≤ (1000000 : Nat) := by grind
theorem om159 {x0 : Int} {x1 : Nat} {x2 : Int} : x0 = (↑((x1 + (1 : Nat)) % (3 : Nat)) : Int) → x2 = (↑((x1 + (2 : Nat)) % (3 : Nat)) : Int) → (0 : Int) ≤ x2 := by grind
theorem om160 {x0 : Int} {x1 : Nat} {x2 : Int} : x0 = (↑((x1 + (1 : Nat)) % (3 : Nat)) : Int) → x2 = (↑((x1 + (2 : Nat)) % (3 : Nat)) : Int) → x2 < (2 : Int) ^ (62 : Nat) := by grind
theorem om161 {x0 x1 x2 x3 x4 x5 : Nat} : x0 ≤ (2 : Nat) → x1 ≤ (2 : Nat) → x2 ≤ (2 : Nat) → x3 ≤ (30 : Nat) → x4 ≤ (30 : Nat) → x5 ≤ (30 : Nat) → x3 + x0 + x4 + x1 + x5 + x2 ≤ (1000000 : Nat) := by grind
theorem om162 {x0 x1 x2 x3 x4 x5 : Nat} : x0 ≤ (2 : Nat) → x1 ≤ (2 : Nat) → x2 ≤ (2 : Nat) → x3 ≤ (30 : Nat) → x4 ≤ (30 : Nat) → x5 ≤ (30 : Nat) → x3 + x0 + x4 + x1 + x5 + x2 + x0 ≤ (1000000 : Nat) := by grind
theorem om163 : (0 : Int) ≤ (3 : Int) := by first | (intros; simp at *; done) | (simp; done) | (simp_all; done)
theorem om164 : (3 : Int) < (2 : Int) ^ (62 : Nat) := by first | (intros; simp at *; done) | (simp; done) | (simp_all; done)
theorem om165 {x0 x1 x2 x3 x4 x5 x6 : Nat} : x0 ≤ (2 : Nat) → x1 ≤ (2 : Nat) → x2 ≤ (2 : Nat) → x3 ≤ (30 : Nat) → x4 ≤ (30 : Nat) → x5 ≤ (30 : Nat) → x6 ≤ (30 : Nat) → x3 + x0 + x4 + x1 + x5 + x2 + x0 + x6 ≤ (1000000 : Nat) := by grind
theorem om166 {x0 x1 x2 x3 : Int} : x0 = (0 : Int) ∨ x0 = (1 : Int) → x1 = (0 : Int) ∨ x1 = (1 : Int) → x2 = (0 : Int) ∨ x2 = (1 : Int) → (1 : Int) ≤ x3 ∧ x3 ≤ (19 : Int) → (1 : Int) ≤ x3 + x0 ∧ x3 + x0 ≤ (20 : Int) := by grind
theorem om167 {x0 x1 x2 : Int} : x0 = (0 : Int) ∨ x0 = (1 : Int) → x1 = (0 : Int) ∨ x1 = (1 : Int) → (1 : Int) ≤ x2 ∧ x2 ≤ (19 : Int) → (1 : Int) ≤ x2 + x0 ∧ x2 + x0 ≤ (20 : Int) := by grind
theorem om168 {x0 x1 : Int} : x0 = (0 : Int) ∨ x0 = (1 : Int) → (1 : Int) ≤ x1 ∧ x1 ≤ (19 : Int) → (1 : Int) ≤ x1 + x0 ∧ x1 + x0 ≤ (20 : Int) := by grind
theorem om169 {x0 : Int} : (1 : Int) ≤ x0 ∧ x0 ≤ (19 : Int) → (1 : Int) ≤ x0 + (1 : Int) ∧ x0 + (1 : Int) ≤ (20 : Int) := by grind
theorem om170 {x0 : Nat} : (3 : Nat) ≤ x0 + (9 : Nat) := by first | (intros; simp at *; done) | (simp; done) | (simp_all; done)
theorem om171 {x0 x1 x2 x3 x4 x5 x6 : Nat} : x0 ≤ (2 : Nat) → x1 ≤ (2 : Nat) → x2 ≤ (2 : Nat) → x3 ≤ (30 : Nat) → x4 ≤ (30 : Nat) → x5 ≤ (30 : Nat) → x6 ≤ (30 : Nat) → x3 + x0 + x4 + x1 + x5 + x2 + x0 + x6 ≤ (400 : Nat) := by grind
theorem om172 {x0 x1 x2 x3 : Int} : x0 = (0 : Int) ∨ x0 = (1 : Int) → x1 = (0 : Int) ∨ x1 = (1 : Int) → x2 = (0 : Int) ∨ x2 = (1 : Int) → (1 : Int) ≤ x3 ∧ x3 ≤ (19 : Int) → x3 + x0 ≤ (20 : Int) := by grind
theorem om173 {x0 x1 x2 : Int} : x0 = (0 : Int) ∨ x0 = (1 : Int) → x1 = (0 : Int) ∨ x1 = (1 : Int) → (1 : Int) ≤ x2 ∧ x2 ≤ (19 : Int) → x2 + x0 ≤ (20 : Int) := by grind
theorem om174 {x0 x1 : Int} : x0 = (0 : Int) ∨ x0 = (1 : Int) → (1 : Int) ≤ x1 ∧ x1 ≤ (19 : Int) → x1 + x0 ≤ (20 : Int) := by grind
theorem om175 {x0 : Int} : (1 : Int) ≤ x0 ∧ x0 ≤ (19 : Int) → x0 + (1 : Int) ≤ (20 : Int) := by grind
theorem om176 {x0 : Int} : (0 : Int) ≤ x0 → x0 < (6 : Int) → x0 = (0 : Int) ∨ x0 = (1 : Int) ∨ x0 = (2 : Int) ∨ x0 = (3 : Int) ∨ x0 = (4 : Int) ∨ x0 = (5 : Int) := by grind
theorem om177 {x0 : Int} : x0 = (2 : Int) → ¬x0 = (1 : Int) := by grind
theorem om178 {x0 : Int} : x0 = (3 : Int) → ¬x0 = (1 : Int) := by grind
theorem om179 {x0 : Int} : x0 = (3 : Int) → ¬x0 = (2 : Int) := by grind
theorem om180 {x0 : Int} : x0 = (4 : Int) → ¬x0 = (1 : Int) := by grind
theorem om181 {x0 : Int} : x0 = (4 : Int) → ¬x0 = (2 : Int) := by grind
theorem om182 {x0 : Int} : x0 = (4 : Int) → ¬x0 = (3 : Int) := by grind
theorem om183 {x0 : Int} : x0 = (5 : Int) → ¬x0 = (1 : Int) := by grind
theorem om184 {x0 : Int} : x0 = (5 : Int) → ¬x0 = (2 : Int) := by grind
theorem om185 {x0 : Int} : x0 = (5 : Int) → ¬x0 = (3 : Int) := by grind
theorem om186 {x0 : Int} : x0 = (5 : Int) → ¬x0 = (4 : Int) := by grind
theorem om187 {x0 x1 : Int} : (0 : Int) ≤ x0 ∧ x0 ≤ x1 → (0 : Int) ≤ x1 := by grind
theorem om188 {x0 : Nat} : (2 : Nat) ≤ x0 ∧ x0 ≤ (19 : Nat) → (0 : Int) ≤ (↑x0 : Int) / (6 : Int) ∧ (↑x0 : Int) / (6 : Int) ≤ (19 : Int) := by grind
theorem om189 {x0 : Int} : x0 = (1 : Int) ∨ x0 = (5 : Int) → x0.natAbs < (2 : Nat) ^ (64 : Nat) := by grind
theorem om190 {x0 : Int} : (0 : Int) ≤ x0 ∧ x0 ≤ (19 : Int) → x0.natAbs < (2 : Nat) ^ (64 : Nat) := by grind
theorem om191 : Int.natAbs (6 : Int) < (2 : Nat) ^ (100 : Nat) := by decide
theorem om192 {x0 : Nat} : x0 + (410 : Nat) ≤ x0 + (450 : Nat) := by first | (intros; simp at *; done) | (simp; done) | (simp_all; done)
theorem om193 {x0 : Nat} : x0 ≤ (18 : Nat) → (0 : Int) ≤ (↑x0 : Int) := by first | (intros; simp at *; done) | (simp; done) | (simp_all; done)
theorem om194 {x0 : Nat} : x0 ≤ (18 : Nat) → (↑x0 : Int) ≤ (20 : Int) := by grind
theorem om195 {x0 : Nat} : x0 ≤ (18 : Nat) → x0 ≤ (20 : Nat) := by grind
theorem om196 {x0 : Nat} : (2 : Nat) ≤ x0 ∧ x0 ≤ (19 : Nat) → (0 : Int) ≤ (↑x0 : Int) / (3 : Int) ∧ (↑x0 : Int) / (3 : Int) ≤ (19 : Int) := by grind
theorem om197 : Int.natAbs (3 : Int) < (2 : Nat) ^ (100 : Nat) := by decide
theorem om198 {x0 : Nat} : x0 ≤ (40 : Nat) → (0 : Int) ≤ (↑x0 : Int) := by first | (intros; simp at *; done) | (simp; done) | (simp_all; done)
theorem om199 {x0 : Nat} : x0 ≤ (40 : Nat) → (↑x0 : Int) ≤ (1000 : Int) := by grind
theorem om200 {x0 : Nat} : x0 ≤ (3 : Nat) → (↑x0 : Int).natAbs < (2 : Nat) ^ (64 : Nat) := by grind
theorem om201 {x0 : Nat} : (2 : Nat) ≤ x0 ∧ x0 ≤ (19 : Nat) → (↑x0 : Int) ≠ (0 : Int) := by grind
theorem om202 {x0 : Nat} : x0 ≤ (18 : Nat) → (0 : Int) ≤ (↑x0 : Int) + (1 : Int) := by grind
theorem om203 {x0 : Nat} : x0 ≤ (18 : Nat) → (↑x0 : Int) + (1 : Int) ≤ (1000 : Int) := by grind
theorem om204 : (-1 : Int).natAbs < (2 : Nat) ^ (64 : Nat) := by decide
theorem om205 {x0 : Nat} : x0 ≤ (100000 : Nat) → (1 : Nat) * (↑x0 : Int).natAbs < (2 : Nat) ^ (64 : Nat) := by grind
theorem om206 {x0 : Nat} : x0 ≤ (20 : Nat) → (0 : Int) ≤ (↑x0 : Int) := by first | (intros; simp at *; done) | (simp; done) | (simp_all; done)
theorem om207 {x0 : Nat} : x0 ≤ (20 : Nat) → (↑x0 : Int) ≤ (1000 : Int) := by grind
theorem om208 {x0 : Int} : (0 : Int) ≤ x0 ∧ x0 ≤ (20 : Int) → x0.natAbs < (2 : Nat) ^ (64 : Nat) := by grind
theorem om209 {x0 : Nat} : x0 ≤ (18 : Nat) → (↑x0 : Int).natAbs < (2 : Nat) ^ (64 : Nat) := by grind
theorem om210 {x0 : Nat} : x0 ≤ (18 : Nat) → (0 : Int) ≤ (↑x0 : Int) ∧ (↑x0 : Int) ≤ (18 : Int) := by grind
theorem om211 {x0 : Nat} : x0 + (403 : Nat) ≤ x0 + (450 : Nat) := by first | (intros; simp at *; done) | (simp; done) | (simp_all; done)
theorem om212 {x0 x1 x2 x3 : Int} : (0 : Int) ≤ x0 ∧ x0 ≤ (20 : Int) → (0 : Int) ≤ x1 ∧ x1 ≤ (20 : Int) * (18 : Int) → (0 : Int) ≤ x2 ∧ x2 ≤ (20 : Int) * (18 : Int) * (18 : Int) → (-100 : Int) ≤ x3 ∧ x3 ≤ (100 : Int) → -(2 : Int) ^ (299 : Nat) ≤ x0 + x1 + x2 - x3 := by grind
theorem om213 {x0 x1 x2 x3 : Int} : (0 : Int) ≤ x0 ∧ x0 ≤ (20 : Int) → (0 : Int) ≤ x1 ∧ x1 ≤ (20 : Int) * (18 : Int) → (0 : Int) ≤ x2 ∧ x2 ≤ (20 : Int) * (18 : Int) * (18 : Int) → (-100 : Int) ≤ x3 ∧ x3 ≤ (100 : Int) → x0 + x1 + x2 - x3 < (2 : Int) ^ (299 : Nat) := by grind
theorem om214 {x0 : Nat} : (2 : Nat) ≤ x0 ∧ x0 ≤ (19 : Nat) → (0 : Int) < (↑x0 : Int) := by grind
theorem om215 {x0 : Nat} : (2 : Nat) ≤ x0 ∧ x0 ≤ (19 : Nat) → (↑x0 : Int) < (2 : Int) ^ (100 : Nat) := by grind
theorem om216 : (32 : Int) ≠ (0 : Int) := by decide
theorem om217 {x0 : Int} : (0 : Int) ≤ x0 ∧ x0 ≤ (20 : Int) → x0.natAbs < (2 : Nat) ^ (200 : Nat) := by grind
theorem om218 : Int.natAbs (1 : Int) < (2 : Nat) ^ (200 : Nat) := by first | (intros; simp at *; done) | (simp; done) | (simp_all; done)
theorem om219 {x0 : Nat} : (1 : Nat) ≤ x0 + (450 : Nat) := by first | (intros; simp at *; done) | (simp; done) | (simp_all; done)
theorem om220 : Int.natAbs (64 : Int) < (2 : Nat) ^ (200 : Nat) := by decide
theorem om221 {x0 : Nat} : (2 : Nat) ≤ x0 + (450 : Nat) := by first | (intros; simp at *; done) | (simp; done) | (simp_all; done)
theorem om222 : ((32 : Int) * (10 : Int) ^ (6 : Nat)).natAbs < (2 : Nat) ^ (200 : Nat) := by decide
theorem om223 : Int.natAbs (32 : Int) < (2 : Nat) ^ (200 : Nat) := by decide
theorem om224 : (2 : Int) ≤ (1000 : Int) := by first | (intros; simp at *; done) | (simp; done) | (simp_all; done)
theorem om225 {x0 : Nat} : (2 : Nat) ≤ x0 ∧ x0 ≤ (19 : Nat) → ((↑x0 : Int) - (2 : Int)).natAbs < (2 : Nat) ^ (64 : Nat) := by grind
theorem om226 {x0 : Nat} : x0 ≤ (3 : Nat) → (0 : Int) ≤ (↑x0 : Int) := by first | (intros; simp at *; done) | (simp; done) | (simp_all; done)
theorem om227 {x0 : Nat} : x0 ≤ (3 : Nat) → (↑x0 : Int) < (2 : Int) ^ (62 : Nat) := by grind
theorem om228 {x0 : Nat} : (2 : Nat) ≤ x0 ∧ x0 ≤ (19 : Nat) → ((↑x0 : Int) - (1 : Int)).natAbs < (2 : Nat) ^ (64 : Nat) := by grind
theorem om229 {x0 : Int} : (0 : Int) ≤ x0 ∧ x0 ≤ (40 : Int) → ((6 : Int) * x0).natAbs < (2 : Nat) ^ (200 : Nat) := by grind
theorem om230 {x0 : Int} : (0 : Int) ≤ x0 ∧ x0 ≤ (40 : Int) → max x0 (1 : Int) ≠ (0 : Int) := by grind
theorem om231 {x0 : Int} : max x0 (1 : Int) ≠ (0 : Int) → max x0 (1 : Int) ≠ (0 : Int) := by first | (intros; simp at *; done) | (simp; done) | (simp_all; done)
theorem om232 {x0 : Int} : (0 : Int) ≤ x0 ∧ x0 ≤ (40 : Int) → x0.natAbs < (2 : Nat) ^ (64 : Nat) := by grind
theorem om233 {x0 x1 : Int} : (0 : Int) ≤ x0 ∧ x0 ≤ (40 : Int) → x1 = x0 → x0.natAbs < (2 : Nat) ^ (64 : Nat) := by grind
theorem om234 : (10 : Int) ^ (6 : Nat) ≠ (0 : Int) := by decide
theorem om235 {x0 : Int} {x1 : Nat} {x2 : Int} : (0 : Int) ≤ x0 ∧ x0 ≤ (1000000 : Int) * (↑x1 : Int) → (0 : Int) ≤ x2 → x2 < (10 : Int) ^ (6 : Nat) → (0 : Int) ≤ x2 + x0 ∧ x2 + x0 ≤ (1000000 : Int) * (↑(x1 + (1 : Nat)) : Int) := by grind
theorem om236 {x0 : Nat} {x1 : Int} {x2 : Nat} : x0 ≤ (1000 : Nat) → (0 : Int) ≤ x1 ∧ x1 ≤ (1000000 : Int) * (↑x2 : Int) → x2 ≤ x0 → (0 : Int) ≤ x1 ∧ x1 ≤ (1000000000 : Int) := by grind
theorem om237 {x0 : Nat} : x0 ≤ (60000 : Nat) → ¬(↑x0 : Int) < (0 : Int) ∧ ¬(↑x0 : Int) > (1114111 : Int) := by grind
theorem om238 {x0 : Int} {x1 : Nat} : (0 : Int) ≤ x0 → x0 < (3 : Int) → x0.toNat = x1 → x1 < (3 : Nat) := by grind
theorem om239 {x0 x1 : Int} : (1 : Int) + x0 = x1 → (0 : Int) ≤ x0 → x0 < (6 : Int) → (1 : Int) ≤ x1 ∧ x1 ≤ (6 : Int) := by grind
theorem om240 {x0 : Int} : (0 : Int) ≤ x0 → (0 : Int) ≤ x0 := by first | (intros; simp at *; done) | (simp; done) | (simp_all; done)
theorem om241 {x0 : Int} : (0 : Int) ≤ x0 → x0 < (3 : Int) → x0 < (2 : Int) ^ (62 : Nat) := by grind
theorem om242 {x0 x1 : Int} : (0 : Int) ≤ x0 ∧ x0 ≤ (1000000000 : Int) → (6 : Int) + x0 = x1 → -(2 : Int) ^ (299 : Nat) ≤ -x1 := by grind
theorem om243 {x0 x1 : Int} : (0 : Int) ≤ x0 ∧ x0 ≤ (1000000000 : Int) → (6 : Int) + x0 = x1 → -x1 < (2 : Int) ^ (299 : Nat) := by grind
theorem om244 {x0 : Nat} : (2 : Nat) ≤ x0 ∧ x0 ≤ (19 : Nat) → (2 : Nat) ≤ x0 := by intros; exact And.left ‹_›
theorem om245 {x0 : Nat} : (2 : Nat) ≤ x0 ∧ x0 ≤ (19 : Nat) → x0 ≤ (100 : Nat) := by grind
theorem om246 {x0 : Nat} : x0 ≤ (3 : Nat) → (↑x0 : Int) ≤ (100 : Int) := by grind
theorem om247 {x0 x1 : Nat} : (2 : Nat) ≤ x0 ∧ x0 ≤ (19 : Nat) → x1 = x0 - (1 : Nat) → x1 ≤ (1000 : Nat) := by grind
theorem om248 {x0 : Nat} : (2 : Nat) ≤ x0 ∧ x0 ≤ (19 : Nat) → (↑x0 : Int) = (1 : Int) + (↑(x0 - (1 : Nat)) : Int) := by grind
theorem om249 {x0 : Nat} : (2 : Nat) ≤ x0 ∧ x0 ≤ (19 : Nat) → (↑x0 : Int) < (2 : Int) ^ (62 : Nat) := by omega
theorem om250 {x0 : Nat} : (2 : Nat) ≤ x0 ∧ x0 ≤ (19 : Nat) → x0 - (1 : Nat) ≤ (1000 : Nat) := by grind
theorem om251 {x0 : Int} : (0 : Int) ≤ x0 → x0 < (50000 : Int) → (47 : Int) + x0 = (↑((47 : Int) + x0).toNat : Int) := by grind
theorem om252 {x0 : Int} : (0 : Int) ≤ x0 → x0 < (50000 : Int) → (47 : Nat) ≤ ((47 : Int) + x0).toNat := by grind
theorem om253 {x0 : Int} : (0 : Int) ≤ x0 → x0 < (50000 : Int) → ((47 : Int) + x0).toNat ≤ (60000 : Nat) := by grind
theorem om254 : (50000 : Int) ≠ (0 : Int) := by decide
theorem om255 {x0 : Nat} : x0 + (10 : Nat) ≤ x0 + (450 : Nat) := by first | (intros; simp at *; done) | (simp; done) | (simp_all; done)
theorem om256 {x0 : Nat} : (2 : Nat) ≤ x0 ∧ x0 ≤ (19 : Nat) → x0 ≤ (19 : Nat) := by intros; exact And.right ‹_›
theorem om257 {x0 : Int} {x1 : Nat} : (47 : Int) + x0 = (↑x1 : Int) ∧ (47 : Nat) ≤ x1 ∧ x1 ≤ (60000 : Nat) → x1 ≠ (10 : Nat) ∧ x1 ≠ (13 : Nat) ∧ x1 ≠ (46 : Nat) := by grind
theorem om258 {x0 : Int} : (1 : Int) ≤ x0 ∧ x0 ≤ (6 : Int) → (0 : Int) ≤ x0 ∧ x0 ≤ (6 : Int) := by grind
theorem om259 {x0 : Nat} {x1 : Int} : (2 : Nat) ≤ x0 ∧ x0 ≤ (19 : Nat) → x1 < (↑x0 : Int) → x1 ≤ (19 : Int) := by grind
theorem om260 {x0 : Int} : (1 : Int) ≤ x0 ∧ x0 ≤ (6 : Int) → (0 : Int) ≤ x0 := by grind
theorem om261 {x0 : Nat} : (↑x0 : Int) + (1 : Int) = (↑(x0 + (1 : Nat)) : Int) := by intros; rfl
theorem om262 {x0 x1 : Nat} : x0 + (1 : Nat) ≤ x1 → (↑x0 : Int) < (↑x1 : Int) := by grind
theorem om263 {x0 x1 : Nat} : x0 + (1 : Nat) - x0 = x1 → x0 + (1 : Nat) - x0 = (1 : Nat) := by first | (intros; simp at *; done) | (simp; done) | (simp_all; done)
theorem om264 {x0 x1 : Nat} : x0 + (1 : Nat) ≤ x1 → x0 < x1 := by grind
theorem om265 {x0 x1 : Nat} : x0 < x1 → ¬x1 = x0 + (1 : Nat) → x0 + (1 : Nat) < x1 := by grind
theorem om266 {x0 x1 x2 : Nat} : x0 + (1 : Nat) < x1 → x2 = (x0 + x1) / (2 : Nat) → x0 < x2 := by grind
theorem om267 {x0 x1 x2 : Nat} : x0 = (x1 + x2) / (2 : Nat) → x1 < x0 → x0 < x2 := by grind
theorem om268 {x0 x1 x2 : Nat} {x3 : Int} : x0 = (x1 + x2) / (2 : Nat) → x1 < x0 → x3 = (↑x0 : Int) → x1 ≤ x0 := by grind
theorem om269 {x0 x1 x2 x3 : Nat} {x4 : Int} : x0 ≤ x1 → x1 ≤ (1000 : Nat) → x2 = (x3 + x0) / (2 : Nat) → x3 < x2 → x4 = (↑x2 : Int) → x2 - x3 ≤ (1000 : Nat) := by grind
theorem om270 : (1000 : Nat) * (100 : Nat) ≤ (100000 : Nat) := by first | (intros; simp at *; done) | (simp; done) | (simp_all; done)
theorem om271 {x0 : Nat} : (1 : Nat) ≤ x0 → x0 ≤ (100 : Nat) → (↑x0 : Int).natAbs < (2 : Nat) ^ (64 : Nat) := by grind
theorem om272 {x0 x1 x2 x3 : Nat} {x4 : Int} : x0 - x1 = x2 → ¬x0 = x1 + (1 : Nat) → x1 + (1 : Nat) < x0 → x3 = (x1 + x0) / (2 : Nat) → x1 < x3 → x3 < x0 → x4 = (↑x3 : Int) → x0 - x1 = x0 - x3 + (x3 - x1) := by grind
theorem om273 {x0 x1 x2 x3 : Nat} {x4 : Int} : x0 ≤ x1 → x1 ≤ (1000 : Nat) → x2 + (1 : Nat) < x0 → x3 = (x2 + x0) / (2 : Nat) → x2 < x3 → x3 < x0 → x4 = (↑x3 : Int) → x0 - x3 ≤ (1000 : Nat) := by grind
theorem om274 {x0 x1 : Nat} {x2 : Int} {x3 x4 x5 : Nat} : x0 = x1 → x2 = (↑x0 : Int) → x0 ≤ (100000 : Nat) → x3 = x4 + x0 → x5 ≤ (100000 : Nat) → (↑x5 : Int) + (↑x0 : Int) ≤ (2 : Int) ^ (27 : Nat) := by grind
theorem om275 {x0 x1 : Nat} {x2 : Int} {x3 x4 : Nat} : x0 = x1 → x2 = (↑x0 : Int) → x0 ≤ (100000 : Nat) → x3 = x4 + x0 → (0 : Int) ≤ (↑x0 : Int) := by first | (intros; simp at *; done) | (simp; done) | (simp_all; done)
theorem om276 {x0 x1 : Nat} : x0 + (1 : Nat) < x1 → ¬(↑x0 : Int) + (1 : Int) = (↑x1 : Int) := by grind
theorem om277 {x0 : Nat} : (0 : Int) ≤ (↑x0 : Int) → (0 : Int) ≤ (↑x0 : Int) := by first | (intros; simp at *; done) | (simp; done) | (simp_all; done)
theorem om278 {x0 x1 x2 x3 : Nat} {x4 : Int} : x0 - x1 = x2 → ¬x0 = x1 + (1 : Nat) → x1 + (1 : Nat) < x0 → x3 = (x1 + x0) / (2 : Nat) → x1 < x3 → x4 = (↑x3 : Int) → x3 - x1 < x2 := by grind
theorem om279 {x0 x1 x2 x3 : Nat} {x4 : Int} {x5 : Nat} : x0 - x1 = x2 → ¬x0 = x1 + (1 : Nat) → x1 + (1 : Nat) < x0 → x3 = (x1 + x0) / (2 : Nat) → x1 < x3 → x3 < x0 → x4 = (↑x3 : Int) → x5 + x2 - (x3 - x1) - (1 : Nat) + (x3 - x1) + (1 : Nat) ≤ x5 + x2 := by grind
theorem om280 {x0 x1 x2 x3 : Nat} {x4 : Int} : x0 ≤ x1 → x2 = (x3 + x0) / (2 : Nat) → x2 < x0 → x4 = (↑x2 : Int) → x2 ≤ x1 := by grind
theorem om281 {x0 x1 x2 x3 : Nat} {x4 : Int} : x0 - x1 = x2 → ¬x0 = x1 + (1 : Nat) → x1 + (1 : Nat) < x0 → x3 = (x1 + x0) / (2 : Nat) → x3 < x0 → x4 = (↑x3 : Int) → x0 - x3 < x2 := by grind
theorem om282 {x0 x1 x2 x3 : Nat} {x4 : Int} {x5 : Nat} : x0 - x1 = x2 → ¬x0 = x1 + (1 : Nat) → x1 + (1 : Nat) < x0 → x3 = (x1 + x0) / (2 : Nat) → x3 < x0 → x4 = (↑x3 : Int) → x5 + x2 - (x0 - x3) - (1 : Nat) + (x0 - x3) + (1 : Nat) ≤ x5 + x2 := by grind
theorem om283 {x0 x1 x2 x3 : Nat} {x4 : Int} : x0 ≤ x1 → x2 + (1 : Nat) < x0 → x3 = (x2 + x0) / (2 : Nat) → x2 < x3 → x3 < x0 → x4 = (↑x3 : Int) → x0 ≤ min x2 x1 + (x3 - x2 + (x1 - x3)) := by grind
theorem om284 {x0 x1 x2 x3 : Nat} {x4 : Int} : x0 ≤ x1 → x1 ≤ (1000 : Nat) → x2 + (1 : Nat) < x0 → x3 = (x2 + x0) / (2 : Nat) → x2 < x3 → x3 < x0 → x4 = (↑x3 : Int) → min x2 x1 + (x3 - x2 + (x1 - x3)) ≤ (1000 : Nat) := by grind
theorem om285 {x0 x1 x2 x3 x4 : Nat} : (1 : Nat) ≤ x0 → x1 + x2 = x3 + x0 - (1 : Nat) → x2 < x0 → x1 = x4 → x3 ≤ x4 := by grind
theorem om286 {x0 : Nat} : (1 : Nat) ≤ x0 → x0 ≤ (100 : Nat) → (↑x0 : Int) ≠ (0 : Int) := by grind
theorem om287 {x0 : Nat} : (1 : Nat) ≤ x0 → x0 ≤ (100 : Nat) → (↑x0 : Int).natAbs < (2 : Nat) ^ (100 : Nat) := by grind
theorem om288 {x0 : Nat} : (1 : Nat) ≤ x0 → x0 ≤ (100 : Nat) → (0 : Int) ≤ (↑x0 : Int) := by first | (intros; simp at *; done) | (simp; done) | (simp_all; done)
theorem om289 {x0 x1 : Nat} : (1 : Nat) ≤ x0 → x0 ≤ (100 : Nat) → (1 : Nat) ≤ x1 + x0 := by grind
theorem om290 {x0 : Nat} : x0 * ((300 : Nat) + (1 : Nat)) = (300 : Nat) * x0 + x0 := by grind
theorem om291 {x0 x1 : Nat} : (1 : Nat) ≤ x0 → x0 ≤ (100 : Nat) → x1 ≤ (300 : Nat) → x1 + x0 - (1 : Nat) < x0 * Nat.succ (300 : Nat) := by grind
theorem om292 {x0 : Nat} : x0 ≤ (300 : Nat) → (0 : Int) ≤ (↑x0 : Int) := by first | (intros; simp at *; done) | (simp; done) | (simp_all; done)
theorem om293 {x0 : Nat} : x0 ≤ (300 : Nat) → (↑x0 : Int) ≤ (2 : Int) ^ (20 : Nat) := by grind
theorem om294 {x0 x1 : Nat} : (1 : Nat) ≤ x0 → x0 ≤ (100 : Nat) → x1 = (0 : Nat) → x1 + x0 - (1 : Nat) < x0 := by omega
theorem om295 {x0 x1 : Nat} : x0 ≤ (300 : Nat) → x1 = x0 → x0 < (2 : Nat) ^ (62 : Nat) := by grind
theorem om296 {x0 : Int} {x1 : Nat} : (0 : Int) ≤ x0 → x0 < (2 : Int) ^ (300 : Nat) → ¬x0 = (0 : Int) → x0 < (1 : Int) → (0 : Nat) < x1 := by grind
theorem om297 {x0 x1 x2 : Nat} : x0 ≤ (300 : Nat) → x1 = x0 → (0 : Nat) < x0 → x2 + (398 : Nat) - x0 + x0 + (1 : Nat) ≤ x2 + (399 : Nat) := by grind
theorem om298 {x0 x1 : Nat} : x0 ≤ (300 : Nat) → x1 = x0 → (0 : Nat) < x0 → x0 ≤ (1000 : Nat) := by grind
theorem om299 {x0 x1 : Nat} : x0 + (1 : Nat) * x1 = x1 + x0 := by grind
theorem om300 {x0 x1 : Int} : x0 < x1 → x0 + (1 : Int) ≤ x1 := by grind
theorem om301 {x0 x1 x2 x3 : Int} : x0 < x1 → x2 + x1 ≤ x3 → x0 + x2 < x3 := by grind
theorem om302 {x0 x1 x2 : Nat} : x0 ≤ x1 → x1 ≤ x2 → x2 - x0 = x1 - x0 + (x2 - x1) := by grind
theorem om303 {x0 x1 x2 : Nat} : x0 ≤ x1 → x1 ≤ x2 → x0 + (x1 - x0) = x1 := by first | (intros; simp at *; done) | (simp; done) | (simp_all; done)
theorem om304 {x0 x1 x2 x3 : Nat} : x0 ≤ x1 → x1 ≤ x2 → x2 ≤ x3 → min (x1 - x0) (x3 - x0) = x1 - x0 := by grind
theorem om305 {x0 : Nat} : x0 + (1 : Nat) - x0 = (1 : Nat) := by first | (intros; simp at *; done) | (simp; done) | (simp_all; done)
theorem om306 {x0 x1 x2 : Nat} : x0 - x1 ≤ (1000 : Nat) → min (x0 - x1) x2 ≤ (1000 : Nat) := by grind
theorem om307 {x0 x1 : Nat} : x0 ≤ (1000 : Nat) → x1 + (1 : Nat) ≤ x0 → (↑x1 : Int) < (2 : Int) ^ (62 : Nat) := by grind
theorem om308 {x0 : Nat} : (↑x0 : Int) < (2 : Int) ^ (62 : Nat) → (0 : Int) ≤ (↑x0 : Int) := by first | (intros; simp at *; done) | (simp; done) | (simp_all; done)
theorem om309 {x0 x1 x2 : Nat} : x0 + (1 : Nat) < x1 → x2 = (x0 + x1) / (2 : Nat) → x2 < x1 := by omega
theorem om310 {x0 x1 x2 x3 : Nat} {x4 : Int} : x0 ≤ (1000 : Nat) → x1 ≤ x0 → x2 = (x3 + x1) / (2 : Nat) → x3 < x2 → x4 = (↑x2 : Int) → x2 - x3 ≤ (1000 : Nat) := by grind
theorem om311 {x0 x1 x2 x3 : Nat} {x4 : Int} : x0 ≤ (1000 : Nat) → x1 ≤ x0 → x2 + (1 : Nat) < x1 → x3 = (x2 + x1) / (2 : Nat) → x3 < x1 → x4 = (↑x3 : Int) → x1 - x3 ≤ (1000 : Nat) := by grind
theorem om312 {x0 x1 : Nat} {x2 : Int} {x3 : Nat} : x0 = x1 → x2 = (↑x0 : Int) → x0 ≤ (100000 : Nat) → x3 ≤ (100000 : Nat) → (↑x3 : Int) + (↑x0 : Int) ≤ (2 : Int) ^ (27 : Nat) := by grind
theorem om313 {x0 x1 : Nat} {x2 : Int} : x0 = x1 → x2 = (↑x0 : Int) → x0 ≤ (100000 : Nat) → (0 : Int) ≤ (↑x0 : Int) := by first | (intros; simp at *; done) | (simp; done) | (simp_all; done)
theorem om314 {x0 x1 x2 x3 : Nat} {x4 : Int} {x5 : Nat} : x0 - x1 = x2 → ¬x0 = x1 + (1 : Nat) → x1 + (1 : Nat) < x0 → x3 = (x1 + x0) / (2 : Nat) → x1 < x3 → x3 < x0 → x4 = (↑x3 : Int) → x5 + x2 - (x0 - x3) - (1 : Nat) + (x0 - x3) + (1 : Nat) ≤ x5 + x2 := by omega
theorem om315 {x0 x1 x2 x3 : Nat} {x4 : Int} {x5 : Nat} : x0 - x1 = x2 → ¬x0 = x1 + (1 : Nat) → x1 + (1 : Nat) < x0 → x3 = (x1 + x0) / (2 : Nat) → x1 < x3 → x4 = (↑x3 : Int) → x5 + x2 - (x3 - x1) - (1 : Nat) + (x3 - x1) + (1 : Nat) ≤ x5 + x2 := by omega
theorem om316 {x0 : Nat} : x0 ≤ (300 : Nat) → x0 < (2 : Nat) ^ (62 : Nat) := by grind
theorem om317 {x0 : Nat} : x0 ≤ (300 : Nat) → (0 : Nat) < x0 → x0 ≤ (1000 : Nat) := by grind
theorem om318 {x0 x1 : Nat} : x0 ≤ (300 : Nat) → (0 : Nat) < x0 → x1 + (398 : Nat) - x0 + x0 + (1 : Nat) ≤ x1 + (399 : Nat) := by grind
theorem om319 {x0 x1 : Int} : (0 : Int) ≤ x0 → (0 : Int) ≤ x1 → (0 : Int) ≤ x1 + x0 := by grind
theorem om320 {x0 x1 x2 x3 : Int} : x0 < x1 → x2 + x0 = x3 → x0 + (1 : Int) ≤ x1 := by grind
theorem om321 {x0 x1 x2 x3 : Int} : x0 < x1 → x2 + (1 : Int) * x1 ≤ x3 → x2 + x0 < x3 := by grind
theorem om322 {x0 x1 x2 x3 x4 : Int} : x0 + x1 = x2 + x3 → x1 + x4 + x0 = x3 + (x4 + x2) := by grind
theorem om323 {x0 : Nat} : x0 ≤ (1000 : Nat) → (0 : Int) ≤ (↑x0 : Int) := by first | (intros; simp at *; done) | (simp; done) | (simp_all; done)
theorem om324 {x0 x1 : Nat} : x0 ≤ (1000 : Nat) → x1 ≤ (100 : Nat) → (↑x1 : Int) + (↑x0 : Int) ≤ (2 : Int) ^ (27 : Nat) := by grind
theorem om325 {x0 : Int} {x1 : Nat} : (0 : Int) < x0 → x0 < (2 : Int) ^ (100 : Nat) → x0 = (0 : Int) → (1 : Nat) ≤ x1 := by omega
theorem om326 {x0 x1 : Nat} : x0 = x1 → (1 : Nat) ≤ x0 → x0 ≤ (100 : Nat) → (1 : Nat) ≤ x1 := by first | (intros; simp at *; done) | (simp; done) | (simp_all; done)
theorem om327 {x0 x1 : Nat} : x0 = x1 → (1 : Nat) ≤ x0 → x0 ≤ (100 : Nat) → x1 ≤ (100 : Nat) := by grind
theorem om328 {x0 x1 x2 : Nat} : x0 = x1 → (1 : Nat) ≤ x0 → x0 ≤ (100 : Nat) → x2 ≤ (300 : Nat) → x2 + x0 - (1 : Nat) < x0 * Nat.succ (300 : Nat) := by grind
theorem om329 {x0 x1 x2 : Nat} : x0 = x1 → x1 < x2 → x2 - (1 : Nat) - x1 < x2 := by grind
theorem om330 {x0 x1 : Int} : (0 : Int) < x0 → x0 < (2 : Int) ^ (100 : Nat) → (0 : Int) ≤ x1 → x1 < x0 → x1.natAbs < (2 : Nat) ^ (100 : Nat) := by grind
theorem om331 {x0 x1 x2 x3 x4 x5 x6 : Int} : (0 : Int) ≤ x0 ∧ x0 < x1 ∧ (0 : Int) ≤ x2 ∧ x2 < x3 ∧ x4 + x2 = x5 + x6 → (0 : Int) ≤ x1 := by grind
theorem om332 {x0 x1 : Int} : (0 : Int) < x0 → x0 < (2 : Int) ^ (100 : Nat) → x1 < x0 → x1 < (2 : Int) ^ (100 : Nat) := by grind
theorem om333 {x0 x1 x2 x3 x4 x5 x6 x7 x8 x9 : Int} : (0 : Int) < x0 → x0 < (2 : Int) ^ (100 : Nat) → (0 : Int) ≤ x1 → x1 < x0 → (0 : Int) ≤ x2 ∧ x2 < x3 → (0 : Int) ≤ x4 ∧ x4 < x3 ∧ (0 : Int) ≤ x5 ∧ x5 < x0 ∧ x6 + x5 = x2 + x7 → x8 = x9 → x3 ≤ (2 : Int) ^ (100 : Nat) → x8 ≤ x1 * (2 : Int) ^ (100 : Nat) → (0 : Int) ≤ x8 → x1 < (2 : Int) ^ (100 : Nat) → (x8 + x2).natAbs < (2 : Nat) ^ (300 : Nat) := by grind
theorem om334 {x0 x1 : Nat} : x0 = x1 → (1 : Nat) ≤ x0 → x0 ≤ (100 : Nat) → x0 ≤ (1000 : Nat) := by grind
theorem om335 {x0 : Nat} : (1 : Nat) ≤ x0 + (400 : Nat) := by first | (intros; simp at *; done) | (simp; done) | (simp_all; done)
theorem om336 {x0 : Int} : (0 : Int) < x0 → x0 < (2 : Int) ^ (100 : Nat) → x0 ≠ (0 : Int) := by grind
theorem om337 {x0 x1 x2 : Nat} : x0 = x1 → (1 : Nat) ≤ x0 → x0 ≤ (100 : Nat) → x2 ≤ (300 : Nat) → (↑x2 : Int) - (↑x0 : Int) ≤ (4000 : Int) := by grind
theorem om338 {x0 x1 x2 x3 : Nat} : x0 ≤ (300 : Nat) → x1 = x0 → x2 = x3 → x3 < x1 → x2 ≤ (2 : Nat) ^ (20 : Nat) := by grind
theorem om339 {x0 x1 : Nat} : x0 < x1 → x1 - (x0 + (1 : Nat)) = x1 - (1 : Nat) - x0 := by grind
theorem om340 {x0 x1 : Nat} : x0 < x1 → x1 - x0 = x1 - (1 : Nat) - x0 + (1 : Nat) := by grind
theorem om341 {x0 x1 x2 : Nat} : x0 ≤ (300 : Nat) → x1 = x0 → x2 = x1 → x2 ≤ (2 : Nat) ^ (20 : Nat) := by grind
theorem om342 {x0 x1 x2 : Nat} : x0 ≤ (300 : Nat) → x1 = x0 → x2 = x1 → x2 ≤ (300 : Nat) := by grind
theorem om343 {x0 : Int} : x0 = (0 : Int) + x0 := by first | (intros; simp at *; done) | (simp; done) | (simp_all; done)
theorem om344 : (2 : Nat) ≤ (3 : Nat) := by first | (intros; simp at *; done) | (simp; done) | (simp_all; done)
theorem om345 : (3 : Nat) ≤ (3 : Nat) := by first | (intros; simp at *; done) | (simp; done) | (simp_all; done)
theorem om346 {x0 x1 : Nat} : x0 < x1 → ¬x1 ≤ x0 := by grind
theorem om347 : (3 : Nat) ≤ (4 : Nat) := by first | (intros; simp at *; done) | (simp; done) | (simp_all; done)
theorem om348 : (4 : Nat) ≤ (4 : Nat) := by first | (intros; simp at *; done) | (simp; done) | (simp_all; done)
theorem om349 {x0 : Nat} : x0 ≤ (4 : Nat) → x0 ≤ (3 : Nat) * (0 : Nat) + (5 : Nat) := by grind
theorem om350 {x0 : Nat} : (5 : Nat) ≤ (3 : Nat) * (x0 + (1 : Nat)) + (5 : Nat) := by first | (intros; simp at *; done) | (simp; done) | (simp_all; done)
theorem om351 {x0 x1 : Nat} : x0 + (1 : Nat) ≤ x1 → x1 - (x0 + (1 : Nat)) < x1 := by grind
theorem om352 {x0 x1 : Nat} : x0 + (1 : Nat) ≤ x1 → x1 - (x0 + (1 : Nat)) + (1 : Nat) = x1 - x0 := by grind
theorem om353 {x0 x1 : Nat} : x0 + (1 : Nat) ≤ x1 → x0 ≤ x1 := by grind
theorem om354 {x0 x1 x2 : Nat} : x0 ≤ (3 : Nat) → x1 ≤ (3 : Nat) * x2 + (5 : Nat) → x0 + x1 ≤ (3 : Nat) * (x2 + (1 : Nat)) + (5 : Nat) := by grind
theorem om355 {x0 x1 : Nat} : x0 = x1 → (1 : Nat) ≤ (3 : Nat) * x1 + (6 : Nat) := by first | (intros; simp at *; done) | (simp; done) | (simp_all; done)
theorem om356 {x0 x1 : Nat} : x0 = x1 → x1 < x0 ∨ x1 - x0 = (0 : Nat) := by first | (intros; simp at *; done) | (simp; done) | (simp_all; done)
theorem om357 {x0 x1 : Nat} : x0 ≤ x1 → ¬x0 = x1 → x0 ≤ x1 ∧ ¬x1 - x0 = (0 : Nat) := by grind
theorem om358 {x0 x1 : Nat} : x0 ≤ x1 → x1 - x0 ≤ x1 := by first | (intros; simp at *; done) | (simp; done) | (simp_all; done)
theorem om359 {x0 x1 : Nat} : x0 ≤ x1 → x1 - (x1 - x0) = x0 := by grind
theorem om360 {x0 x1 x2 : Nat} : x0 ≤ x1 → x2 ≤ (3 : Nat) * (x1 - x0) + (5 : Nat) → x2 ≤ (3 : Nat) * x1 + (6 : Nat) := by grind
theorem om361 {x0 x1 : Nat} : x0 = x1 → x1 - (0 : Nat) ≥ x1 := by first | (intros; simp at *; done) | (simp; done) | (simp_all; done)
theorem om362 {x0 x1 : Nat} : x0 + (1 : Nat) ≤ x1 → ¬x1 - (x0 + (1 : Nat)) ≥ x1 := by grind
theorem om363 {x0 x1 : Nat} : x0 + (1 : Nat) + (1 : Nat) ≤ x1 + (1 : Nat) → x0 + (1 : Nat) ≤ x1 := by grind
theorem om364 {x0 x1 x2 x3 : Nat} : x0 + (1 : Nat) ≤ x1 → x1 - x0 ≤ x2 → x3 = (10 : Nat) ∨ x3 = (13 : Nat) → x1 - (x0 + (1 : Nat)) ≤ x2 := by grind
theorem om365 : (1 : Nat) ≤ (16 : Nat) := by first | (intros; simp at *; done) | (simp; done) | (simp_all; done)
theorem om366 {x0 x1 : Nat} : x0 ≤ x1 → x1 - x0 + (1 : Nat) ≤ x1 + (1 : Nat) - x0 := by grind
theorem om367 : (8 : Nat) ≤ (16 : Nat) := by first | (intros; simp at *; done) | (simp; done) | (simp_all; done)
theorem om368 : (9 : Nat) ≤ (16 : Nat) := by first | (intros; simp at *; done) | (simp; done) | (simp_all; done)
theorem om369 : (15 : Nat) ≤ (16 : Nat) := by first | (intros; simp at *; done) | (simp; done) | (simp_all; done)
theorem om370 {x0 : Nat} : x0 ≤ (4 : Nat) → (4 : Nat) = x0 + ((4 : Nat) - x0) := by first | (intros; simp at *; done) | (simp; done) | (simp_all; done)
theorem om371 {x0 : Nat} : ¬x0 ≤ (4 : Nat) → x0 = (4 : Nat) + (x0 - (4 : Nat)) := by omega
theorem om372 {x0 : Nat} : (4 : Nat) ≥ x0 → (4 : Nat) = x0 + ((4 : Nat) - x0) := by grind
theorem om373 {x0 : Nat} : (4 : Nat) < x0 → (4 : Nat) + (x0 - (4 : Nat)) = x0 := by omega
theorem om374 {x0 x1 : Nat} : x0 ≤ (4 : Nat) * (x1 + (1 : Nat)) → (4 : Nat) < x0 → x0 - (4 : Nat) ≤ (4 : Nat) * x1 := by grind
theorem om375 {x0 x1 : Nat} : x0 ≤ (4 : Nat) * (x1 + (1 : Nat)) → (4 : Nat) < x0 → (0 : Nat) < x1 := by grind
theorem om376 {x0 x1 : Nat} : x0 ≤ x1 → x0 + (1 : Nat) ≤ x1 + (1 : Nat) := by first | (intros; simp at *; done) | (simp; done) | (simp_all; done)
theorem om377 {x0 x1 x2 : Nat} : x0 + x1 + (0 : Nat) + x2 = x0 + (x1 + x2) := by grind
theorem om378 {x0 x1 x2 x3 x4 : Nat} : x0 ≤ (1000 : Nat) → x0 = x0 → x1 = min x2 x0 - x3 → (21000 : Nat) ≤ x4 → x1 ≤ x4 := by grind
theorem om379 {x0 : Nat} : x0 ≤ (1000 : Nat) → x0 = x0 → x0 ≤ (2 : Nat) ^ (20 : Nat) := by omega
theorem om380 {x0 x1 x2 x3 : Nat} : x0 ≤ (1000 : Nat) → x1 ≤ x0 → x2 ≤ (20 : Nat) * x1 → x0 = x0 → (21000 : Nat) ≤ x3 → x2 + (x0 - x1) ≤ x3 := by grind
theorem om381 {x0 x1 x2 : Nat} : x0 ≤ (1000 : Nat) → x1 ≤ (2 : Nat) * x2 → x0 = x0 → x2 < x0 → x1 ≤ (2 : Nat) ^ (20 : Nat) := by grind
theorem om382 {x0 x1 x2 : Nat} : x0 ≤ (1000 : Nat) → x1 ≤ (2 : Nat) * x2 → x0 = x0 → x2 < x0 → x1 + (1 : Nat) ≤ (2 : Nat) ^ (20 : Nat) := by grind
theorem om383 {x0 x1 : Nat} : x0 = x0 → x1 < x0 → x0 - x1 ≤ x0 - x1 := by first | (intros; simp at *; done) | (simp; done) | (simp_all; done)
theorem om384 {x0 x1 x2 : Nat} : x0 ≤ (1000 : Nat) → x1 ≤ x0 → x2 ≤ (2 : Nat) * x1 → x0 = x0 → ¬x1 < x0 → x2 ≤ (2 : Nat) ^ (20 : Nat) := by grind
theorem om385 {x0 x1 : Nat} : x0 ≤ x1 → x1 = x1 → ¬x0 < x1 → x1 ≤ x0 := by first | (intros; simp at *; done) | (simp; done) | (simp_all; done)
theorem om386 {x0 x1 x2 : Nat} : x0 ≤ (1000 : Nat) → x1 ≤ x0 → x0 = x0 → x2 ≤ (2 : Nat) * x1 + (1 : Nat) → x2 ≤ (2 : Nat) ^ (20 : Nat) := by grind
theorem om387 {x0 x1 : Nat} : x0 < x1 → ¬x1 = x0 := by grind
theorem om388 {x0 x1 x2 x3 x4 : Nat} : x0 ≤ x1 → x1 - x0 < x2 + (1 : Nat) → x1 = x1 → x0 ≤ x3 → x3 < x4 → x4 ≤ x1 → x1 - x4 < x2 := by grind
theorem om389 {x0 x1 x2 x3 x4 x5 x6 : Nat} : x0 ≤ (10 : Nat) → x1 ≤ (20 : Nat) * x2 → x3 = x3 → x2 ≤ x4 → x4 < x5 → x5 ≤ x3 → x6 = min x4 x3 - x2 → x0 = x0 → x1 + x6 + x0 ≤ (20 : Nat) * x5 := by grind
theorem om390 {x0 x1 x2 x3 : Nat} : x0 ≤ x1 → x1 < x2 → x3 ≤ (2 : Nat) * x0 + (1 : Nat) → x3 + (1 : Nat) ≤ (2 : Nat) * x2 := by grind
theorem om391 {x0 x1 x2 : Nat} : x0 ≤ (1000 : Nat) → x1 ≤ x0 → x2 ≤ (2 : Nat) * x1 → x0 = x0 → x2 ≤ (2 : Nat) ^ (20 : Nat) := by grind
theorem om392 {x0 x1 : Nat} : x0 ≤ (2 : Nat) * x1 → x0 + (1 : Nat) ≤ (2 : Nat) * x1 + (1 : Nat) := by first | (intros; simp at *; done) | (simp; done) | (simp_all; done)
theorem om393 {x0 x1 x2 : Nat} : x0 ≤ (2 : Nat) * x1 → x1 ≤ x2 → ¬x1 < x2 → x0 ≤ (2 : Nat) * x1 + (1 : Nat) := by grind
theorem om394 {x0 x1 : Nat} : x0 ≤ x1 → ¬x0 < x1 → x1 = x0 := by grind
theorem om395 {x0 : Nat} : x0 ≤ (1000 : Nat) → x0 - (0 : Nat) < x0 + (1 : Nat) := by first | (intros; simp at *; done) | (simp; done) | (simp_all; done)
theorem om396 {x0 x1 : Nat} : x0 ≤ (2 : Nat) ^ (20 : Nat) → x1 ≤ (3 : Nat) * x0 + (6 : Nat) → x1 ≤ (4 : Nat) * (2 : Nat) ^ (64 : Nat) := by grind
theorem om397 {x0 x1 : Nat} : x0 + (1 : Nat) ≤ x1 → x1 - (x0 + (1 : Nat)) ≤ x1 - (x0 + (1 : Nat)) ∧ x1 - (x0 + (1 : Nat)) < x1 - (x0 + (1 : Nat)) + (1 : Nat) ∧ x1 - (x0 + (1 : Nat)) + (1 : Nat) ≤ x1 := by grind
theorem om398 {x0 x1 x2 x3 : Nat} : x0 + (1 : Nat) ≤ x1 → x1 - x0 ≤ x2 ∧ x2 < x3 ∧ x3 ≤ x1 → x1 - (x0 + (1 : Nat)) ≤ x2 ∧ x2 < x3 ∧ x3 ≤ x1 := by grind
theorem om399 {x0 x1 x2 x3 : Nat} : x0 ≤ x1 → x1 - (x1 - x0) ≤ x2 ∧ x2 < x3 ∧ x3 ≤ x1 → x0 ≤ x2 ∧ x2 < x3 ∧ x3 ≤ x1 := by grind
theorem om400 {x0 : Nat} : x0 ≤ (16 : Nat) → x0 ≤ (4 : Nat) * (2 : Nat) ^ (64 : Nat) := by grind
theorem om401 {x0 x1 x2 x3 : Nat} : x0 = (13 : Nat) ∧ x1 + (1 : Nat) < x2 ∧ x3 = (10 : Nat) → x1 < x1 + (2 : Nat) ∧ x1 + (2 : Nat) ≤ x2 := by grind
theorem om402 {x0 x1 : Nat} : x0 < x1 → x0 < x0 + (1 : Nat) ∧ x0 + (1 : Nat) ≤ x1 := by grind
theorem om403 {x0 x1 x2 x3 : Nat} : x0 ≤ x1 → x1 - (x1 - x0) ≤ x2 → x3 = (10 : Nat) ∨ x3 = (13 : Nat) → x0 ≤ x2 := by grind
theorem om404 {x0 x1 x2 : Nat} : x0 < x1 → x1 ≤ x2 → x0 < x2 := by grind
theorem om405 {x0 x1 : Nat} : x0 < x1 → x1 - x0 = x1 - (x0 + (1 : Nat)) + (1 : Nat) := by grind
theorem om406 {x0 x1 x2 x3 : Nat} : x0 + (1 : Nat) ≤ x1 ∧ x1 < x2 ∧ x2 ≤ x3 → x0 < x1 := by intros; exact And.left ‹_›
theorem om407 {x0 x1 x2 x3 : Nat} : x0 + (1 : Nat) ≤ x1 ∧ x1 < x2 ∧ x2 ≤ x3 → x1 ≤ x3 := by grind
theorem om408 {x0 x1 : Nat} : x0 - x1 = (0 : Nat) → x0 ≤ x1 := by grind
theorem om409 {x0 x1 x2 : Nat} : x0 - x1 = x2 + (1 : Nat) → x1 ≤ x0 → x1 < x0 := by grind
theorem om410 {x0 x1 x2 : Nat} : x0 - x1 = x2 + (1 : Nat) → x1 < x0 → x0 - (x2 + (1 : Nat)) = x1 := by grind
theorem om411 {x0 x1 x2 : Nat} : x0 - x1 = x2 + (1 : Nat) → x1 < x0 → x0 - (x1 + (1 : Nat)) = x2 := by grind
theorem om412 {x0 x1 : Nat} : x0 < x1 → x0 + (1 : Nat) ≤ x1 := by grind
theorem om413 {x0 x1 : Nat} : x0 + (1 : Nat) < x1 + (1 : Nat) → x0 < x1 := by grind
theorem om414 {x0 x1 : Nat} : x0 + (1 : Nat) < x1 + (1 : Nat) → x0 < x1 + (1 : Nat) := by grind
theorem om415 {x0 x1 : Nat} : x0 - x1 ≤ (0 : Nat) → x0 ≤ x1 := by grind
theorem om416 {x0 x1 : Nat} : x0 - x1 ≤ (0 : Nat) → x0 - x1 = (0 : Nat) := by first | (intros; simp at *; done) | (simp; done) | (simp_all; done)
theorem om417 {x0 x1 : Nat} : x0 - x1 = (0 : Nat) → x0 - x1 ≤ (0 : Nat) := by first | (intros; simp at *; done) | (simp; done) | (simp_all; done)
theorem om418 {x0 x1 : Nat} : x0 ≤ x1 → ¬x1 - x0 = (0 : Nat) → x0 < x1 := by grind
theorem om419 {x0 x1 : Nat} : ¬x0 - x1 = (0 : Nat) → x1 < x0 → x0 - x1 = x0 - x1 - (1 : Nat) + (1 : Nat) := by grind
theorem om420 {x0 x1 x2 x3 : Nat} : ¬x0 - x1 = (0 : Nat) → x1 < x0 → x0 - x1 = x2 + (1 : Nat) → x3 = (10 : Nat) ∨ x3 = (13 : Nat) → x0 - (x2 + (1 : Nat)) = x1 := by grind
theorem om421 {x0 x1 x2 x3 x4 x5 : Nat} : x0 - x1 ≤ x2 + (1 : Nat) → ¬x0 - x1 = (0 : Nat) → x1 < x0 → x0 - x1 = x3 + (1 : Nat) → x4 = (10 : Nat) ∨ x4 = (13 : Nat) → x1 ≤ x1 ∧ x1 < x5 ∧ x5 ≤ x0 → x0 - x5 ≤ x2 := by grind
theorem om422 {x0 x1 x2 : Nat} : x0 ≤ x0 ∧ x0 < x1 ∧ x1 ≤ x2 → x1 ≤ x2 := by grind
theorem om423 {x0 x1 x2 x3 x4 x5 : Nat} : x0 - x1 < x2 + (1 : Nat) → ¬x0 - x1 = (0 : Nat) → x1 < x0 → x0 - x1 = x3 + (1 : Nat) → x4 = (10 : Nat) ∨ x4 = (13 : Nat) → x1 ≤ x1 ∧ x1 < x5 ∧ x5 ≤ x0 → x0 - x5 < x2 := by grind
theorem om424 {x0 x1 : Nat} : x0 + (1 : Nat) ≥ x1 → x1 ≤ x0 + (1 : Nat) := by first | (intros; simp at *; done) | (simp; done) | (simp_all; done)
theorem om425 {x0 x1 x2 x3 : Nat} : ¬x0 - x1 = (0 : Nat) → x1 < x0 → x0 - x1 = x2 + (1 : Nat) → ¬(x3 = (10 : Nat) ∨ x3 = (13 : Nat)) → x0 - (x2 + (1 : Nat)) = x1 := by grind
theorem om426 {x0 x1 x2 x3 : Nat} : ¬x0 - x1 = (0 : Nat) → x1 < x0 → x0 - x1 = x2 + (1 : Nat) → ¬(x3 = (10 : Nat) ∨ x3 = (13 : Nat)) → x0 - (x1 + (1 : Nat)) = x2 := by grind
theorem om427 {x0 x1 x2 x3 x4 : Nat} : x0 - x1 ≤ x2 + (1 : Nat) → ¬x0 - x1 = (0 : Nat) → x1 < x0 → x0 - x1 = x3 + (1 : Nat) → ¬(x4 = (10 : Nat) ∨ x4 = (13 : Nat)) → x0 - (x1 + (1 : Nat)) ≤ x2 := by grind
theorem om428 {x0 x1 x2 x3 x4 : Nat} : x0 - x1 < x2 + (1 : Nat) → ¬x0 - x1 = (0 : Nat) → x1 < x0 → x0 - x1 = x3 + (1 : Nat) → ¬(x4 = (10 : Nat) ∨ x4 = (13 : Nat)) → x0 - (x1 + (1 : Nat)) < x2 + (1 : Nat) := by grind
theorem om429 {x0 x1 : Nat} : x0 ≤ (2 : Nat) * x1 → x0 + (1 : Nat) + (1 : Nat) ≤ (2 : Nat) * (x1 + (1 : Nat) + (1 : Nat)) := by grind
theorem om430 {x0 : Nat} : x0 ≠ (10 : Nat) ∧ x0 ≠ (13 : Nat) → ¬(x0 = (10 : Nat) ∨ x0 = (13 : Nat)) := by first | (intros; simp at *; done) | (simp; done) | (simp_all; done)
theorem om431 {x0 : Int} : (1 : Int) ≤ x0 → x0 = (↑(x0 - (1 : Int)).toNat : Int) + (1 : Int) := by grind
theorem om432 {x0 : Nat} : (1 : Int) ≤ (↑x0 : Int) + (1 : Int) → ((↑x0 : Int) + (1 : Int)).toNat = x0 + (1 : Nat) := by intros; rfl
theorem om433 {x0 : Nat} : (1 : Int) ≤ (↑x0 : Int) + (1 : Int) → ((↑x0 : Int) + (1 : Int) + (1 : Int)).toNat = x0 + (1 : Nat) + (1 : Nat) := by intros; rfl
theorem om434 {x0 : Int} : (0 : Int) ≤ x0 → ((1 : Int) - x0).toNat ≤ (1 : Nat) := by grind
theorem om435 {x0 : Int} : x0 ≤ (20 : Int) → x0.toNat ≤ (20 : Nat) := by first | (intros; simp at *; done) | (simp; done) | (simp_all; done)
theorem om436 {x0 x1 : Nat} {x2 : Int} : x0 ≤ (2 : Nat) → x1 ≤ (1 : Nat) * (2 : Nat) → x2.toNat ≤ (20 : Nat) → x1 + x2.toNat * (1 : Nat) + x0 ≤ (30 : Nat) := by grind
theorem om437 {x0 : Int} {x1 x2 x3 : Nat} : (1 : Int) ≤ x0 → x1 + x0.toNat * x2 + x3 = (0 : Nat) → x0.toNat * x2 = x0.toNat → False := by grind
theorem om438 {x0 : Nat} : x0 < (3 : Nat) → (x0 + (2 : Nat)) % (3 : Nat) = (1 : Nat) → x0 = (2 : Nat) := by grind
theorem om439 {x0 x1 : Nat} : x0 + (1 : Nat) + x1 = x0 + x1 + (1 : Nat) := by grind
theorem om440 {x0 : Int} : (0 : Int) ≤ x0 → x0 < (1 : Int) → (0 : Int) = x0 := by grind
theorem om441 {x0 x1 x2 : Int} : x0 + x1 = x2 → x0 + x1 = x2 := by first | (intros; simp at *; done) | (simp; done) | (simp_all; done)
theorem om442 {x0 x1 x2 x3 : Nat} : x0 ≤ x1 → x1 ≤ x2 → x2 ≤ x3 → x0 ≤ x3 := by grind
theorem om443 {x0 x1 x2 : Nat} : x0 ≤ x1 → x2 = x0 → x0 + (x1 - x0) = x1 := by first | (intros; simp at *; done) | (simp; done) | (simp_all; done)
theorem om444 {x0 x1 : Nat} : x0 ≤ x1 → x1 - x0 + x0 = x1 := by first | (intros; simp at *; done) | (simp; done) | (simp_all; done)
theorem om445 {x0 : Int} {x1 x2 x3 : Nat} : x0 = (↑x1 : Int) → x1 + x2 = x3 → (↑x3 : Int) + (↑x1 : Int) - (2 : Int) * (↑x1 : Int) = (↑x2 : Int) := by grind
theorem om446 {x0 x1 : Int} {x2 : Nat} : x0 = x1 + (↑x2 : Int) → x0 < (2 : Int) ^ (62 : Nat) → x1 < (2 : Int) ^ (62 : Nat) := by grind
theorem om447 {x0 x1 : Int} {x2 : Nat} : x0 = x1 + (↑x2 : Int) → -(2 : Int) ^ (62 : Nat) ≤ x1 → -(2 : Int) ^ (62 : Nat) ≤ x0 := by grind
theorem om448 {x0 x1 : Nat} : x0 = x1 → x1 ≤ (1000 : Nat) → x1 = x1 - (0 : Nat) := by intros; rfl
theorem om449 {x0 x1 : Nat} : x0 = x1 → x1 ≤ (1000 : Nat) → (0 : Nat) ≤ x1 := by first | (intros; simp at *; done) | (simp; done) | (simp_all; done)
theorem om450 {x0 x1 x2 : Nat} : x0 = x1 → x2 < x1 → x2 < x0 := by first | (intros; simp at *; done) | (simp; done) | (simp_all; done)
theorem om451 {x0 x1 x2 : Nat} : x0 = x1 → x1 ≤ (1000 : Nat) → x2 < x1 → min x2 x0 ≤ (2 : Nat) ^ (20 : Nat) := by grind
theorem om452 {x0 x1 : Nat} : x0 < x1 → x1 - (x0 + (1 : Nat)) < x1 - x0 := by grind
theorem om453 {x0 x1 : Nat} : x0 ≤ x1 → ¬x0 < x1 → x0 = x1 := by grind
theorem om454 {x0 x1 : Nat} : x0 = x1 → x0 ≤ x1 := by first | (intros; simp at *; done) | (simp; done) | (simp_all; done)
theorem om455 {x0 : Int} : x0 ≤ (1000 : Int) → (-1000 : Int) ≤ x0 → ¬x0 < (1 : Int) → x0.toNat ≤ (1000 : Nat) := by grind
theorem om456 {x0 : Int} : x0 ≤ (1000 : Int) → (-1000 : Int) ≤ x0 → x0.toNat ≤ (1000 : Nat) := by first | (intros; simp at *; done) | (simp; done) | (simp_all; done)
theorem om457 {x0 : Int} : x0 ≤ (1000 : Int) → (-1000 : Int) ≤ x0 → (-9223372036854775808 : Int) ≤ x0 ∧ x0 < (9223372036854775808 : Int) := by grind
theorem om458 {x0 : Int} : x0 ≤ (1000 : Int) → (-1000 : Int) ≤ x0 → ¬x0 < (1 : Int) → (0 : Int) < x0 := by grind
theorem om459 {x0 : Int} : x0 ≤ (1000 : Int) → (-1000 : Int) ≤ x0 → ¬x0 < (1 : Int) → (1000 : Int) * x0 ≤ (9223372036854775808 : Int) - (1 : Int) := by grind
theorem om460 {x0 : Nat} {x1 : Int} : x0 ≤ (1000 : Nat) → x1 ≥ (1000 : Int) → ¬(↑x0 : Int) > x1 := by grind
theorem om461 {x0 x1 : Nat} : x0 ≤ (1000 : Nat) * (1000 : Nat) → (1000 : Nat) * (1000 : Nat) ≤ x1 → x0 ≤ x1 := by grind
theorem om462 {x0 : Int} : x0 ≤ (1000 : Int) → (-1000 : Int) ≤ x0 → x0 < (1 : Int) → x0.toNat = (0 : Nat) := by grind
theorem om463 {x0 : Nat} : x0 ≤ (100 : Nat) → (0 : Int) ≤ (↑x0 : Int) := by first | (intros; simp at *; done) | (simp; done) | (simp_all; done)
theorem om464 {x0 : Nat} : x0 ≤ (100 : Nat) → (↑x0 : Int) ≤ (1000000 : Int) := by grind
theorem om465 {x0 : Int} : (0 : Int) ≤ x0 → x0 ≤ (1000 : Int) → x0 ≤ (1000000 : Int) := by grind
theorem om466 {x0 x1 x2 : Nat} : x0 ≤ x1 → x2 = x1 → x0 ≤ x2 := by first | (intros; simp at *; done) | (simp; done) | (simp_all; done)
theorem om467 {x0 x1 : Nat} : ¬x0 < x1 → x1 ≤ x0 := by first | (intros; simp at *; done) | (simp; done) | (simp_all; done)
theorem om468 {x0 x1 : Nat} : ¬x0 < x1 → x1 ≤ x0 + (1 : Nat) := by grind
theorem om469 {x0 x1 : Int} : x0 < x1 → x0 ≤ x1 := by grind
theorem om470 {x0 x1 : Int} : ¬x0 < x1 → x1 ≤ x0 := by first | (intros; simp at *; done) | (simp; done) | (simp_all; done)
theorem om471 {x0 x1 : Nat} : x0 = x1 → x1 ≤ x0 := by first | (intros; simp at *; done) | (simp; done) | (simp_all; done)
theorem om472 {x0 x1 : Int} {x2 : Nat} {x3 : Int} : x0 = x1 + (↑x2 : Int) → x0 < (2 : Int) ^ (62 : Nat) → x2 ≤ (1000 : Nat) → x3 = (↑x2 : Int) → x1 < (2 : Int) ^ (62 : Nat) := by grind
theorem om473 {x0 x1 : Int} {x2 : Nat} {x3 : Int} : x0 = x1 + (↑x2 : Int) → -(2 : Int) ^ (62 : Nat) ≤ x1 → x2 ≤ (1000 : Nat) → x3 = (↑x2 : Int) → -(2 : Int) ^ (62 : Nat) ≤ x0 := by grind
theorem om474 {x0 : Nat} : x0 ≠ x0 + (1 : Nat) := by grind
theorem om476 {x0 x1 : Nat} : x0 < x1 → x0 ≠ x1 := by grind
theorem om477 {x0 x1 x2 x3 : Nat} : x0 = x1 → x2 = x1 → x3 < x1 → x3 < x0 := by first | (intros; simp at *; done) | (simp; done) | (simp_all; done)
theorem om478 {x0 x1 x2 x3 : Nat} : x0 = x1 → x1 ≤ (1000 : Nat) → x2 = x1 → x3 < x1 → min x3 x0 ≤ (2 : Nat) ^ (20 : Nat) := by grind
theorem om479 {x0 x1 x2 : Nat} : x0 = x1 → x2 < x1 → x1 - (x2 + (1 : Nat)) < x1 - x2 := by grind
theorem om480 {x0 x1 x2 : Nat} : x0 = x1 → x2 < x1 → x2 + (1 : Nat) ≤ x1 := by grind
theorem om481 {x0 x1 x2 : Nat} : x0 ≤ x1 → x2 = x1 → ¬x0 < x1 → x0 = x1 := by grind
theorem om482 {x0 : Nat} : x0 = x0 - (0 : Nat) := by intros; rfl
theorem om483 {x0 : Nat} : (0 : Nat) ≤ x0 := by first | (intros; simp at *; done) | (simp; done) | (simp_all; done)
theorem om484 {x0 x1 x2 : Nat} : x0 + (x1 + (1 : Nat)) < x2 → x0 + (1 : Nat) + x1 < x2 := by grind
theorem om485 {x0 x1 x2 : Nat} : x0 + (8 : Nat) * (x1 + (1 : Nat)) < x2 → x0 + (3 : Nat) + (8 : Nat) * x1 < x2 := by grind
theorem om486 {x0 : Int} : (0 : Int) ≤ x0 → x0 < (2 : Int) ^ (62 : Nat) → -(2 : Int) ^ (63 : Nat) ≤ x0 := by grind
theorem om487 {x0 : Int} : (0 : Int) ≤ x0 → x0 < (2 : Int) ^ (62 : Nat) → x0 < (2 : Int) ^ (63 : Nat) := by grind
theorem om488 {x0 : Int} : (0 : Int) ≤ x0 → x0 < (2 : Int) ^ (62 : Nat) → ¬x0 < (0 : Int) := by grind
theorem om489 {x0 : Int} {x1 : Nat} : (0 : Int) ≤ x0 → x0 < (2 : Int) ^ (62 : Nat) → x0.toNat < x1 → (0 : Int) ≤ x0 ∧ x0 < (↑x1 : Int) := by first | (intros; simp at *; done) | (simp; done) | (simp_all; done)
theorem om490 {x0 : Nat} : x0 < (2 : Nat) ^ (200 : Nat) → (2 : Nat) ^ (1024 : Nat) - (2 : Nat) ^ (970 : Nat) ≤ x0 → False := by omega
theorem om491 {x0 x1 : Nat} : x0 < x1 → (↑x1 : Int) - (1 : Int) - (↑x0 : Int) = (↑(x1 - (1 : Nat) - x0) : Int) := by grind
theorem om492 {x0 x1 : Nat} : (↑x0 : Int) - (1 : Int) - (↑x1 : Int) = (↑(x0 - (1 : Nat) - x1) : Int) → (↑(x0 - (1 : Nat) - x1) : Int) - (1 : Int) = (↑x0 : Int) - (1 : Int) - (↑(x1 + (1 : Nat)) : Int) := by grind
theorem om493 {x0 : Nat} : (↑x0 : Int) - (1 : Int) - (↑x0 : Int) = (-1 : Int) := by grind
theorem om494 {x0 x1 : Nat} : x0 < x1 → (0 : Int) < (↑x1 : Int) - (↑x0 : Int) := by first | (intros; simp at *; done) | (simp; done) | (simp_all; done)
theorem om495 {x0 : Int} {x1 : Nat} : x0 + (↑x1 : Int) + (1 : Int) = x0 + (↑(x1 + (1 : Nat)) : Int) := by grind
theorem om496 {x0 x1 : Nat} : (↑x0 : Int) - (↑x1 : Int) - (1 : Int) = (↑x0 : Int) - (↑(x1 + (1 : Nat)) : Int) := by grind
theorem om497 {x0 x1 : Nat} : x0 < (2 : Nat) ^ (62 : Nat) → x1 = x0 → (↑x1 : Int) < (2 : Int) ^ (63 : Nat) := by grind
theorem om498 {x0 : Int} {x1 x2 : Nat} : x0 < (↑x1 : Int) → x1 < (2 : Nat) ^ (62 : Nat) → x2 = x1 → x0 < (2 : Int) ^ (63 : Nat) := by grind
theorem om499 {x0 : Int} {x1 x2 : Nat} : x0 < (↑x1 : Int) → x2 = x1 → x0 < (↑x2 : Int) := by first | (intros; simp at *; done) | (simp; done) | (simp_all; done)
theorem om500 {x0 : Int} : (0 : Int) ≤ x0 → x0 ≤ (2 : Int) ^ (20 : Nat) → x0.toNat ≤ (2 : Nat) ^ (20 : Nat) := by first | (intros; simp at *; done) | (simp; done) | (simp_all; done)
theorem om501 {x0 : Int} : (0 : Int) ≤ x0 → x0 ≤ (2 : Int) ^ (20 : Nat) → (-9223372036854775808 : Int) ≤ x0 ∧ x0 < (9223372036854775808 : Int) := by grind
theorem om502 {x0 : Int} : x0.toNat ≤ (2 : Nat) ^ (20 : Nat) → ¬(1 : Nat) * x0.toNat > ((2 : Nat) ^ (63 : Nat) - (1 : Nat)) / (8 : Nat) := by grind
theorem om503 {x0 : Int} : x0.toNat ≤ (2 : Nat) ^ (20 : Nat) → ¬(1 : Nat) * x0.toNat > (2 : Nat) ^ (24 : Nat) := by grind
theorem om504 {x0 : Nat} {x1 : Int} {x2 : Nat} : x0 ≤ (2 : Nat) ^ (20 : Nat) → (0 : Int) ≤ x1 → x1 ≤ (↑x0 : Int) → x2 = x0 → (-9223372036854775808 : Int) ≤ x1 ∧ x1 < (9223372036854775808 : Int) := by grind
theorem om505 {x0 : Nat} {x1 : Int} {x2 : Nat} : x0 ≤ (2 : Nat) ^ (20 : Nat) → x1 ≤ (↑x0 : Int) → x2 = x0 → min x1.toNat x0 = x1.toNat := by first | (intros; simp at *; done) | (simp; done) | (simp_all; done)
theorem om506 {x0 : Int} : (0 : Int) ≤ x0 → ¬x0 < (0 : Int) := by first | (intros; simp at *; done) | (simp; done) | (simp_all; done)
theorem om507 {x0 : Int} {x1 : Nat} : ¬min x0.toNat x1 + (x1 - x0.toNat + (1 : Nat)) = x1 := by grind
end Mine

/-! V1 -/
namespace Mine
/-- the state s with another heap and another count of tokens -/
noncomputable abbrev St (s : Shared) (h : Heap) (t : Nat) : Shared := { s with heap := h, toks := t }

/-- pure values, as the law's text sees them -/
inductive V where
  | none | bool (b : Bool) | int (i : Int) | float (x : UInt64) | str (s : Str)
  | tup (vs : List V) | lst (vs : List V) | raw (v : Value)

/-- the model's value that bears V: n is its token, or its address -/
noncomputable abbrev V.conc : V → Nat → Value
  | .none, _ => .none
  | .bool b, _ => .bool b
  | .int i, t => .int i t
  | .float x, t => .float x t
  | .str s, t => .str s t
  | .tup _, t => .ref t
  | .lst _, t => .ref t
  | .raw v, _ => v

noncomputable abbrev Bs := Nat → Option Obj
mutual
noncomputable def RepT (B : Bs) : V → Nat → Prop
  | .tup vs, a => ∃ o items n, B a = some o ∧ o.cls = .type "tuple" ∧ o.data = .seq items n ∧ RepL B vs items.toList
  | .lst vs, a => ∃ o items n, B a = some o ∧ o.cls = .type "list" ∧ o.data = .seq items n ∧ RepL B vs items.toList
  | .none, _ => True
  | .bool _, _ => True
  | .int _, _ => True
  | .float _, _ => True
  | .str _, _ => True
  | .raw _, _ => True
noncomputable def RepL (B : Bs) : List V → List Value → Prop
  | [], l => l = []
  | v :: vs, l => ∃ t r, l = v.conc t :: r ∧ RepT B v t ∧ RepL B vs r
end

mutual
theorem RepT.mono {B B' : Bs} (k : ∀ a o, B a = some o → B' a = some o) : ∀ (v : V) {t : Nat}, RepT B v t → RepT B' v t
  | .tup vs, t, h => by
    simp only [RepT] at h ⊢
    obtain ⟨o, items, n, e, a, b, r⟩ := h
    exact ⟨o, items, n, k _ _ e, a, b, RepL.mono k vs r⟩
  | .lst vs, t, h => by
    simp only [RepT] at h ⊢
    obtain ⟨o, items, n, e, a, b, r⟩ := h
    exact ⟨o, items, n, k _ _ e, a, b, RepL.mono k vs r⟩
  | .none, _, _ => by simp only [RepT]
  | .bool _, _, _ => by simp only [RepT]
  | .int _, _, _ => by simp only [RepT]
  | .float _, _, _ => by simp only [RepT]
  | .str _, _, _ => by simp only [RepT]
  | .raw _, _, _ => by simp only [RepT]
theorem RepL.mono {B B' : Bs} (k : ∀ a o, B a = some o → B' a = some o) : ∀ (vs : List V) {l : List Value}, RepL B vs l → RepL B' vs l
  | [], l, h => by simpa only [RepL] using h
  | v :: vs, l, h => by
    simp only [RepL] at h ⊢
    obtain ⟨t, r, e, a, b⟩ := h
    exact ⟨t, r, e, RepT.mono k v a, RepL.mono k vs b⟩
end

theorem RepL.length {B : Bs} : ∀ {vs : List V} {l : List Value}, RepL B vs l → l.length = vs.length
  | [], l, h => by simp only [RepL] at h; subst h; rfl
  | v :: vs, l, h => by
    simp only [RepL] at h
    obtain ⟨t, r, rfl, _, b⟩ := h
    simp only [List.length_cons, RepL.length b]
theorem RepL.get {B : Bs} : ∀ {vs : List V} {l : List Value} {i : Nat} {v : V}, RepL B vs l → vs[i]? = some v → ∃ t, l[i]? = some (v.conc t) ∧ RepT B v t
  | [], l, i, v, h, e => by simp at e
  | u :: vs, l, i, v, h, e => by
    simp only [RepL] at h
    obtain ⟨t, r, rfl, a, b⟩ := h
    cases i with
    | zero => simp at e; subst e; exact ⟨t, rfl, a⟩
    | succ i => simp at e; exact RepL.get (i := i) b e
theorem RepL.append {B : Bs} : ∀ {vs us : List V} {l m : List Value}, RepL B vs l → RepL B us m → RepL B (vs ++ us) (l ++ m)
  | [], us, l, m, h, h' => by simp only [RepL] at h; subst h; exact h'
  | v :: vs, us, l, m, h, h' => by
    simp only [RepL] at h
    obtain ⟨t, r, rfl, a, b⟩ := h
    simp only [List.cons_append, RepL]
    exact ⟨t, r ++ m, rfl, a, RepL.append b h'⟩
theorem RepL.nil (B : Bs) : RepL B [] [] := by simp only [RepL]
theorem RepL.cons {B : Bs} {v : V} {t : Nat} {vs : List V} {l : List Value} (a : RepT B v t) (b : RepL B vs l) : RepL B (v :: vs) (v.conc t :: l) := by
  simp only [RepL]; exact ⟨t, l, rfl, a, b⟩

/-- look a name up -/
noncomputable def lk : List (Str × V) → Str → Option V
  | [], _ => Option.none
  | (k, v) :: r, x => if x = k then some v else lk r x

/-- what a changing place holds -/
inductive Mo where
  | ns (l : List (Str × V))
  | list (vs : List V)
  | pl (vs : List V)
  | cell (v : Option V)
  | obj (o : Obj)
  | tab (sites : List (Pos × Str))
  | fn (fd : FuncData)
  | it (cls : String) (fs : Array Value)

noncomputable def Sites (B : Bs) (ps : Array Value) : List (Pos × Str) → Prop
  | [] => True
  | s :: r => (codeAmong s.1 ps.toList = Option.none ∨ ∃ c oc vs t, codeAmong s.1 ps.toList = some (.ref c) ∧ B c = some oc ∧ oc.data = .fields vs ∧ vs[1]? = some (.str s.2 t)) ∧ Sites B ps r

noncomputable def MoRep (B : Bs) (h : Heap) (a : Nat) : Mo → Prop
  | .ns l => ∃ mm, h.Ns a mm ∧ ∀ x v, lk l x = some v → ∃ t, mm x = some (v.conc t) ∧ RepT B v t
  | .list vs => ∃ items, h.IsList a items ∧ RepL B vs items.toList
  | .pl vs => ∃ items n, h.get? a = some { cls := .type "list", data := .seq items n } ∧ RepL B vs items.toList
  | .cell Option.none => h.IsCell a Option.none
  | .cell (some v) => ∃ t, h.IsCell a (some (v.conc t)) ∧ RepT B v t
  | .obj o => h.get? a = some o
  | .tab sites => ∃ ps, h.get? a = some (tabObj ps) ∧ TriplesOk ps.toList ∧ Sites B ps sites
  | .fn fd => (∃ oc od sl, h.get? a = some ⟨oc, od, .func fd, sl⟩) ∧ ∃ c oc vs t, fd.code = .ref c ∧ B c = some oc ∧ oc.data = .fields vs ∧ vs[1]? = some (.str fd.qualname t)
  | .it cls fs => ∃ o, h.get? a = some o ∧ o.cls = .type cls ∧ o.data = .fields fs
end Mine

/-! V2 -/
namespace Mine

theorem Sites.mono {B B' : Bs} (k : ∀ a o, B a = some o → B' a = some o) {ps : Array Value} : ∀ {l : List (Pos × Str)}, Sites B ps l → Sites B' ps l
  | [], _ => trivial
  | _ :: _, ⟨a, b⟩ => ⟨a.imp id fun ⟨c, oc, vs, t, e1, e2, e3, e4⟩ => ⟨c, oc, vs, t, e1, k _ _ e2, e3, e4⟩, Sites.mono k b⟩

theorem MoRep.at {B B' : Bs} {h h' : Heap} {a : Nat} {mo : Mo} (x : MoRep B h a mo) (k : ∀ o, h.get? a = some o → h'.get? a = some o) (kb : ∀ a o, B a = some o → B' a = some o) : MoRep B' h' a mo := by
  cases mo with
  | ns l =>
    obtain ⟨mm, hn, r⟩ := x
    exact ⟨mm, hn.at' k, fun y v e => let ⟨t, e1, e2⟩ := r y v e; ⟨t, e1, RepT.mono kb _ e2⟩⟩
  | list vs =>
    obtain ⟨items, ⟨o, e, hc, n, hd⟩, r⟩ := x
    exact ⟨items, ⟨o, k _ e, hc, n, hd⟩, RepL.mono kb _ r⟩
  | pl vs =>
    obtain ⟨items, n, e, r⟩ := x
    exact ⟨items, n, k _ e, RepL.mono kb _ r⟩
  | cell v =>
    cases v with
    | none => obtain ⟨o, e, hd⟩ := x; exact ⟨o, k _ e, hd⟩
    | some v =>
      obtain ⟨t, ⟨o, e, hd⟩, r⟩ := x
      exact ⟨t, ⟨o, k _ e, hd⟩, RepT.mono kb _ r⟩
  | obj o => exact k _ x
  | tab sites =>
    obtain ⟨ps, e, ht, r⟩ := x
    exact ⟨ps, k _ e, ht, Sites.mono kb r⟩
  | fn fd =>
    obtain ⟨⟨oc, od, sl, e⟩, c, o2, vs, t, e1, e2, e3⟩ := x
    exact ⟨⟨oc, od, sl, k _ e⟩, c, o2, vs, t, e1, kb _ _ e2, e3⟩
  | it cls fs => obtain ⟨o, e, r⟩ := x; exact ⟨o, k _ e, r⟩
theorem MoRep.here {B : Bs} {h : Heap} {a : Nat} {mo : Mo} (x : MoRep B h a mo) : ∃ o, h.get? a = some o := by
  cases mo with
  | ns l => obtain ⟨mm, ⟨o, _, _, e, _⟩, _⟩ := x; exact ⟨o, e⟩
  | list vs => obtain ⟨items, ⟨o, e, _⟩, _⟩ := x; exact ⟨o, e⟩
  | pl vs => obtain ⟨items, n, e, _⟩ := x; exact ⟨_, e⟩
  | cell v =>
    cases v with
    | none => obtain ⟨o, e, _⟩ := x; exact ⟨o, e⟩
    | some v => obtain ⟨t, ⟨o, e, _⟩, _⟩ := x; exact ⟨o, e⟩
  | obj o => exact ⟨o, x⟩
  | tab sites => obtain ⟨ps, e, _⟩ := x; exact ⟨_, e⟩
  | fn fd => obtain ⟨⟨oc, od, sl, e⟩, _⟩ := x; exact ⟨_, e⟩
  | it cls fs => obtain ⟨o, e, _⟩ := x; exact ⟨o, e⟩

noncomputable def LedOk (K₀ : Heap) (B : Bs) (h : Heap) : List (Nat × Mo) → Prop
  | [] => True
  | p :: r => (B p.1 = none ∧ K₀.get? p.1 = none ∧ MoRep B h p.1 p.2 ∧ ∀ q ∈ r, q.1 ≠ p.1) ∧ LedOk K₀ B h r

structure RepB (K₀ : Heap) (B : Bs) (led : List (Nat × Mo)) (tmp : List (V × Nat)) (h : Heap) : Prop where
  keep : ∀ a o, K₀.get? a = some o → h.get? a = some o
  base : ∀ a o, B a = some o → h.get? a = some o
  tmp : ∀ p ∈ tmp, RepT B p.1 p.2
  led : LedOk K₀ B h led

noncomputable def Rep (K₀ : Heap) (led : List (Nat × Mo)) (tmp : List (V × Nat)) (h : Heap) : Prop := ∃ B, RepB K₀ B led tmp h

section
variable {K₀ : Heap} {B B' : Bs} {led led' : List (Nat × Mo)} {tmp tmp' : List (V × Nat)} {h h' : Heap}

theorem LedOk.at : ∀ {led : List (Nat × Mo)}, LedOk K₀ B h led → (∀ p ∈ led, ∀ o, h.get? p.1 = some o → h'.get? p.1 = some o) → (∀ a o, B a = some o → B' a = some o) → (∀ p ∈ led, B' p.1 = none) → LedOk K₀ B' h' led
  | [], _, _, _, _ => trivial
  | p :: r, ⟨⟨_, b, c, d⟩, e⟩, k, kb, kn => ⟨⟨kn p (.head _), b, c.at (k p (.head _)) kb, d⟩, LedOk.at e (fun q hq => k q (.tail _ hq)) kb fun q hq => kn q (.tail _ hq)⟩
theorem LedOk.mem {p : Nat × Mo} (d : LedOk K₀ B h led) (hp : p ∈ led) : B p.1 = none ∧ K₀.get? p.1 = none ∧ MoRep B h p.1 p.2 := by
  induction led with
  | nil => cases hp
  | cons q r ih =>
    rcases List.mem_cons.mp hp with rfl | hp
    · exact ⟨d.1.1, d.1.2.1, d.1.2.2.1⟩
    · exact ih d.2 hp

theorem Rep.keeps (R : Rep K₀ led tmp h) (k : ∀ a o, h.get? a = some o → h'.get? a = some o) : Rep K₀ led tmp h' := by
  obtain ⟨B, a, b, c, d⟩ := R
  exact ⟨B, fun x o e => k x o (a x o e), fun x o e => k x o (b x o e), c, d.at (fun p _ o e => k _ o e) (fun _ _ e => e) fun p hp => (d.mem hp).1⟩

theorem Rep.drop (R : Rep K₀ led tmp h) (hs : ∀ p ∈ tmp', p ∈ tmp) : Rep K₀ led tmp' h := by
  obtain ⟨B, a, b, c, d⟩ := R
  exact ⟨B, a, b, fun p hp => c p (hs p hp), d⟩
theorem Rep.pop {p : V × Nat} (R : Rep K₀ led (p :: tmp) h) : Rep K₀ led tmp h := R.drop fun _ hp => .tail _ hp
theorem Rep.dropLed {p : Nat × Mo} (R : Rep K₀ (p :: led) tmp h) : Rep K₀ led tmp h := by
  obtain ⟨B, a, b, c, d⟩ := R
  exact ⟨B, a, b, c, d.2⟩
theorem Rep.swap {p q : Nat × Mo} (R : Rep K₀ (p :: q :: led) tmp h) : Rep K₀ (q :: p :: led) tmp h := by
  obtain ⟨B, a, b, c, ⟨d1, d2, d3, d4⟩, ⟨e1, e2, e3, e4⟩, f⟩ := R
  exact ⟨B, a, b, c, ⟨e1, e2, e3, fun x hx => by
    rcases List.mem_cons.mp hx with rfl | hx
    · exact fun e => d4 q (.head _) e.symm
    · exact e4 x hx⟩, ⟨d1, d2, d3, fun x hx => d4 x (.tail _ hx)⟩, f⟩
/-- bring an entry up -/
theorem LedOk.up : ∀ {pre : List (Nat × Mo)} {p : Nat × Mo} {post}, LedOk K₀ B h (pre ++ p :: post) ↔ LedOk K₀ B h (p :: (pre ++ post))
  | [], _, _ => Iff.rfl
  | q :: pre, p, post => by
    show (_ ∧ LedOk K₀ B h (pre ++ p :: post)) ↔ _
    rw [LedOk.up (pre := pre)]
    constructor
    · rintro ⟨⟨d1, d2, d3, d4⟩, ⟨e1, e2, e3, e4⟩, f⟩
      refine ⟨⟨e1, e2, e3, fun x hx => ?_⟩, ⟨d1, d2, d3, fun x hx => d4 x ?_⟩, f⟩
      · rcases List.mem_cons.mp hx with rfl | hx
        · exact fun e => d4 p (List.mem_append.mpr (.inr (.head _))) e.symm
        · exact e4 x hx
      · rcases List.mem_append.mp hx with hx | hx
        · exact List.mem_append.mpr (.inl hx)
        · exact List.mem_append.mpr (.inr (.tail _ hx))
    · rintro ⟨⟨d1, d2, d3, d4⟩, ⟨e1, e2, e3, e4⟩, f⟩
      refine ⟨⟨e1, e2, e3, fun x hx => ?_⟩, ⟨d1, d2, d3, fun x hx => d4 x (.tail _ hx)⟩, f⟩
      rcases List.mem_append.mp hx with hx | hx
      · exact e4 x (List.mem_append.mpr (.inl hx))
      · rcases List.mem_cons.mp hx with rfl | hx
        · exact fun e => d4 q (.head _) e.symm
        · exact e4 x (List.mem_append.mpr (.inr hx))
theorem Rep.up {pre post : List (Nat × Mo)} {p : Nat × Mo} (R : Rep K₀ (pre ++ p :: post) tmp h) : Rep K₀ (p :: (pre ++ post)) tmp h := by
  obtain ⟨B, a, b, c, d⟩ := R
  exact ⟨B, a, b, c, LedOk.up.mp d⟩
theorem Rep.down {pre post : List (Nat × Mo)} {p : Nat × Mo} (R : Rep K₀ (p :: (pre ++ post)) tmp h) : Rep K₀ (pre ++ p :: post) tmp h := by
  obtain ⟨B, a, b, c, d⟩ := R
  exact ⟨B, a, b, c, LedOk.up.mpr d⟩

/-- turn the first entry -/
theorem Rep.upd {a : Nat} {mo mo' : Mo} (R : Rep K₀ ((a, mo) :: led) tmp h) (k : ∀ b o, b ≠ a → h.get? b = some o → h'.get? b = some o)
    (hm : ∀ B, RepB K₀ B ((a, mo) :: led) tmp h → MoRep B h' a mo') : Rep K₀ ((a, mo') :: led) tmp h' := by
  obtain ⟨B, RB⟩ := R
  have hm' := hm B RB
  obtain ⟨a1, b1, c1, ⟨d1, d2, d3, d4⟩, e1⟩ := RB
  refine ⟨B, fun x o e => k x o (fun q => by rw [q, d2] at e; cases e) (a1 x o e), fun x o e => k x o (fun q => by rw [q, d1] at e; cases e) (b1 x o e), c1, ⟨d1, d2, hm', d4⟩, ?_⟩
  exact e1.at (fun p hp o e => k _ o (d4 p hp) e) (fun _ _ e => e) fun p hp => (e1.mem hp).1

/-- the base and one more place -/
noncomputable def Bs.put (B : Bs) (a : Nat) (o : Obj) : Bs := fun b => if b = a then some o else B b
theorem Bs.put_self (B : Bs) (a : Nat) (o : Obj) : B.put a o a = some o := by simp [Bs.put]
theorem Bs.put_le {B : Bs} {a : Nat} {o : Obj} (hn : B a = none) : ∀ b x, B b = some x → B.put a o b = some x := fun b x e => by
  unfold Bs.put
  split
  · rename_i q; rw [q, hn] at e; cases e
  · exact e

/-- a new object that stays as it is -/
theorem Rep.frz {a : Nat} {o : Obj} {v : V} (R : Rep K₀ led tmp h) (k : ∀ b x, h.get? b = some x → h'.get? b = some x) (ha : h.get? a = none) (ho : h'.get? a = some o)
    (hv : ∀ B, RepB K₀ B led tmp h → (∀ b x, B b = some x → B.put a o b = some x) → RepT (B.put a o) v a) : Rep K₀ led ((v, a) :: tmp) h' := by
  obtain ⟨B, RB⟩ := R
  have hn : B a = none := by
    cases q : B a with
    | none => rfl
    | some x => have := RB.base a x q; rw [ha] at this; cases this
  have le := Bs.put_le (o := o) hn
  have hv' := hv B RB le
  obtain ⟨a1, b1, c1, d1⟩ := RB
  refine ⟨B.put a o, fun x y e => k x y (a1 x y e), fun x y e => ?_, fun p hp => ?_, d1.at (fun p _ y e => k _ y e) le fun p hp => ?_⟩
  · by_cases q : x = a
    · subst q; rw [Bs.put_self] at e; cases e; exact ho
    · have e' : B x = some y := by simpa [Bs.put, q] using e
      exact k x y (b1 x y e')
  · rcases List.mem_cons.mp hp with rfl | hp
    · exact hv'
    · exact RepT.mono le _ (c1 p hp)
  · obtain ⟨e1, e2, e3⟩ := d1.mem hp
    obtain ⟨y, e4⟩ := e3.here
    have hne : p.1 ≠ a := fun q => by rw [q, ha] at e4; cases e4
    simpa [Bs.put, hne] using e1
/-- a new object that may change -/
theorem Rep.fresh {a : Nat} {mo : Mo} (R : Rep K₀ led tmp h) (k : ∀ b x, h.get? b = some x → h'.get? b = some x) (ha : h.get? a = none)
    (hm : ∀ B, RepB K₀ B led tmp h → MoRep B h' a mo) : Rep K₀ ((a, mo) :: led) tmp h' := by
  obtain ⟨B, RB⟩ := R
  have hm' := hm B RB
  have hn : B a = none := by
    cases q : B a with
    | none => rfl
    | some x => have := RB.base a x q; rw [ha] at this; cases this
  obtain ⟨a1, b1, c1, d1⟩ := RB
  refine ⟨B, fun x y e => k x y (a1 x y e), fun x y e => k x y (b1 x y e), c1, ⟨hn, ?_, hm', fun q hq => ?_⟩, d1.at (fun p _ y e => k _ y e) (fun _ _ e => e) fun p hp => (d1.mem hp).1⟩
  · cases q : K₀.get? a with
    | none => rfl
    | some x => have := a1 a x q; rw [ha] at this; cases this
  · obtain ⟨_, _, e3⟩ := d1.mem hq
    obtain ⟨y, e4⟩ := e3.here
    exact fun q => by rw [q, ha] at e4; cases e4
/-- a value that needs no place -/
noncomputable def V.flat : V → Bool
  | .tup _ => false
  | .lst _ => false
  | _ => true
theorem RepT.flat {B : Bs} {v : V} {t : Nat} (hv : v.flat = true) : RepT B v t := by
  cases v <;> first | (simp [V.flat] at hv; done) | simp only [RepT]
theorem Rep.put {v : V} {t : Nat} (R : Rep K₀ led tmp h) (hv : v.flat = true) : Rep K₀ led ((v, t) :: tmp) h := by
  obtain ⟨B, a1, b1, c1, d1⟩ := R
  exact ⟨B, a1, b1, fun p hp => by rcases List.mem_cons.mp hp with rfl | hp; exact RepT.flat hv; exact c1 p hp, d1⟩
/-- one more look at what is known -/
theorem Rep.more {v : V} {t : Nat} (R : Rep K₀ led tmp h) (hv : ∀ B, RepB K₀ B led tmp h → RepT B v t) : Rep K₀ led ((v, t) :: tmp) h := by
  obtain ⟨B, RB⟩ := R
  have hv' := hv B RB
  exact ⟨B, RB.keep, RB.base, fun p hp => by rcases List.mem_cons.mp hp with rfl | hp; exact hv'; exact RB.tmp p hp, RB.led⟩
theorem Rep.none_at_size (h : Heap) : h.get? h.objs.size = none := by
  cases q : h.get? h.objs.size with
  | none => rfl
  | some o => exact absurd (Heap.lt_size q) (Nat.lt_irrefl _)
theorem push_keeps (h : Heap) (o : Obj) : ∀ b x, h.get? b = some x → (h.push o).get? b = some x := fun _ _ e => Heap.get?_push_of_some _ e
end
end Mine

/-! V3 -/
namespace Mine

structure AOk (A : Around) (n : Nat) : Prop where
  handled : A.handled = none
  depth : A.depth + n < recursionLimit
  units : A.units + 8 * n < cLine
theorem AOk.deeper {A : Around} {n : Nat} {env : Env} (x : AOk A (n + 1)) : AOk (A.deeper env) n :=
  ⟨x.handled, by have := x.depth; show A.depth + 1 + n < _; exact om484 this, by have := x.units; show A.units + 3 + 8 * n < _; exact om485 this⟩
theorem AOk.le {A : Around} {n k : Nat} (x : AOk A n) (h : k ≤ n) : AOk A k :=
  ⟨x.handled, Nat.lt_of_le_of_lt (Nat.add_le_add_left h _) x.depth, Nat.lt_of_le_of_lt (Nat.add_le_add_left (Nat.mul_le_mul_left 8 h) _) x.units⟩
theorem AOk.room {A : Around} {n : Nat} (x : AOk A n) : A.depth < recursionLimit := Nat.lt_of_le_of_lt (Nat.le_add_right _ _) x.depth

structure EnvOk (env : Env) (scope : Scope) (L : Nat) (cl : List (Str × Addr)) (qual : Str) (code : Value) : Prop where
  sc : env.scope = scope
  lo : env.locals = L
  gl : env.globals = mainGlobals
  ce : env.cells = cl
  bu : env.builtins = builtinsNs
  qu : env.qual = qual
  co : env.code = code
  ki : scope.kind = .function
theorem EnvOk.ofKind {env : Env} {scope : Scope} {L : Nat} {cl : List (Str × Addr)} {qual : Str} {code : Value} (x : EnvOk env scope L cl qual code) (n : Str) : env.kindOf n = scope.names.lookup n := by
  unfold Env.kindOf; rw [x.sc]
theorem EnvOk.fn {env : Env} {scope : Scope} {L : Nat} {cl : List (Str × Addr)} {qual : Str} {code : Value} (x : EnvOk env scope L cl qual code) : env.scope.kind = .function := by
  rw [x.sc]; exact x.ki

/-- the still part: what the top left -/
structure Stat (K : Frag) (h : Heap) : Prop where
  x : K.In h
  t : ∃ p loose mean mg mb, Top p loose mean mg mb h
theorem Stat.keeps {K : Frag} {h h' : Heap} (S : Stat K h) (k : ∀ b o, h.get? b = some o → h'.get? b = some o) : Stat K h' :=
  ⟨S.x.keeps k, let ⟨p, loose, mean, mg, mb, T⟩ := S.t; ⟨p, loose, mean, mg, mb, T.keeps k⟩⟩
theorem Stat.lim {K : Frag} {h : Heap} (S : Stat K h) : h.NoLimit := let ⟨_, _, _, _, _, T⟩ := S.t; T.nolimit

section
variable {prog : Program} {w : World} {A : Around} {E : Value → Shared → Prop} {s : Shared} {K : Frag} {K₀ : Heap} {led : List (Nat × Mo)} {tmp : List (V × Nat)}
  {env : Env} {scope : Scope} {L : Nat} {cl : List (Str × Addr)} {qual : Str} {code : Value}

theorem Rep.stat (R : Rep K₀ led tmp s.heap) (S : Stat K K₀) : Stat K s.heap := by
  obtain ⟨B, RB⟩ := R
  exact S.keeps RB.keep

/-- a local name of the frame that stands first -/
theorem r_loc {x : Str} {pos : Pos} {l : List (Str × V)} {v : V} {Q : Value → Shared → Prop} (EO : EnvOk env scope L cl qual code) (R : Rep K₀ ((L, .ns l) :: led) tmp s.heap)
    (hv : lk l x = some v) (h : ∀ t, Rep K₀ ((L, .ns l) :: led) ((v, t) :: tmp) s.heap → Q (v.conc t) s)
    (hx : scope.names.lookup x = some .local := by rfl) (hd : (x == ("__debug__" : Str)) = false := by decide) :
    wpAny (model prog w) A (eval (.Name x pos) env) Q E s := by
  obtain ⟨B, RB⟩ := R
  obtain ⟨mm, hn, hm⟩ := RB.led.1.2.2.1
  obtain ⟨t, e, r⟩ := hm x v hv
  refine wpAny_Name (wpAny_loadName_local EO.fn (by rw [EO.ofKind]; exact hx) (by rw [EO.lo]; exact hn) e (h t ?_)) hd
  exact Rep.more ⟨B, RB⟩ (fun B' RB' => by
    obtain ⟨mm', hn', hm'⟩ := RB'.led.1.2.2.1
    obtain ⟨t', e', r'⟩ := hm' x v hv
    have q : mm = mm' := by
      obtain ⟨o, es, ep, a1, a2, _, a4⟩ := hn
      obtain ⟨o', es', ep', b1, b2, _, b4⟩ := hn'
      rw [a1] at b1; cases b1; rw [a2] at b2; cases b2
      funext n; rw [← a4, ← b4]
    subst q
    rw [e] at e'
    cases v <;> first
      | (simp only [RepT]; done)
      | (simp only [Option.some.injEq, V.conc, Value.ref.injEq] at e'; subst e'; exact r'))
theorem r_locS {x : Str} {pos : Pos} {l : List (Str × V)} {v : V} {Q : Value → Shared → Prop} (EO : EnvOk env scope L cl qual code) (R : Rep K₀ ((L, .ns l) :: led) tmp s.heap)
    (hv : lk l x = some v) (_hf : v.flat = true) (h : ∀ t, Q (v.conc t) s)
    (hx : scope.names.lookup x = some .local := by rfl) (hd : (x == ("__debug__" : Str)) = false := by decide) :
    wpAny (model prog w) A (eval (.Name x pos) env) Q E s := r_loc EO R hv (fun t _ => h t) hx hd

theorem lk_put {l : List (Str × V)} {x : Str} {v : V} : lk ((x, v) :: l) = fun y => if y = x then some v else lk l y := by funext y; rfl

/-- a store to a local name -/
theorem r_st {x : Str} {l : List (Str × V)} {v : V} {t : Nat} {Q : Unit → Shared → Prop} (EO : EnvOk env scope L cl qual code) (R : Rep K₀ ((L, .ns l) :: led) tmp s.heap)
    (hv : ∀ B, RepB K₀ B ((L, .ns l) :: led) tmp s.heap → RepT B v t)
    (h : ∀ h' tk, Rep K₀ ((L, .ns ((x, v) :: l)) :: led) tmp h' → Q () (St s h' tk))
    (hx : scope.names.lookup x = some .local := by rfl) :
    wpAny (model prog w) A (storeName env x (v.conc t)) Q E s := by
  have R' := R
  obtain ⟨B, RB⟩ := R
  obtain ⟨mm, hn, hm⟩ := RB.led.1.2.2.1
  refine wpAny_storeName_local (by rw [EO.ofKind]; exact hx) (by rw [EO.lo]; exact hn) (fun h' hn' hs' => h h' _ ?_)
    (by rw [EO.sc, EO.ki]; rfl)
  rw [EO.lo] at hn' hs'
  refine R'.upd (fun b o hb e => hs'.extBut b o hb e) fun B' RB' => ?_
  obtain ⟨mm', hn2, hm'⟩ := RB'.led.1.2.2.1
  have q : mm = mm' := by
    obtain ⟨o, es, ep, a1, a2, _, a4⟩ := hn
    obtain ⟨o', es', ep', b1, b2, _, b4⟩ := hn2
    rw [a1] at b1; cases b1; rw [a2] at b2; cases b2
    funext n; rw [← a4, ← b4]
  subst q
  refine ⟨_, hn', fun y u e => ?_⟩
  rw [lk_put] at e
  by_cases hy : y = x
  · simp only [hy, if_true, Option.some.injEq] at e ⊢
    subst e
    exact ⟨t, rfl, hv B' RB'⟩
  · simp only [hy, if_false] at e ⊢
    exact hm' y u e

/-- a global name of the text's own -/
theorem r_glob {x : Str} {pos : Pos} {v : Value} {Q : Value → Shared → Prop} (EO : EnvOk env scope L cl qual code) (S : Stat K K₀) (R : Rep K₀ led tmp s.heap)
    (e : nsIn K mainGlobals x = some (some v)) (h : Q v s)
    (hx : scope.names.lookup x = some .globalImplicit := by rfl) (hd : (x == ("__debug__" : Str)) = false := by decide) :
    wpAny (model prog w) A (eval (.Name x pos) env) Q E s := by
  obtain ⟨X, p, loose, mean, mg, mb, T⟩ := R.stat S
  exact Calls.Name_function_global EO.fn (by rw [EO.ofKind]; exact hx) (Calls.loadGlobal_global (by rw [EO.gl]; exact T.g) (mg_of X T.g e) h) hd
theorem r_bi {x : Str} {pos : Pos} {v : Value} {Q : Value → Shared → Prop} (EO : EnvOk env scope L cl qual code) (S : Stat K K₀) (R : Rep K₀ led tmp s.heap)
    (e : nsIn K mainGlobals x = some none) (hv : bootBuiltins x = some v) (h : Q v s) (hn : x ≠ "__name__" := by decide)
    (hx : scope.names.lookup x = some .globalImplicit := by rfl) (hd : (x == ("__debug__" : Str)) = false := by decide) :
    wpAny (model prog w) A (eval (.Name x pos) env) Q E s := by
  obtain ⟨X, p, loose, mean, mg, mb, T⟩ := R.stat S
  exact Calls.Name_function_global EO.fn (by rw [EO.ofKind]; exact hx) (Calls.loadGlobal_builtin (by rw [EO.gl]; exact T.g) (mg_none_of X T.g e) (by rw [EO.bu]; exact T.b) ((T.builtins x hn).trans hv) h) hd

/-- a cell's name -/
theorem r_cell {x : Str} {pos : Pos} {v : V} {c : Nat} {Q : Value → Shared → Prop} (EO : EnvOk env scope L cl qual code) (R : Rep K₀ led tmp s.heap)
    (hc : cl.lookup x = some c) (hm : (c, Mo.cell (some v)) ∈ led) (h : ∀ t, Rep K₀ led ((v, t) :: tmp) s.heap → Q (v.conc t) s)
    (hx : scope.names.lookup x = some .cell ∨ scope.names.lookup x = some .free) (hd : (x == ("__debug__" : Str)) = false := by decide) (hn : (x == ("__classdict__" : Str)) = false := by decide) :
    wpAny (model prog w) A (eval (.Name x pos) env) Q E s := by
  have R' := R
  obtain ⟨B, RB⟩ := R
  obtain ⟨_, _, t, ⟨o, e, d⟩, r⟩ := RB.led.mem hm
  have hq : Q (v.conc t) s := h t (R'.more fun B' RB' => by
    obtain ⟨_, _, t', ⟨o', e', d'⟩, r'⟩ := RB'.led.mem hm
    rw [e] at e'; cases e'; rw [d] at d'
    cases v <;> first
      | (simp only [RepT]; done)
      | (simp only [Data.cell.injEq, Option.some.injEq, V.conc, Value.ref.injEq] at d'; subst d'; exact r'))
  refine wpAny_Name ?_ hd
  rcases hx with hx | hx
  · exact wpAny_loadName_cell EO.fn (by rw [EO.ofKind]; exact hx) (by rw [EO.ce]; exact hc) ⟨o, e, d⟩ hq
  · exact wpAny_loadName_free EO.fn (by rw [EO.ofKind]; exact hx) (by rw [EO.ce]; exact hc) ⟨o, e, d⟩ hq hn

/-- binds and what they bear -/
inductive BR (B : Bs) : List (Str × V) → List (Str × Value) → Prop
  | nil : BR B [] []
  | cons {x : Str} {v : V} {t : Nat} {l : List (Str × V)} {r : List (Str × Value)} : RepT B v t → BR B l r → BR B ((x, v) :: l) ((x, v.conc t) :: r)
theorem BR.get {B : Bs} {l : List (Str × V)} {r : List (Str × Value)} (b : BR B l r) : ∀ x v, lk l x = some v → ∃ t, r.lookup x = some (v.conc t) ∧ RepT B v t := by
  induction b with
  | nil => intro x v e; cases e
  | @cons y u t l r a b ih =>
    intro x v e
    simp only [lk] at e
    by_cases hx : x = y
    · simp only [hx, if_true, Option.some.injEq] at e
      subst e hx
      exact ⟨t, by simp, a⟩
    · simp only [hx, if_false] at e
      obtain ⟨t', e1, e2⟩ := ih x v e
      refine ⟨t', ?_, e2⟩
      have : (x == y) = false := by simpa using hx
      rw [List.lookup_cons, this]; exact e1

/-- a call of a plain def -/
theorem r_enter {f : Addr} {oc : Value} {od : Option Addr} {osl : Array (Option Value)} {name : Str} {params : Arguments} {body : List Stmt} {dV kV doc pm cdv ct : Value} {an : Option Addr} {n : Nat}
    {args : List Value} {kw : List (Str × Value)} {binds : List (Str × Value)} {l : List (Str × V)} {Q : Value → Shared → Prop}
    (AO : AOk A (n + 1)) (S : Stat K K₀) (R : Rep K₀ led tmp s.heap)
    (ho : K.lookup f = some ⟨oc, od, .func (fnX name qual params body scope [] dV kV doc pm an cdv ct), osl⟩) (hcd : codeIn K cdv qual = true)
    (hbind : BindsTo s (fnX name qual params body scope [] dV kV doc pm an cdv ct) ⟨args, kw⟩ binds)
    (hcell : ∀ x ∈ scope.names, x.2 ≠ .cell) (hloc : ∀ x ∈ binds, scope.names.lookup x.1 = some .local)
    (hrep : ∀ B, RepB K₀ B led tmp s.heap → BR B l binds.reverse)
    (h : ∀ L h₁ tk env A', AOk A' n → EnvOk env scope L [] (qual ++ ".<locals>.") cdv → Rep K₀ ((L, .ns l) :: led) tmp h₁ →
      wpAny (model prog w) A' (execs body env) (fun fl s' => Q (match fl with | .ret v => v | _ => .none) s') (fun _ _ => False) (St s h₁ tk))
    (hco : scope.isCoroutine = false := by rfl) (hgen : scope.isGenerator = false := by rfl) (hk : scope.kind = .function := by rfl) :
    wpAny (model prog w) A (call (.ref f) args kw) Q E s := by
  have S' := R.stat S
  refine wpAny_call (codeAny_call_def (body := body) AO.room (S'.x _ _ ho) rfl S'.lim (codeRec_of S'.x hcd) rfl hbind hcell hloc (fun h₀ hns hk₀ => ?_) hco hgen hk)
  refine wpAny_mono (h s.heap.objs.size h₀ _ _ _ AO.deeper ⟨rfl, rfl, rfl, rfl, rfl, rfl, rfl, hk⟩ ?_) (fun fl s' hq => hq) fun _ _ f => f.elim
  refine R.fresh hk₀ (Rep.none_at_size _) fun B RB => ⟨_, hns, fun x v e => (hrep B RB).get x v e⟩

end
end Mine

/-! V4 -/
namespace Mine

/-- x bears v, by what tmp knows -/
noncomputable def Bear (tmp : List (V × Nat)) (v : V) (x : Value) : Prop := ∀ B : Bs, (∀ p ∈ tmp, RepT B p.1 p.2) → ∃ t, x = v.conc t ∧ RepT B v t
section
variable {tmp : List (V × Nat)}
theorem Bear.int {i : Int} {t : Nat} : Bear tmp (.int i) (.int i t) := fun _ _ => ⟨t, rfl, by simp only [RepT]⟩
theorem Bear.float {x : UInt64} {t : Nat} : Bear tmp (.float x) (.float x t) := fun _ _ => ⟨t, rfl, by simp only [RepT]⟩
theorem Bear.str {x : Str} {t : Nat} : Bear tmp (.str x) (.str x t) := fun _ _ => ⟨t, rfl, by simp only [RepT]⟩
theorem Bear.bool {b : Bool} : Bear tmp (.bool b) (.bool b) := fun _ _ => ⟨0, rfl, by simp only [RepT]⟩
theorem Bear.none : Bear tmp .none .none := fun _ _ => ⟨0, rfl, by simp only [RepT]⟩
theorem Bear.raw {v : Value} : Bear tmp (.raw v) v := fun _ _ => ⟨0, rfl, by simp only [RepT]⟩
theorem Bear.tup {vs : List V} {t : Nat} (h : (V.tup vs, t) ∈ tmp) : Bear tmp (.tup vs) (.ref t) := fun _ k => ⟨t, rfl, k _ h⟩
theorem Bear.lst {vs : List V} {t : Nat} (h : (V.lst vs, t) ∈ tmp) : Bear tmp (.lst vs) (.ref t) := fun _ k => ⟨t, rfl, k _ h⟩
theorem Bear.mem {v : V} {t : Nat} (h : (v, t) ∈ tmp) : Bear tmp v (v.conc t) := fun _ k => ⟨t, rfl, k _ h⟩

noncomputable def Bears (tmp : List (V × Nat)) (vs : List V) (xs : List Value) : Prop := ∀ B : Bs, (∀ p ∈ tmp, RepT B p.1 p.2) → RepL B vs xs
theorem Bears.nil : Bears tmp [] [] := fun B _ => RepL.nil B
theorem Bears.cons {v : V} {x : Value} {vs : List V} {xs : List Value} (a : Bear tmp v x) (b : Bears tmp vs xs) : Bears tmp (v :: vs) (x :: xs) := fun B k => by
  obtain ⟨t, rfl, r⟩ := a B k
  exact RepL.cons r (b B k)

/-- a frame's binds -/
noncomputable def Binds (tmp : List (V × Nat)) (l : List (Str × V)) (r : List (Str × Value)) : Prop := ∀ B : Bs, (∀ p ∈ tmp, RepT B p.1 p.2) → BR B l r
theorem Binds.nil : Binds tmp [] [] := fun _ _ => .nil
theorem Binds.cons {x : Str} {v : V} {y : Value} {l : List (Str × V)} {r : List (Str × Value)} (a : Bear tmp v y) (b : Binds tmp l r) : Binds tmp ((x, v) :: l) ((x, y) :: r) := fun B k => by
  obtain ⟨t, rfl, r⟩ := a B k
  exact .cons r (b B k)
end

section
variable {prog : Program} {w : World} {A : Around} {E : Value → Shared → Prop} {s : Shared} {K : Frag} {K₀ : Heap} {led : List (Nat × Mo)} {tmp : List (V × Nat)}
  {env : Env} {scope : Scope} {L : Nat} {cl : List (Str × Addr)} {qual : Str} {code : Value}

theorem r_store {x : Str} {l : List (Str × V)} {v : V} {y : Value} {Q : Unit → Shared → Prop} (EO : EnvOk env scope L cl qual code) (R : Rep K₀ ((L, .ns l) :: led) tmp s.heap)
    (hx : scope.names.lookup x = some .local) (hv : Bear tmp v y)
    (h : ∀ h' tk, Rep K₀ ((L, .ns ((x, v) :: l)) :: led) tmp h' → Q () (St s h' tk)) :
    wpAny (model prog w) A (storeName env x y) Q E s := by
  have R' := R
  obtain ⟨B, RB⟩ := R
  obtain ⟨mm, hn, hm⟩ := RB.led.1.2.2.1
  refine wpAny_storeName_local (by rw [EO.ofKind]; exact hx) (by rw [EO.lo]; exact hn) (fun h' hn' hs' => h h' _ ?_)
    (by rw [EO.sc, EO.ki]; rfl)
  rw [EO.lo] at hn' hs'
  refine R'.upd (fun b o hb e => hs'.extBut b o hb e) fun B' RB' => ?_
  obtain ⟨mm', hn2, hm'⟩ := RB'.led.1.2.2.1
  have q : mm = mm' := by
    obtain ⟨o, es, ep, a1, a2, _, a4⟩ := hn
    obtain ⟨o', es', ep', b1, b2, _, b4⟩ := hn2
    rw [a1] at b1; cases b1; rw [a2] at b2; cases b2
    funext n; rw [← a4, ← b4]
  subst q
  obtain ⟨t, rfl, rt⟩ := hv B' RB'.tmp
  refine ⟨_, hn', fun y u e => ?_⟩
  rw [lk_put] at e
  by_cases hy : y = x
  · simp only [hy, if_true, Option.some.injEq] at e ⊢
    subst e
    exact ⟨t, rfl, rt⟩
  · simp only [hy, if_false] at e ⊢
    exact hm' y u e

/-- forget names, or say them in another order -/
theorem Rep.locals {l l' : List (Str × V)} {h : Heap} (R : Rep K₀ ((L, .ns l) :: led) tmp h) (hs : ∀ p ∈ l', lk l p.1 = some p.2) : Rep K₀ ((L, .ns l') :: led) tmp h := by
  refine R.upd (fun _ _ _ e => e) fun B RB => ?_
  obtain ⟨mm, hn, hm⟩ := RB.led.1.2.2.1
  refine ⟨mm, hn, fun x v e => hm x v ?_⟩
  have key : ∀ l' : List (Str × V), (∀ p ∈ l', lk l p.1 = some p.2) → lk l' x = some v → lk l x = some v := by
    intro l'
    induction l' with
    | nil => intro _ e; cases e
    | cons p r ih =>
      intro hs e
      obtain ⟨k, u⟩ := p
      simp only [lk] at e
      by_cases hx : x = k
      · simp only [hx, if_true, Option.some.injEq] at e
        subst e hx
        exact hs _ (.head _)
      · simp only [hx, if_false] at e
        exact ih (fun q hq => hs q (.tail _ hq)) e
  exact key l' hs e

theorem r_newTuple {vs : List V} {xs : List Value} {Q : Value → Shared → Prop} (R : Rep K₀ led tmp s.heap) (hv : Bears tmp vs xs)
    (h : ∀ t h', Rep K₀ led ((.tup vs, t) :: tmp) h' → Q (.ref t) (St s h' s.toks)) (hsz : xs.length ≤ sizeLine := by decide) : wpAny (model prog w) A (newTuple xs) Q E s := by
  refine wpAny_newTuple (h _ _ (R.frz (push_keeps _ _) (Rep.none_at_size _) (Heap.get?_push_size _ rfl) fun B RB le => ?_)) hsz
  simp only [RepT]
  exact ⟨_, _, _, Bs.put_self _ _ _, rfl, rfl, RepL.mono le vs (hv B RB.tmp)⟩
theorem r_newList {vs : List V} {xs : List Value} {Q : Value → Shared → Prop} (R : Rep K₀ led tmp s.heap) (hv : Bears tmp vs xs)
    (h : ∀ t h', Rep K₀ led ((.lst vs, t) :: tmp) h' → Q (.ref t) (St s h' s.toks)) (hsz : xs.length ≤ sizeLine := by decide) : wpAny (model prog w) A (newList xs) Q E s := by
  refine wpAny_newList (h _ _ (R.frz (push_keeps _ _) (Rep.none_at_size _) (Heap.get?_push_size _ rfl) fun B RB le => ?_)) hsz
  simp only [RepT]
  exact ⟨_, _, _, Bs.put_self _ _ _, rfl, rfl, RepL.mono le vs (hv B RB.tmp)⟩
/-- a list that is to change -/
theorem r_newListM {vs : List V} {xs : List Value} {Q : Value → Shared → Prop} (R : Rep K₀ led tmp s.heap) (hv : Bears tmp vs xs)
    (h : ∀ t h', Rep K₀ ((t, .list vs) :: led) tmp h' → Q (.ref t) (St s h' s.toks)) (hsz : xs.length ≤ sizeLine := by decide) : wpAny (model prog w) A (newList xs) Q E s := by
  refine wpAny_newList (h _ _ (R.fresh (push_keeps _ _) (Rep.none_at_size _) fun B RB => ?_)) hsz
  exact ⟨xs.toArray, ⟨_, Heap.get?_push_size _ rfl, rfl, _, rfl⟩, by simpa using hv B RB.tmp⟩
/-- a list that changes no more -/
theorem Rep.freeze {a : Nat} {vs : List V} {h : Heap} (R : Rep K₀ ((a, .list vs) :: led) tmp h) : Rep K₀ led ((.lst vs, a) :: tmp) h := by
  obtain ⟨B, a1, b1, c1, ⟨d1, d2, ⟨items, ⟨o, e, hc, n, hd⟩, r⟩, d4⟩, e1⟩ := R
  have le := Bs.put_le (o := o) d1
  refine ⟨B.put a o, a1, fun x y q => ?_, fun p hp => ?_, e1.at (fun p _ y e => e) le fun p hp => ?_⟩
  · by_cases hx : x = a
    · subst hx; rw [Bs.put_self] at q; cases q; exact e
    · exact b1 x y (by simpa [Bs.put, hx] using q)
  · rcases List.mem_cons.mp hp with rfl | hp
    · simp only [RepT]
      exact ⟨o, items, n, Bs.put_self _ _ _, hc, hd, RepL.mono le vs r⟩
    · exact RepT.mono le _ (c1 p hp)
  · have hne : p.1 ≠ a := d4 p hp
    simpa [Bs.put, hne] using (e1.mem hp).1

theorem r_names (EO : EnvOk env scope L cl qual code) : EnvOk env scope L cl qual code := EO

/-- an item of a tuple or a list, by its place -/
theorem RepT.isTup {B : Bs} {h : Heap} {vs : List V} {a : Nat} (k : ∀ a o, B a = some o → h.get? a = some o) (r : RepT B (.tup vs) a) : ∃ items, IsTup h a items ∧ RepL B vs items.toList := by
  simp only [RepT] at r
  obtain ⟨o, items, n, e, c, d, r⟩ := r
  exact ⟨items, ⟨o, k _ _ e, c, n, d⟩, r⟩
theorem RepT.isList {B : Bs} {h : Heap} {vs : List V} {a : Nat} (k : ∀ a o, B a = some o → h.get? a = some o) (r : RepT B (.lst vs) a) : ∃ items, h.IsList a items ∧ RepL B vs items.toList := by
  simp only [RepT] at r
  obtain ⟨o, items, n, e, c, d, r⟩ := r
  exact ⟨items, ⟨o, k _ _ e, c, n, d⟩, r⟩
theorem r_itemT {value slice : Expr} {a : Nat} {i : Int} {u : Nat} {vs : List V} {v : V} {Q : Value → Shared → Prop} (R : Rep K₀ led tmp s.heap) (hm : (V.tup vs, a) ∈ tmp)
    (h0 : 0 ≤ i) (hi : i < 2 ^ 62) (hv : vs[i.toNat]? = some v) (h : ∀ t, Rep K₀ led ((v, t) :: tmp) s.heap → Q (v.conc t) s)
    (hs : subscripted slice false (.ref a) (.int i u) = operate [.ref a, .int i u] (getItem (.ref a) (.int i u)) := by with_unfolding_all rfl) :
    wpAny (model prog w) A (subscriptTail value slice (.ref a) (.int i u)) Q E s := by
  have R' := R
  obtain ⟨B, RB⟩ := R
  obtain ⟨items, hT, rl⟩ := (RB.tmp _ hm).isTup RB.base
  obtain ⟨t, e, r⟩ := rl.get hv
  have hlt : i.toNat < items.toList.length := by
    have := List.getElem?_eq_some_iff.mp e; exact this.1
  refine item_tupleT (l := items.toList) (by simpa using hT) (by exact om486 h0 hi) (by exact om487 h0 hi) ?_ e (h t ?_) hs
  · unfold seqIndex?
    have q1 : ¬ i < 0 := by exact om488 h0 hi
    have q2 : (decide (0 ≤ i) && decide (i < (items.toList.length : Int))) = true := by
      simp only [Bool.and_eq_true, decide_eq_true_eq]
      exact om489 h0 hi hlt
    simp only [q1, if_false, q2, if_true]
  · exact ⟨B, RB.keep, RB.base, fun p hp => by rcases List.mem_cons.mp hp with rfl | hp; exact r; exact RB.tmp p hp, RB.led⟩
theorem r_itemL {value slice : Expr} {a : Nat} {i : Int} {u : Nat} {vs : List V} {v : V} {Q : Value → Shared → Prop} (R : Rep K₀ led tmp s.heap) (hm : (V.lst vs, a) ∈ tmp)
    (h0 : 0 ≤ i) (hi : i < 2 ^ 62) (hv : vs[i.toNat]? = some v) (h : ∀ t, Rep K₀ led ((v, t) :: tmp) s.heap → Q (v.conc t) s)
    (hs : subscripted slice false (.ref a) (.int i u) = operate [.ref a, .int i u] (getItem (.ref a) (.int i u)) := by with_unfolding_all rfl) :
    wpAny (model prog w) A (subscriptTail value slice (.ref a) (.int i u)) Q E s := by
  obtain ⟨B, RB⟩ := R
  obtain ⟨items, hT, rl⟩ := (RB.tmp _ hm).isList RB.base
  obtain ⟨t, e, r⟩ := rl.get hv
  refine tail_any hT.typeIs slot_list_getitem.lookup (wpAny_getItem_list hT h0 (by exact om487 h0 hi) (by simpa using e) (h t ?_)) hs
  exact ⟨B, RB.keep, RB.base, fun p hp => by rcases List.mem_cons.mp hp with rfl | hp; exact r; exact RB.tmp p hp, RB.led⟩
/-- an item of a changing list -/
theorem r_itemM {value slice : Expr} {a : Nat} {i : Int} {u : Nat} {vs : List V} {v : V} {Q : Value → Shared → Prop} (R : Rep K₀ led tmp s.heap) (hm : (a, Mo.list vs) ∈ led)
    (h0 : 0 ≤ i) (hi : i < 2 ^ 62) (hv : vs[i.toNat]? = some v) (h : ∀ t, Rep K₀ led ((v, t) :: tmp) s.heap → Q (v.conc t) s)
    (hs : subscripted slice false (.ref a) (.int i u) = operate [.ref a, .int i u] (getItem (.ref a) (.int i u)) := by with_unfolding_all rfl) :
    wpAny (model prog w) A (subscriptTail value slice (.ref a) (.int i u)) Q E s := by
  obtain ⟨B, RB⟩ := R
  obtain ⟨_, _, items, hT, rl⟩ := RB.led.mem hm
  obtain ⟨t, e, r⟩ := rl.get hv
  refine tail_any hT.typeIs slot_list_getitem.lookup (wpAny_getItem_list hT h0 (by exact om487 h0 hi) (by simpa using e) (h t ?_)) hs
  exact ⟨B, RB.keep, RB.base, fun p hp => by rcases List.mem_cons.mp hp with rfl | hp; exact r; exact RB.tmp p hp, RB.led⟩
theorem r_divmod {a b : Int} {t u : Nat} {Q : Value → Shared → Prop} (R : Rep K₀ led tmp s.heap) (hb : b ≠ 0) (hp : Builtin.divisionGoesByPylong a b = false)
    (h : ∀ h' tk t, Rep K₀ led ((.tup [.int (a.fdiv b), .int (a.fmod b)], t) :: tmp) h' → Q (.ref t) (St s h' tk)) :
    wpAny (model prog w) A (call (.builtin "divmod") [.int a t, .int b u]) Q E s := by
  refine divmod_int hb (h _ _ _ (R.frz (push_keeps _ _) (Rep.none_at_size _) (Heap.get?_push_size _ rfl) fun B RB le => ?_)) (.inl hp)
  simp only [RepT]
  exact ⟨_, _, _, Bs.put_self _ _ _, rfl, rfl, RepL.cons (t := s.toks) (v := .int _) (by simp only [RepT]) (RepL.cons (v := .int _) (t := s.toks + 1) (by simp only [RepT]) (RepL.nil _))⟩
theorem noPy {a b : Int} (h : b.natAbs < 2 ^ 100) : Builtin.divisionGoesByPylong a b = false := by
  refine PyProof.noPylong_of_log2 ?_
  by_cases h0 : b.natAbs = 0
  · rw [h0]; decide +kernel
  · exact Nat.lt_trans ((Nat.log2_lt h0).mpr h) (by decide)
theorem r_div {h₀ : Heap} {t₀ : Nat} {a b : Int} {t u : Nat} {Q : Value → Shared → Prop} (hb : b ≠ 0) (hp : b.natAbs < 2 ^ 100) (h : ∀ tk t, Q (.int (a.fdiv b) t) (St s h₀ tk)) :
    wpAny (model prog w) A (binaryOp .FloorDiv (.int a t) (.int b u)) Q E (St s h₀ t₀) := floordiv_int hb (h _ _) (.inl (noPy hp))
end
end Mine

/-! V5 -/
namespace Mine
open PySem.Flt

noncomputable def flt (a b : UInt64) : Bool := Float64.cmp a b == some .lt
noncomputable def fmax3 (a b c : UInt64) : UInt64 := let m := if flt a b then b else a; if flt m c then c else m
noncomputable def fmin3 (a b c : UInt64) : UInt64 := let m := if flt b a then b else a; if flt c m then c else m
noncomputable def fmin2 (a b : UInt64) : UInt64 := if flt b a then b else a

section
variable {prog : Program} {w : World} {A : Around} {E : Value → Shared → Prop} {s : Shared} {K : Frag} {K₀ : Heap} {led : List (Nat × Mo)} {tmp : List (V × Nat)} {Q : Value → Shared → Prop} {n : Nat} {a b c : UInt64} {t u v : Nat} {i j : Int}

theorem r_fdiv {h₀ : Heap} {t₀ : Nat} (AO : AOk A n) (hb : Float64.isZero b = false) (h : ∀ tk t, Q (.float (Float64.div a b) t) (St s h₀ tk)) : wpAny (model prog w) A (binaryOp .Div (.float a t) (.float b u)) Q E (St s h₀ t₀) :=
  truediv_float_or AO.handled (fun q => by rw [hb] at q; cases q) fun _ => h _ _
theorem r_fmod {h₀ : Heap} {t₀ : Nat} (AO : AOk A n) (hb : Float64.isZero b = false) (h : ∀ tk t, Q (.float (Float64.divmod a b).2 t) (St s h₀ tk)) : wpAny (model prog w) A (binaryOp .Mod (.float a t) (.float b u)) Q E (St s h₀ t₀) :=
  mod_ff AO.handled (fun q => by rw [hb] at q; cases q) fun _ => h _ _
theorem not_nan (hb : Float64.isFinite a = true) : ¬ Float64.isNaN a = true := fun q => by
  unfold Float64.isNaN at q; unfold Float64.isFinite at hb
  cases e : Float64.decode a <;> rw [e] at q hb <;> simp at q hb
theorem not_inf (hb : Float64.isFinite a = true) : ¬ Float64.isInf a = true := fun q => by
  unfold Float64.isInf at q; unfold Float64.isFinite at hb
  cases e : Float64.decode a <;> rw [e] at q hb <;> simp at q hb
theorem r_round {h₀ : Heap} {t₀ : Nat} (AO : AOk A n) (hb : Float64.isFinite a = true) (h : ∀ tk t, Q (.int (toInt Float64.nearestOf a) t) (St s h₀ tk)) : wpAny (model prog w) A (call (.builtin "round") [.float a t]) Q E (St s h₀ t₀) :=
  call_round_float AO.handled (fun q => absurd q (not_nan hb)) (fun q => absurd q (not_inf hb)) fun _ => h _ _
theorem r_intf {h₀ : Heap} {t₀ : Nat} (AO : AOk A n) (hb : Float64.isFinite a = true) (h : ∀ tk t, Q (.int (toInt Float64.truncOf a) t) (St s h₀ tk)) : wpAny (model prog w) A (call (.type "int") [.float a t]) Q E (St s h₀ t₀) :=
  call_int_float3 AO.handled (fun q => absurd q (not_nan hb)) (fun q => absurd q (not_inf hb)) fun _ => h _ _
noncomputable def Small (i : Int) : Prop := i.natAbs < 2 ^ 200
theorem big_no {x : Nat} (h : x < 2 ^ 200) : ¬ 2 ^ 1024 - 2 ^ 970 ≤ x := fun q => by
  have : (2 : Nat) ^ 200 ≤ 2 ^ 1024 - 2 ^ 970 := by decide +kernel
  exact om490 h q
theorem r_mulif {h₀ : Heap} {t₀ : Nat} (AO : AOk A n) (hi : i.natAbs < 2 ^ 200) (h : ∀ tk t, Q (.float (Float64.mul (Float64.ofInt i) a) t) (St s h₀ tk)) : wpAny (model prog w) A (binaryOp .Mult (.int i u) (.float a t)) Q E (St s h₀ t₀) :=
  mul_if_sharp AO.handled (fun q => absurd q (big_no hi)) fun _ => h _ _
theorem r_addfi {h₀ : Heap} {t₀ : Nat} (AO : AOk A n) (hi : i.natAbs < 2 ^ 200) (h : ∀ tk t, Q (.float (Float64.add a (Float64.ofInt i)) t) (St s h₀ tk)) : wpAny (model prog w) A (binaryOp .Add (.float a t) (.int i u)) Q E (St s h₀ t₀) :=
  add_fi_sharp AO.handled (fun q => absurd q (big_no hi)) fun _ => h _ _
theorem r_subfi {h₀ : Heap} {t₀ : Nat} (AO : AOk A n) (hi : i.natAbs < 2 ^ 200) (h : ∀ tk t, Q (.float (Float64.sub a (Float64.ofInt i)) t) (St s h₀ tk)) : wpAny (model prog w) A (binaryOp .Sub (.float a t) (.int i u)) Q E (St s h₀ t₀) :=
  sub_fi_sharp AO.handled (fun q => absurd q (big_no hi)) fun _ => h _ _
theorem r_subif {h₀ : Heap} {t₀ : Nat} (AO : AOk A n) (hi : i.natAbs < 2 ^ 200) (h : ∀ tk t, Q (.float (Float64.sub (Float64.ofInt i) a) t) (St s h₀ tk)) : wpAny (model prog w) A (binaryOp .Sub (.int i u) (.float a t)) Q E (St s h₀ t₀) :=
  sub_if_sharp AO.handled (fun q => absurd q (big_no hi)) fun _ => h _ _
/-- an int by an int, as a float -/
noncomputable def fdivi (i j : Int) : UInt64 := Float64.ofFrac (decide (i < 0) != decide (j < 0)) i.natAbs j.natAbs
theorem r_divii {h₀ : Heap} {t₀ : Nat} (AO : AOk A n) (hj : j ≠ 0) (hi : i.natAbs < 2 ^ 200) (h : ∀ tk t, Q (.float (fdivi i j) t) (St s h₀ tk)) : wpAny (model prog w) A (binaryOp .Div (.int i t) (.int j u)) Q E (St s h₀ t₀) :=
  div_ii_fits AO.handled (Nat.lt_trans hi (by decide +kernel)) (fun q => absurd q hj) fun _ _ => h _ _

theorem r_max3 (AO : AOk A n) (R : Rep K₀ led tmp s.heap) (h : ∀ h' tk t, Rep K₀ led tmp h' → Q (.float (fmax3 a b c) t) (St s h' tk)) :
    wpAny (model prog w) A (call (.builtin "max") [.float a t, .float b u, .float c v]) Q E s := by
  have hT : (s.heap.push { cls := .type "tuple", data := .seq #[Value.float a t, .float b u, .float c v] }).IsTuple s.heap.objs.size #[.float a t, .float b u, .float c v] := ⟨_, Heap.get?_push_size _ rfl, rfl, 0, rfl⟩
  refine call_max_three (wpAny_pyIter_tuple hT ?_)
  have hsz : (s.heap.push { cls := .type "tuple", data := .seq #[Value.float a t, .float b u, .float c v] }).objs.size = s.heap.objs.size + 1 := Heap.size_push ..
  refine ⟨_, [_, s.heap.objs.size], [_], _, _, _, _, rfl, Walks.tuple (A := A.in1) AO.handled _ s.heap.objs.size (by rw [hsz]; exact Nat.ne_of_lt (Nat.lt_succ_self _)) #[.float a t, .float b u, .float c v],
    ⟨⟨_, Heap.get?_push_size _ rfl, rfl, rfl⟩, hT.push _⟩, fun d hd => ?_, by simp, cmpOf_gt #[.float a t, .float b u, .float c v] (by simp [NumV.float]), fun x h' tk hP hk => ?_⟩
  · show d < ((s.heap.push _).push _).objs.size
    rw [Heap.size_push, hsz]
    rcases List.mem_cons.mp hd with rfl | hd
    · rw [hsz]; exact Nat.lt_succ_self _
    · rcases List.mem_cons.mp hd with rfl | hd
      · exact Nat.lt_succ_of_lt (Nat.lt_succ_self _)
      · cases hd
  · have hold : ∀ d o, s.heap.get? d = some o → h'.get? d = some o := fun d o e => by
      refine hk d o (fun hm => ?_) (Heap.get?_push_of_some _ (Heap.get?_push_of_some _ e))
      rcases List.mem_cons.mp hm with e1 | hm
      · have := Heap.lt_size e; rw [e1, hsz] at this; exact Nat.lt_irrefl _ (Nat.lt_of_succ_lt this)
      · cases hm
    have hx : ∃ z, x = .float (fmax3 a b c) z := by
      unfold fmax3 flt
      dsimp only
      cases h1 : (Float64.cmp a b == some .lt)
      · cases h2 : (Float64.cmp a c == some .lt) <;> simp [argBest, ltV, h1, h2] at hP <;> subst hP <;> simp [h2]
      · cases h2 : (Float64.cmp b c == some .lt) <;> simp [argBest, ltV, h1, h2] at hP <;> subst hP <;> simp [h2]
    obtain ⟨z, rfl⟩ := hx
    exact h h' tk z (R.keeps hold)
theorem r_min3 (AO : AOk A n) (R : Rep K₀ led tmp s.heap) (h : ∀ h' tk t, Rep K₀ led tmp h' → Q (.float (fmin3 a b c) t) (St s h' tk)) :
    wpAny (model prog w) A (call (.builtin "min") [.float a t, .float b u, .float c v]) Q E s := by
  have hT : (s.heap.push { cls := .type "tuple", data := .seq #[Value.float a t, .float b u, .float c v] }).IsTuple s.heap.objs.size #[.float a t, .float b u, .float c v] := ⟨_, Heap.get?_push_size _ rfl, rfl, 0, rfl⟩
  refine call_min_three (wpAny_pyIter_tuple hT ?_)
  have hsz : (s.heap.push { cls := .type "tuple", data := .seq #[Value.float a t, .float b u, .float c v] }).objs.size = s.heap.objs.size + 1 := Heap.size_push ..
  refine ⟨_, [_, s.heap.objs.size], [_], _, _, _, _, rfl, Walks.tuple (A := A.in1) AO.handled _ s.heap.objs.size (by rw [hsz]; exact Nat.ne_of_lt (Nat.lt_succ_self _)) #[.float a t, .float b u, .float c v],
    ⟨⟨_, Heap.get?_push_size _ rfl, rfl, rfl⟩, hT.push _⟩, fun d hd => ?_, by simp, cmpOf_lt #[.float a t, .float b u, .float c v] (by simp [NumV.float]), fun x h' tk hP hk => ?_⟩
  · show d < ((s.heap.push _).push _).objs.size
    rw [Heap.size_push, hsz]
    rcases List.mem_cons.mp hd with rfl | hd
    · rw [hsz]; exact Nat.lt_succ_self _
    · rcases List.mem_cons.mp hd with rfl | hd
      · exact Nat.lt_succ_of_lt (Nat.lt_succ_self _)
      · cases hd
  · have hold : ∀ d o, s.heap.get? d = some o → h'.get? d = some o := fun d o e => by
      refine hk d o (fun hm => ?_) (Heap.get?_push_of_some _ (Heap.get?_push_of_some _ e))
      rcases List.mem_cons.mp hm with e1 | hm
      · have := Heap.lt_size e; rw [e1, hsz] at this; exact Nat.lt_irrefl _ (Nat.lt_of_succ_lt this)
      · cases hm
    have hx : ∃ z, x = .float (fmin3 a b c) z := by
      unfold fmin3 flt
      dsimp only
      cases h1 : (Float64.cmp b a == some .lt)
      · cases h2 : (Float64.cmp c a == some .lt) <;> simp [argBest, ltV, h1, h2] at hP <;> subst hP <;> simp [h2]
      · cases h2 : (Float64.cmp c b == some .lt) <;> simp [argBest, ltV, h1, h2] at hP <;> subst hP <;> simp [h2]
    obtain ⟨z, rfl⟩ := hx
    exact h h' tk z (R.keeps hold)
theorem r_min2 (AO : AOk A n) (R : Rep K₀ led tmp s.heap) (h : ∀ h' tk t, Rep K₀ led tmp h' → Q (.float (fmin2 a b) t) (St s h' tk)) :
    wpAny (model prog w) A (call (.builtin "min") [.float a t, .float b u]) Q E s := by
  refine min_two_num AO.handled (.float _ _) (.float _ _) fun h' tk k => ?_
  have hx : ∃ z, (if ltV (.float b u) (.float a t) then Value.float b u else .float a t) = .float (fmin2 a b) z := by
    unfold fmin2 flt
    show ∃ z, (if (Float64.cmp b a == some .lt) then Value.float b u else .float a t) = _
    cases (Float64.cmp b a == some .lt)
    · exact ⟨t, rfl⟩
    · exact ⟨u, rfl⟩
  obtain ⟨z, e⟩ := hx
  rw [e]
  exact h h' tk z (R.keeps k)
end
end Mine

/-! V6 -/
namespace Mine
section
variable {prog : Program} {w : World} {A : Around} {E : Value → Shared → Prop} {s : Shared} {K : Frag} {K₀ : Heap} {led : List (Nat × Mo)} {tmp : List (V × Nat)}
  {env : Env} {scope : Scope} {L : Nat} {cl : List (Str × Addr)} {qual : Str} {code : Value}

theorem Rep.freshL {es : List (Nat × Mo)} {h h' : Heap} (R : Rep K₀ led tmp h) (k : ∀ b x, h.get? b = some x → h'.get? b = some x) (ha : ∀ p ∈ es, h.get? p.1 = none)
    (hd : es.Pairwise fun p q => q.1 ≠ p.1) (hm : ∀ B, RepB K₀ B led tmp h → ∀ p ∈ es, MoRep B h' p.1 p.2) : Rep K₀ (es ++ led) tmp h' := by
  obtain ⟨B, RB⟩ := R
  have hm' := hm B RB
  obtain ⟨a1, b1, c1, d1⟩ := RB
  refine ⟨B, fun x y e => k x y (a1 x y e), fun x y e => k x y (b1 x y e), c1, ?_⟩
  induction es with
  | nil => exact d1.at (fun p _ y e => k _ y e) (fun _ _ e => e) fun p hp => (d1.mem hp).1
  | cons p r ih =>
    have hn := ha p (.head _)
    refine ⟨⟨?_, ?_, hm' p (.head _), fun q hq => ?_⟩, ih (fun q hq => ha q (.tail _ hq)) (List.pairwise_cons.mp hd).2 (fun B RB q hq => hm B RB q (.tail _ hq)) (fun q hq => hm' q (.tail _ hq))⟩
    · cases q : B p.1 with
      | none => rfl
      | some x => have := b1 _ x q; rw [hn] at this; cases this
    · cases q : K₀.get? p.1 with
      | none => rfl
      | some x => have := a1 _ x q; rw [hn] at this; cases this
    · rcases List.mem_append.mp hq with hq | hq
      · exact (List.pairwise_cons.mp hd).1 q hq
      · obtain ⟨_, _, e3⟩ := d1.mem hq
        obtain ⟨y, e4⟩ := e3.here
        exact fun q => by rw [q, hn] at e4; cases e4

noncomputable def RepM (B : Bs) (l : List (Str × V)) (mm : Str → Option Value) : Prop := ∀ x v, lk l x = some v → ∃ t, mm x = some (v.conc t) ∧ RepT B v t
theorem RepM.nil {B : Bs} {mm : Str → Option Value} : RepM B [] mm := fun _ _ e => by cases e
theorem RepM.cons {B : Bs} {l : List (Str × V)} {mm : Str → Option Value} {x : Str} {v : V} {t : Nat} (a : RepT B v t) (b : RepM B l mm) : RepM B ((x, v) :: l) (fun y => if y = x then some (v.conc t) else mm y) := by
  intro y u e
  simp only [lk] at e
  by_cases hx : y = x
  · simp only [hx, if_true, Option.some.injEq] at e ⊢; subst e; exact ⟨t, rfl, a⟩
  · simp only [hx, if_false] at e ⊢; exact b y u e
/-- what a new cell holds -/
noncomputable def CellRep (B : Bs) : Option V → Option Value → Prop
  | none, x => x = none
  | some v, x => ∃ t, x = some (v.conc t) ∧ RepT B v t

/-- a call of a def whose names are kept in cells -/
theorem r_enterC {f : Addr} {oc : Value} {od : Option Addr} {osl : Array (Option Value)} {name : Str} {params : Arguments} {body : List Stmt} {dV kV doc pm cdv ct : Value} {an : Option Addr} {n : Nat}
    {args : List Value} {binds : List (Str × Value)} {l : List (Str × V)} {cs : Nat → List (Str × Nat)} {cv : Str → Option V} {Q : Value → Shared → Prop}
    (AO : AOk A (n + 1)) (S : Stat K K₀) (R : Rep K₀ led tmp s.heap)
    (ho : K.lookup f = some ⟨oc, od, .func (fnX name qual params body scope [] dV kV doc pm an cdv ct), osl⟩) (hcd : codeIn K cdv qual = true)
    (hbind : bindArgs (fnX name qual params body scope [] dV kV doc pm an cdv ct) ⟨args, []⟩ = pure binds)
    (hcs : ∀ L, cellsFrom (L + 1) scope.names [] = cs L) (hcu : ∀ L, ∀ p ∈ cs L, (cs L).lookup p.1 = some p.2)
    (hkind : ∀ L, ∀ x ∈ binds, scope.names.lookup x.1 = some .local ∨ (scope.names.lookup x.1 = some .cell ∧ ((cs L).lookup x.1).isSome = true))
    (hrep : ∀ B, (∀ p ∈ tmp, RepT B p.1 p.2) → RepM B l (bindL (fun x => scope.names.lookup x) binds fun _ => none))
    (hrepC : ∀ B, (∀ p ∈ tmp, RepT B p.1 p.2) → ∀ L, ∀ p ∈ cs L, CellRep B (cv p.1) (bindC (fun x => scope.names.lookup x) binds (fun _ => none) p.1))
    (h : ∀ L h₁ tk env A', AOk A' n → EnvOk env scope L (cs L) (qual ++ ".<locals>.") cdv → Rep K₀ ((L, .ns l) :: (((cs L).map fun p => (p.2, Mo.cell (cv p.1))) ++ led)) tmp h₁ →
      wpAny (model prog w) A' (execs body env) (fun fl s' => Q (match fl with | .ret v => v | _ => .none) s') (fun _ _ => False) (St s h₁ tk))
    (hco : scope.isCoroutine = false := by rfl) (hgen : scope.isGenerator = false := by rfl) (hk : scope.kind = .function := by rfl) :
    wpAny (model prog w) A (call (.ref f) args) Q E s := by
  have S' := R.stat S
  refine wpAny_call (codeAny_call_cells (body := body) AO.room (S'.x _ _ ho) rfl S'.lim (codeRec_of S'.x hcd) rfl hbind rfl (fun x hx => ?_) (fun s₁ X => ?_) hco hgen hk)
  · have := hkind s.heap.objs.size x hx
    rw [← hcs] at this
    exact this
  obtain ⟨⟨h', tk, rfl, k⟩, hns⟩ : (∃ h' tk, s₁ = (St s h' tk) ∧ ∀ b o, s.heap.get? b = some o → h'.get? b = some o) ∧ s₁.heap.Ns s.heap.objs.size (bindL (fun x => scope.names.lookup x) binds fun _ => none) := ⟨X.done, X.toInCall.ns⟩
  have hcsE : (callEnvC (fnX name qual params body scope [] dV kV doc pm an cdv ct) s.heap.objs.size f).cells = cs s.heap.objs.size := hcs _
  refine wpAny_mono (h s.heap.objs.size h' tk _ _ AO.deeper ⟨rfl, rfl, rfl, hcsE, rfl, rfl, rfl, hk⟩ ?_) (fun fl s' hq => hq) fun _ _ f => f.elim
  have fresh : ∀ a, s.heap.objs.size ≤ a → s.heap.get? a = none := fun a ha => by
    cases e : s.heap.get? a with
    | none => rfl
    | some o' => exact absurd (Heap.lt_size e) (Nat.not_lt.mpr ha)
  have XC := X.cell
  have XA := X.apart
  have XB := X.above
  rw [hcsE] at XC XA XB
  rw [← List.cons_append]
  refine R.freshL k (fun p hp => ?_) (List.pairwise_cons.mpr ⟨fun p hp => ?_, ?_⟩) fun B RB p hp => ?_
  · rcases List.mem_cons.mp hp with rfl | hp
    · exact fresh _ (Nat.le_refl _)
    · obtain ⟨q, hq, rfl⟩ := List.mem_map.mp hp
      exact fresh _ (Nat.le_of_lt (XB q.1 q.2 hq))
  · obtain ⟨q, hq, rfl⟩ := List.mem_map.mp hp
    exact Nat.ne_of_gt (XB q.1 q.2 hq)
  · exact List.pairwise_map.mpr (XA.imp fun {a b} h => Ne.symm h)
  · rcases List.mem_cons.mp hp with rfl | hp
    · exact ⟨_, hns, hrep B RB.tmp⟩
    · obtain ⟨q, hq, rfl⟩ := List.mem_map.mp hp
      have hc := XC q.1 q.2 (hcu _ q hq)
      have hr := hrepC B RB.tmp _ q hq
      show MoRep B h' q.2 (.cell (cv q.1))
      change h'.IsCell q.2 (bindC (fun x => scope.names.lookup x) binds (fun _ => none) q.1) at hc
      cases e : cv q.1 with
      | none => rw [e] at hr; rw [show bindC _ _ _ _ = none from hr] at hc; exact hc
      | some v => rw [e] at hr; obtain ⟨t, e2, r⟩ := hr; rw [e2] at hc; exact ⟨t, hc, r⟩

/-- a store to a cell's name -/
theorem r_storeC {x : Str} {c : Nat} {v₀ : Option V} {v : V} {y : Value} {pre post : List (Nat × Mo)} {Q : Unit → Shared → Prop} (EO : EnvOk env scope L cl qual code) (R : Rep K₀ (pre ++ (c, .cell v₀) :: post) tmp s.heap)
    (hx : scope.names.lookup x = some .cell) (hc : cl.lookup x = some c) (hv : Bear tmp v y)
    (h : ∀ h', Rep K₀ (pre ++ (c, .cell (some v)) :: post) tmp h' → Q () (St s h' s.toks)) :
    wpAny (model prog w) A (storeName env x y) Q E s := by
  have R' := R.up
  obtain ⟨B, RB⟩ := R'
  have hcell : ∃ y₀, s.heap.IsCell c y₀ := by
    have := RB.led.1.2.2.1
    cases v₀ with
    | none => exact ⟨_, this⟩
    | some u => obtain ⟨t, e, _⟩ := this; exact ⟨_, e⟩
  obtain ⟨y₀, hy⟩ := hcell
  refine wpAny_storeName_cell EO.fn (by rw [EO.ofKind]; exact hx) (by rw [EO.ce]; exact hc) hy fun h' hc' hs' => h h' ?_
  refine Rep.down (Rep.upd ⟨B, RB⟩ (fun b o hb e => hs'.extBut b o hb e) fun B' RB' => ?_)
  obtain ⟨t, rfl, rt⟩ := hv B' RB'.tmp
  exact ⟨t, hc', rt⟩
end
end Mine

/-! V7 -/
namespace Mine

theorem codeAmong_append {p : Pos} {r : List Value} (l : List Value) (h : TriplesOk l) : codeAmong p (l ++ r) = match codeAmong p l with | some c => some c | none => codeAmong p r := by
  fun_induction TriplesOk l with
  | case1 => simp [codeAmong]
  | case2 a t b u x rest ih =>
    simp only [List.cons_append, codeAmong]
    split
    · rfl
    · exact ih h
  | case3 l h1 h2 => exact h.elim
theorem Sites.get {B : Bs} {ps : Array Value} : ∀ {l : List (Pos × Str)} {s : Pos × Str}, Sites B ps l → s ∈ l →
    codeAmong s.1 ps.toList = none ∨ ∃ c oc vs t, codeAmong s.1 ps.toList = some (.ref c) ∧ B c = some oc ∧ oc.data = .fields vs ∧ vs[1]? = some (.str s.2 t)
  | _ :: _, _, ⟨a, _⟩, .head _ => a
  | _ :: _, _, ⟨_, b⟩, .tail _ h => Sites.get b h
theorem Sites.snoc {B B' : Bs} {ps : Array Value} {pos : Pos} {q : Str} {c : Nat} {oc : Obj} {vs : Array Value} {t : Nat} (ht : TriplesOk ps.toList) (k : ∀ a o, B a = some o → B' a = some o)
    (hc : B' c = some oc) (hd : oc.data = .fields vs) (hv : vs[1]? = some (.str q t)) : ∀ {l : List (Pos × Str)}, (∀ s ∈ l, s.1.line = pos.line → s.1.col = pos.col → s.2 = q) → Sites B ps l →
    Sites B' (ps ++ #[rawInt pos.line, rawInt pos.col, .ref c]) l
  | [], _, _ => trivial
  | s :: r, hu, ⟨a, b⟩ => by
    refine ⟨?_, Sites.snoc ht k hc hd hv (fun x hx => hu x (.tail _ hx)) b⟩
    rw [Array.toList_append, codeAmong_append _ ht]
    rcases a with a | ⟨c1, oc1, vs1, t1, e1, e2, e3, e4⟩
    · rw [a]
      simp only [codeAmong, rawInt]
      by_cases hh : ((pos.line : Int) == s.1.line && (pos.col : Int) == s.1.col) = true
      · refine .inr ⟨c, oc, vs, t, if_pos hh, hc, hd, ?_⟩
        simp only [Bool.and_eq_true, beq_iff_eq, Int.natCast_inj] at hh
        rw [hu s (.head _) hh.1.symm hh.2.symm]; exact hv
      · exact .inl (if_neg hh)
    · rw [e1]
      exact .inr ⟨c1, oc1, vs1, t1, rfl, k _ _ e2, e3, e4⟩

section
variable {prog : Program} {w : World} {A : Around} {E : Value → Shared → Prop} {s : Shared} {K : Frag} {K₀ : Heap} {led : List (Nat × Mo)} {tmp : List (V × Nat)}
  {env : Env} {scope : Scope} {L : Nat} {cl : List (Str × Addr)} {qual : Str} {code : Value}

theorem Rep.updPut {a c : Nat} {mo mo' : Mo} {oc : Obj} {h h' : Heap} (R : Rep K₀ ((a, mo) :: led) tmp h) (k : ∀ b o, b ≠ a → h.get? b = some o → h'.get? b = some o) (hc0 : h.get? c = none) (hc : h'.get? c = some oc)
    (hm : ∀ B, RepB K₀ B ((a, mo) :: led) tmp h → (∀ b x, B b = some x → B.put c oc b = some x) → MoRep (B.put c oc) h' a mo') : Rep K₀ ((a, mo') :: led) tmp h' := by
  obtain ⟨B, RB⟩ := R
  have hn : B c = none := by
    cases q : B c with
    | none => rfl
    | some x => have := RB.base c x q; rw [hc0] at this; cases this
  have le := Bs.put_le (o := oc) hn
  have hm' := hm B RB le
  obtain ⟨a1, b1, c1, ⟨d1, d2, d3, d4⟩, e1⟩ := RB
  have off : ∀ x o, h.get? x = some o → x ≠ c := fun x o e q => by rw [q, hc0] at e; cases e
  refine ⟨B.put c oc, fun x o e => k x o (fun q => by rw [q, d2] at e; cases e) (a1 x o e), fun x o e => ?_, fun p hp => RepT.mono le _ (c1 p hp), ⟨?_, d2, hm', d4⟩, ?_⟩
  · by_cases q : x = c
    · subst q; rw [Bs.put_self] at e; cases e; exact hc
    · have e' : B x = some o := by simpa [Bs.put, q] using e
      exact k x o (fun q => by rw [q, d1] at e'; cases e') (b1 x o e')
  · obtain ⟨y, e4⟩ := d3.here
    simpa [Bs.put, off _ _ e4] using d1
  · refine e1.at (fun p hp o e => k _ o (d4 p hp) e) le fun p hp => ?_
    obtain ⟨x1, x2, x3⟩ := e1.mem hp
    obtain ⟨y, e4⟩ := x3.here
    simpa [Bs.put, off _ _ e4] using x1

theorem stat_bm (S : Stat K K₀) {P c : Nat} {sites : List (Pos × Str)} {h : Heap} (R : Rep K₀ ((P, .tab sites) :: led) tmp h) (hC : CodeHd K₀ c P) :
    ∃ mg, h.Ns mainGlobals mg ∧ h.BuiltinsAt mg P ∧ mainGlobals ≠ P ∧ CodeHd h c P := by
  obtain ⟨X, p, loose, mean, mg, mb, T⟩ := S
  obtain ⟨B, RB⟩ := R
  obtain ⟨ps, hP, _⟩ := RB.led.1.2.2.1
  have hnone := RB.led.1.2.1
  have hgs := T.g.keeps RB.keep
  obtain ⟨bm, ob, b1, b2, b3, b4, b5, b6⟩ := T.bmain
  have hgP : mainGlobals ≠ P := fun q => by
    obtain ⟨o, es, ep, e, hd, _⟩ := hgs
    rw [q, hP] at e; cases e; cases hd
  have hbP : bm ≠ P := fun q => by
    have e := RB.keep _ _ b3
    rw [q, hP] at e; cases e; cases b4
  have hbG : bm ≠ mainGlobals := fun q => by
    obtain ⟨o, es, ep, e, hd, _⟩ := T.g
    rw [q, e] at b3; cases b3; rw [hd] at b6; cases b6
  exact ⟨mg, hgs, ⟨bm, ob, b1, b2, hbG, hbP, RB.keep _ _ b3, b4, b5, b6⟩, hgP, hC.keeps RB.keep⟩

/-- a new function object, its code known to the table -/
theorem Rep.pushFn {P c' : Nat} {sites : List (Pos × Str)} {h h' : Heap} {ps : Array Value} {pos : Pos} {fd : FuncData} {o : Obj} (R : Rep K₀ ((P, .tab sites) :: led) tmp h) (k : ∀ b x, h.get? b = some x → h'.get? b = some x) (hsz : h.objs.size ≤ h'.objs.size)
    (hP : h.get? P = some (tabObj ps)) (hs : (pos, fd.qualname) ∈ sites) (hf : codeAmong pos ps.toList = some (.ref c')) (hcd : fd.code = .ref c') (ho : o = ⟨.type "function", none, .func fd, #[]⟩) :
    Rep K₀ ((h'.objs.size, .fn fd) :: (P, .tab sites) :: led) tmp (h'.push o) := by
  have R' := R.keeps k
  refine R'.fresh (push_keeps _ _) (Rep.none_at_size _) fun B RB => ?_
  obtain ⟨ps', hP', ht, st⟩ := RB.led.1.2.2.1
  have e : ps' = ps := by
    have := k _ _ hP
    rw [hP'] at this
    simp only [tabObj, Option.some.injEq, Obj.mk.injEq, Data.fields.injEq, true_and, and_true] at this
    exact this
  subst e
  subst ho
  refine ⟨⟨_, _, _, Heap.get?_push_size _ rfl⟩, ?_⟩
  rcases st.get hs with n | ⟨c1, oc, vs, t, e1, e2, e3, e4⟩
  · rw [hf] at n; cases n
  · rw [hf] at e1; cases e1
    exact ⟨c', oc, vs, t, hcd, e2, e3, e4⟩
theorem Rep.tabSnoc {P c' : Nat} {sites : List (Pos × Str)} {h h' : Heap} {ps : Array Value} {pos : Pos} {q : Str} (R : Rep K₀ ((P, .tab sites) :: led) tmp h) (hx : Heap.ExtBut P h h') (hge : h.objs.size ≤ c') (hrec : h'.CodeRec (.ref c') q)
    (hP : h.get? P = some (tabObj ps)) (htb : h'.get? P = some (tabObj (ps ++ #[rawInt pos.line, rawInt pos.col, .ref c']))) (hu : ∀ s ∈ sites, s.1.line = pos.line → s.1.col = pos.col → s.2 = q) :
    Rep K₀ ((P, .tab sites) :: led) tmp h' := by
  obtain ⟨c2, oc, vs, t, e2, hoc, hd, hv⟩ := hrec
  cases e2
  have hc0 : h.get? c' = none := by
    cases e : h.get? c' with
    | none => rfl
    | some o' => exact absurd (Heap.lt_size e) (Nat.not_lt.mpr hge)
  refine R.updPut (c := c') (oc := oc) (fun b o hb e => hx b o hb e) hc0 hoc fun B RB le => ?_
  obtain ⟨ps', hP', ht, st⟩ := RB.led.1.2.2.1
  have e : ps' = ps := by
    rw [hP] at hP'
    simp only [tabObj, Option.some.injEq, Obj.mk.injEq, Data.fields.injEq, true_and, and_true] at hP'
    exact hP'.symm
  subst e
  refine ⟨_, htb, ?_, Sites.snoc ht le (Bs.put_self _ _ _) hd hv hu st⟩
  rw [Array.toList_append]; exact TriplesOk_snoc _ _ _ _ ht

theorem closureFor_cells {sc : Scope} (EO : EnvOk env scope L cl qual code) : closureFor sc env = closureFor sc { (default : Env) with cells := cl } := by
  have e : cl = env.cells := EO.ce.symm
  subst e
  rfl

theorem r_mkDef {P c : Nat} {sites : List (Pos × Str)} {name q : Str} {params : Arguments} {body : List Stmt} {sc : Scope} {pos : Pos} {fl : Nat} {clos : List (Str × Addr)} {Q : Value → Shared → Prop}
    (EO : EnvOk env scope L cl qual (.ref c)) (S : Stat K K₀) (hC : CodeHd K₀ c P) (R : Rep K₀ ((P, .tab sites) :: led) tmp s.heap) (hs : (pos, q) ∈ sites) (hu : ∀ s ∈ sites, s.1.line = pos.line → s.1.col = pos.col → s.2 = q)
    (hcl : closureFor sc { (default : Env) with cells := cl } = pure clos)
    (h : ∀ f h' tk pm doc c' ctv, Rep K₀ ((f, .fn (fnX name q params body sc clos .none .none doc pm none (.ref c') ctv)) :: (P, .tab sites) :: led) tmp h' → Q (.ref f) (St s h' tk)) :
    wpAny (model prog w) A (makeFunction name q params (.stmts body) sc env [] [] [] pos fl) Q E s := by
  obtain ⟨mg, hgs, hbm, hgP, hCh⟩ := stat_bm S R hC
  have hcl' := (closureFor_cells (sc := sc) EO).trans hcl
  have R0 := R
  obtain ⟨B, RB⟩ := R
  obtain ⟨ps, hP, ht, st⟩ := RB.led.1.2.2.1
  rcases st.get hs with hn | ⟨c1, oc, vs, t, e1, _, _, _⟩
  · refine makeFunction_K (mg := mg) hcl' EO.gl hgs EO.co hCh hP ht hn hgP hbm fun c' ctv doc h' tk hx hge hlt hrec htb => ?_
    have R1 := R0.tabSnoc hx hge hrec hP htb hu
    refine h _ _ _ _ _ c' _ (R1.pushFn (fun _ _ e => e) (Nat.le_refl _) htb (pos := pos) (c' := c') hs ?_ rfl rfl)
    rw [Array.toList_append]; exact codeAmong_snoc _ ht hn
  · refine makeFunction_hit (mg := mg) hcl' EO.gl hgs EO.co hCh hP ht e1 hbm fun ctv doc h' tk hk hsz => ?_
    exact h _ _ _ _ _ c1 _ (R0.pushFn hk hsz hP (pos := pos) (c' := c1) hs e1 rfl rfl)
theorem r_mkLam {P c : Nat} {sites : List (Pos × Str)} {name q : Str} {params : Arguments} {body : Expr} {sc : Scope} {pos : Pos} {fl : Nat} {clos : List (Str × Addr)} {Q : Value → Shared → Prop}
    (EO : EnvOk env scope L cl qual (.ref c)) (S : Stat K K₀) (hC : CodeHd K₀ c P) (R : Rep K₀ ((P, .tab sites) :: led) tmp s.heap) (hs : (pos, q) ∈ sites) (hu : ∀ s ∈ sites, s.1.line = pos.line → s.1.col = pos.col → s.2 = q)
    (hcl : closureFor sc { (default : Env) with cells := cl } = pure clos)
    (h : ∀ f h' tk pm c' ctv, Rep K₀ ((f, .fn (kla_fn name q params body sc clos pm (.ref c') ctv)) :: (P, .tab sites) :: led) tmp h' → Q (.ref f) (St s h' tk)) :
    wpAny (model prog w) A (makeFunction name q params (.expr body) sc env [] [] [] pos fl) Q E s := by
  obtain ⟨mg, hgs, hbm, hgP, hCh⟩ := stat_bm S R hC
  have hcl' := (closureFor_cells (sc := sc) EO).trans hcl
  have R0 := R
  obtain ⟨B, RB⟩ := R
  obtain ⟨ps, hP, ht, st⟩ := RB.led.1.2.2.1
  rcases st.get hs with hn | ⟨c1, oc, vs, t, e1, _, _, _⟩
  · refine kla_makeFunction (mg := mg) hcl' EO.gl hgs EO.co hCh hP ht hn hgP hbm fun c' ctv h' tk hx hge hlt hrec htb => ?_
    have R1 := R0.tabSnoc hx hge hrec hP htb hu
    refine h _ _ _ _ c' _ (R1.pushFn (fun _ _ e => e) (Nat.le_refl _) htb (pos := pos) (c' := c') hs ?_ rfl rfl)
    rw [Array.toList_append]; exact codeAmong_snoc _ ht hn
  · refine kla_makeFunctionHit (mg := mg) hcl' EO.gl hgs EO.co hCh hP ht e1 hbm fun ctv h' tk hk hsz => ?_
    exact h _ _ _ _ c1 _ (R0.pushFn hk hsz hP (pos := pos) (c' := c1) hs e1 rfl rfl)

/-- a call of a def that the ledger keeps: no cells of its own, free names from its closure -/
theorem r_enterF {f : Nat} {name q : Str} {params : Arguments} {body : List Stmt} {sc : Scope} {clos : List (Str × Addr)} {dV kV doc pm cdv ct : Value} {n : Nat}
    {args : List Value} {binds : List (Str × Value)} {l : List (Str × V)} {Q : Value → Shared → Prop}
    (AO : AOk A (n + 1)) (S : Stat K K₀) (R : Rep K₀ led tmp s.heap) (hf : (f, Mo.fn (fnX name q params body sc clos dV kV doc pm none cdv ct)) ∈ led)
    (hbind : BindsTo s (fnX name q params body sc clos dV kV doc pm none cdv ct) ⟨args, []⟩ binds)
    (hcell : ∀ x ∈ sc.names, x.2 ≠ .cell) (hloc : ∀ x ∈ binds, sc.names.lookup x.1 = some .local) (hrep : Binds tmp l binds.reverse)
    (h : ∀ L h₁ tk env A', AOk A' n → EnvOk env sc L clos (q ++ ".<locals>.") cdv → Rep K₀ ((L, .ns l) :: led) tmp h₁ →
      wpAny (model prog w) A' (execs body env) (fun fl s' => Q (match fl with | .ret v => v | _ => .none) s') (fun _ _ => False) (St s h₁ tk))
    (hco : sc.isCoroutine = false := by rfl) (hgen : sc.isGenerator = false := by rfl) (hk : sc.kind = .function := by rfl) :
    wpAny (model prog w) A (call (.ref f) args) Q E s := by
  have S' := R.stat S
  have R0 := R
  obtain ⟨B, RB⟩ := R
  obtain ⟨_, _, ⟨oc, od, sl, e⟩, c, o2, vs, t, e1, e2, e3, e4⟩ := RB.led.mem hf
  refine wpAny_call (codeAny_call_def (body := body) AO.room e rfl S'.lim ⟨c, o2, vs, t, e1, RB.base _ _ e2, e3, e4⟩ rfl hbind hcell hloc (fun h₀ hns hk₀ => ?_) hco hgen hk)
  refine wpAny_mono (h s.heap.objs.size h₀ _ _ _ AO.deeper ⟨rfl, rfl, rfl, rfl, rfl, rfl, rfl, hk⟩ ?_) (fun fl s' hq => hq) fun _ _ f => f.elim
  exact R0.fresh hk₀ (Rep.none_at_size _) fun B RB => ⟨_, hns, fun x v e => (hrep B RB.tmp).get x v e⟩
/-- a call of a lambda that the ledger keeps -/
theorem r_enterL {f : Nat} {name q : Str} {params : Arguments} {body : Expr} {sc : Scope} {clos : List (Str × Addr)} {pm cdv ct : Value} {n : Nat}
    {args : List Value} {binds : List (Str × Value)} {l : List (Str × V)} {Q : Value → Shared → Prop}
    (AO : AOk A (n + 1)) (S : Stat K K₀) (R : Rep K₀ led tmp s.heap) (hf : (f, Mo.fn (kla_fn name q params body sc clos pm cdv ct)) ∈ led)
    (hbind : bindArgs (kla_fn name q params body sc clos pm cdv ct) ⟨args, []⟩ = pure binds)
    (hcell : ∀ x ∈ sc.names, x.2 ≠ .cell) (hloc : ∀ x ∈ binds, sc.names.lookup x.1 = some .local) (hrep : Binds tmp l binds.reverse)
    (h : ∀ L h₁ tk env A', AOk A' n → EnvOk env sc L clos (q ++ ".<locals>.") cdv → Rep K₀ ((L, .ns l) :: led) tmp h₁ →
      wpAny (model prog w) A' (eval body env) Q (fun _ _ => False) (St s h₁ tk))
    (hco : sc.isCoroutine = false := by rfl) (hgen : sc.isGenerator = false := by rfl) (hk : sc.kind = .function := by rfl) :
    wpAny (model prog w) A (call (.ref f) args) Q E s := by
  have S' := R.stat S
  have R0 := R
  obtain ⟨B, RB⟩ := R
  obtain ⟨_, _, ⟨oc, od, sl, e⟩, c, o2, vs, t, e1, e2, e3, e4⟩ := RB.led.mem hf
  refine wpAny_call (kla_callFunE AO.room e rfl hco hgen rfl ⟨c, o2, vs, t, e1, RB.base _ _ e2, e3, e4⟩ ?_)
  rw [hbind]
  refine wpAny_pure (wpAny_newFunctionEnv hcell hloc (fun h₁ hns hsb => ⟨S'.lim.fresh _ hsb, kla_codeExpr ?_⟩) hk)
  refine wpAny_mono (h s.heap.objs.size h₁ _ _ _ AO.deeper ⟨rfl, rfl, rfl, rfl, rfl, rfl, rfl, hk⟩ ?_) (fun v s' hq => hq) fun _ _ f => f.elim
  exact R0.fresh (fun b o e => hsb.extBut b o (Nat.ne_of_lt (Heap.lt_size e)) (Heap.get?_push_of_some _ e)) (Rep.none_at_size _) fun B RB => ⟨_, hns, fun x v e => (hrep B RB.tmp).get x v e⟩
end
end Mine

/-! V8 -/
namespace Mine
section
variable {prog : Program} {w : World} {A : Around} {E : Value → Shared → Prop} {s : Shared} {K : Frag} {K₀ : Heap} {led : List (Nat × Mo)} {tmp : List (V × Nat)}
  {env : Env} {scope : Scope} {L : Nat} {cl : List (Str × Addr)} {qual : Str} {code : Value} {n : Nat}

/-- an iterator that hands on these items; ob i: how it lies before the i-th; tp: what it leans on -/
structure Iter (prog : Program) (w : World) (A : Around) (K₀ : Heap) (I : Nat) (items : List V) (tp : List (V × Nat)) (ob : Nat → Mo) : Prop where
  item : ∀ i v led tmp (s : Shared) (Q : Option Value → Shared → Prop) E, items[i]? = some v → Rep K₀ ((I, ob i) :: led) tmp s.heap → (∀ p ∈ tp, p ∈ tmp) →
    (∀ h' tk t, Rep K₀ ((I, ob (i + 1)) :: led) ((v, t) :: tmp) h' → Q (some (v.conc t)) (St s h' tk)) → wpAny (model prog w) A (pyNext (.ref I)) Q E s
  done : ∀ led tmp (s : Shared) (Q : Option Value → Shared → Prop) E, Rep K₀ ((I, ob items.length) :: led) tmp s.heap → (∀ p ∈ tp, p ∈ tmp) →
    (∀ h' tk, Rep K₀ led tmp h' → Q none (St s h' tk)) → wpAny (model prog w) A (pyNext (.ref I)) Q E s

theorem Rep.lose {a : Nat} {mo : Mo} {h h' : Heap} (R : Rep K₀ ((a, mo) :: led) tmp h) (k : Heap.ExtBut a h h') : Rep K₀ led tmp h' := by
  obtain ⟨B, a1, b1, c1, ⟨d1, d2, d3, d4⟩, e1⟩ := R
  refine ⟨B, fun x o e => k x o (fun q => by rw [q, d2] at e; cases e) (a1 x o e), fun x o e => k x o (fun q => by rw [q, d1] at e; cases e) (b1 x o e), c1, ?_⟩
  exact e1.at (fun p hp o e => k _ o (d4 p hp) e) (fun _ _ e => e) fun p hp => (e1.mem hp).1

theorem Iter.list (AO : AOk A n) {I a : Nat} {vs : List V} : Iter prog w A K₀ I vs [(.lst vs, a)] fun i => .it "list_iterator" #[.ref a, .int i 0] where
  item := fun i v led tmp s Q E hv R ht hQ => by
    have R0 := R
    obtain ⟨B, RB⟩ := R
    obtain ⟨items, hl, rl⟩ := (RB.tmp _ (ht _ (.head _))).isList RB.base
    obtain ⟨t, e, r⟩ := rl.get hv
    refine wpAny_pyNext_list_item (i := i) (l := a) RB.led.1.2.2.1 hl (by simpa using e) fun h' hit hs => hQ h' s.toks t ?_
    refine Rep.upd (mo := .it "list_iterator" #[.ref a, .int i 0]) ⟨B, RB.keep, RB.base, ?_, RB.led⟩ (fun b o hb e => hs.extBut b o hb e) fun B' RB' => ?_
    · intro p hp
      rcases List.mem_cons.mp hp with rfl | hp
      · exact r
      · exact RB.tmp p hp
    · obtain ⟨o, e, c, d⟩ := hit
      exact ⟨o, e, c, by rw [d]⟩
  done := fun led tmp s Q E R ht hQ => by
    have R0 := R
    obtain ⟨B, RB⟩ := R
    obtain ⟨items, hl, rl⟩ := (RB.tmp _ (ht _ (.head _))).isList RB.base
    refine wpAny_pyNext_list_end AO.handled (i := vs.length) (l := a) RB.led.1.2.2.1 hl ?_ fun h' hx => hQ h' s.toks (R0.lose hx)
    have := rl.length
    simp only [Array.length_toList] at this
    simp [this]
theorem Iter.rev (AO : AOk A n) {I a : Nat} {vs : List V} : Iter prog w A K₀ I vs.reverse [(.lst vs, a)] fun i => .it "list_reverseiterator" #[.ref a, rawInt ((vs.length : Int) - 1 - i)] where
  item := fun i v led tmp s Q E hv R ht hQ => by
    have hi : i < vs.length := by
      have := List.getElem?_eq_some_iff.mp hv; simpa using this.1
    have hv' : vs[vs.length - 1 - i]? = some v := by rw [List.getElem?_reverse hi] at hv; exact hv
    obtain ⟨B, RB⟩ := R
    obtain ⟨items, hl, rl⟩ := (RB.tmp _ (ht _ (.head _))).isList RB.base
    obtain ⟨t, e, r⟩ := rl.get hv'
    have hj : (vs.length : Int) - 1 - i = ((vs.length - 1 - i : Nat) : Int) := by exact om491 hi
    have hm := RB.led.1.2.2.1
    simp only [hj] at hm
    refine wpAny_pyNext_rev_item (i := vs.length - 1 - i) (l := a) hm hl (by simpa using e) fun h' hit hs => hQ h' s.toks t ?_
    refine Rep.upd (mo := .it "list_reverseiterator" #[.ref a, rawInt ((vs.length : Int) - 1 - i)]) ⟨B, RB.keep, RB.base, ?_, RB.led⟩ (fun b o hb e => hs.extBut b o hb e) fun B' RB' => ?_
    · intro p hp
      rcases List.mem_cons.mp hp with rfl | hp
      · exact r
      · exact RB.tmp p hp
    · obtain ⟨o, e, c, d⟩ := hit
      refine ⟨o, e, c, ?_⟩
      rw [d]
      have : ((vs.length - 1 - i : Nat) : Int) - 1 = (vs.length : Int) - 1 - ((i + 1 : Nat) : Int) := by exact om492 hj
      rw [this]
  done := fun led tmp s Q E R ht hQ => by
    have R0 := R
    obtain ⟨B, RB⟩ := R
    have hm := RB.led.1.2.2.1
    have hj : (vs.length : Int) - 1 - (vs.reverse.length : Int) = -1 := by rw [List.length_reverse]; exact om493
    simp only [hj] at hm
    exact wpAny_pyNext_rev_end AO.handled (l := a) hm fun h' hx => hQ h' s.toks (R0.lose hx)
/-- the numbers from a on, k of them -/
noncomputable def rangeV (a : Int) (k : Nat) : List V := (List.range k).map fun i : Nat => .int (a + (i : Int))
theorem Iter.range (AO : AOk A n) {I : Nat} {a : Int} {k : Nat} : Iter prog w A K₀ I (rangeV a k) [] fun i => .obj { cls := .type "range_iterator", dict := none, data := .fields #[rawInt (a + i), rawInt ((k : Int) - i), rawInt 1], slots := #[] } where
  item := fun i v led tmp s Q E hv R _ hQ => by
    have hi : i < k := by
      have := List.getElem?_eq_some_iff.mp hv; simpa [rangeV] using this.1
    have hv' : v = .int (a + i) := by simp [rangeV, hi] at hv; exact hv.symm
    subst hv'
    have R0 := R
    obtain ⟨B, RB⟩ := R
    refine wpAny_pyNext_range_item (x := a + i) (left := (k : Int) - i) (step := 1) RB.led.1.2.2.1 (by exact om494 hi) fun h' hit hs => hQ h' _ s.toks ?_
    refine Rep.put (Rep.upd R0 (fun b o hb e => hs.extBut b o hb e) fun B' RB' => ?_) rfl
    have e1 : a + (i : Int) + 1 = a + ((i + 1 : Nat) : Int) := by exact om495
    have e2 : (k : Int) - i - 1 = (k : Int) - ((i + 1 : Nat) : Int) := by exact om496
    rw [e1, e2] at hit
    exact hit
  done := fun led tmp s Q E R _ hQ => by
    have R0 := R
    obtain ⟨B, RB⟩ := R
    refine wpAny_pyNext_range_end AO.handled (x := a + (rangeV a k).length) (left := (k : Int) - (rangeV a k).length) (step := 1) RB.led.1.2.2.1 (by simp [rangeV]) fun h' hx => hQ h' s.toks (R0.lose hx)

/-- a for whose turns go on -/
theorem r_forLoop {I : Nat} {items : List V} {tp : List (V × Nat)} {ob : Nat → Mo} {x : Str} {px : Pos} {body : List Stmt} {Q : Flow → Shared → Prop} (J : Nat → List (Str × V) → List (Nat × Mo) → Prop)
    (W : Iter prog w A K₀ I items tp ob) (EO : EnvOk env scope L cl qual code) (htp : ∀ p ∈ tp, p ∈ tmp) (hx : scope.names.lookup x = some .local)
    (turn : ∀ i v l led' t (s : Shared), items[i]? = some v → J i l led' → Rep K₀ ((L, .ns ((x, v) :: l)) :: (I, ob (i + 1)) :: led') ((v, t) :: tmp) s.heap →
      wpAny (model prog w) A (execs body env) (fun fl s' => fl = .next ∧ ∃ l2 led2 h' tk, J (i + 1) l2 led2 ∧ Rep K₀ ((L, .ns l2) :: (I, ob (i + 1)) :: led2) tmp h' ∧ s' = (St s h' tk)) (fun _ _ => False) s)
    {l : List (Str × V)} {led : List (Nat × Mo)} (h0 : J 0 l led) (R : Rep K₀ ((L, .ns l) :: (I, ob 0) :: led) tmp s.heap)
    (h : ∀ l led' h' tk, J items.length l led' → Rep K₀ ((L, .ns l) :: led') tmp h' → Q .next (St s h' tk)) :
    codeAny (model prog w) A (.forLoop (.Name x px) (.ref I) body [] env) (fun r s' => match r with | .ok f => Q f s' | .error e => cameBackBy (model prog w) A env E e s') s := by
  refine codeAny_forLoop (fun k s' => ∃ i l led' h' tk, k = items.length - i ∧ i ≤ items.length ∧ J i l led' ∧ Rep K₀ ((L, .ns l) :: (I, ob i) :: led') tmp h' ∧ s' = (St s h' tk)) ?_ items.length ⟨0, l, led, s.heap, s.toks, by exact om482, by exact om483, h0, R, rfl⟩
  rintro k s' ⟨i, l, led', h', tk, rfl, hi, hJ, R, rfl⟩
  by_cases hlt : i < items.length
  · refine W.item i items[i] _ tmp _ _ _ (by simp [hlt]) R.swap htp fun h₁ tk₁ t R₁ => ?_
    refine wpAny_assign_Name (r_store EO (v := items[i]) R₁.swap hx (Bear.mem (.head _)) fun h₂ tk₂ R₂ => ?_)
    refine wpAny_mono (turn i items[i] l led' t _ (by simp [hlt]) hJ R₂) (fun fl s₃ ⟨e, l2, led2, h₃, tk₃, hJ2, R₃, e3⟩ => ?_) fun _ _ f => f.elim
    subst e
    subst e3
    exact ⟨items.length - (i + 1), by exact om452 hlt, i + 1, l2, led2, h₃, tk₃, rfl, by exact om412 hlt, hJ2, R₃, rfl⟩
  · have e : i = items.length := by exact om453 hi hlt
    subst e
    refine W.done _ tmp _ _ _ R.swap htp fun h₁ tk₁ R₁ => ?_
    exact wpAny_execs_nil (h l led' _ _ hJ R₁)
end
end Mine

/-! V9 -/
namespace Mine
section
variable {prog : Program} {w : World} {A : Around} {E : Value → Shared → Prop} {s : Shared} {K : Frag} {K₀ : Heap} {led : List (Nat × Mo)} {tmp : List (V × Nat)}
  {env : Env} {scope : Scope} {L : Nat} {cl : List (Str × Addr)} {qual : Str} {code : Value} {n : Nat}

/-- a list of these items lies at a -/
noncomputable def LAt (K₀ : Heap) (led : List (Nat × Mo)) (tmp : List (V × Nat)) (a : Nat) (vs : List V) : Prop := ∀ B h, RepB K₀ B led tmp h → ∃ items, h.IsList a items ∧ RepL B vs items.toList
theorem LAt.ofTmp {a : Nat} {vs : List V} (h : (V.lst vs, a) ∈ tmp) : LAt K₀ led tmp a vs := fun _ _ RB => (RB.tmp _ h).isList RB.base
theorem LAt.ofLed {a : Nat} {vs : List V} (h : (a, Mo.list vs) ∈ led) : LAt K₀ led tmp a vs := fun _ _ RB => (RB.led.mem h).2.2
theorem LAt.ofPl {a : Nat} {vs : List V} (h : (a, Mo.pl vs) ∈ led) : LAt K₀ led tmp a vs := fun _ _ RB => by
  obtain ⟨_, _, items, n, e, r⟩ := RB.led.mem h
  exact ⟨items, ⟨_, e, rfl, n, rfl⟩, r⟩
theorem RepB.tailLed {B : Bs} {h : Heap} {p : Nat × Mo} (RB : RepB K₀ B (p :: led) tmp h) : RepB K₀ B led tmp h := ⟨RB.keep, RB.base, RB.tmp, RB.led.2⟩
theorem RepB.tailTmp {B : Bs} {h : Heap} {p : V × Nat} (RB : RepB K₀ B led (p :: tmp) h) : RepB K₀ B led tmp h := ⟨RB.keep, RB.base, fun q hq => RB.tmp q (.tail _ hq), RB.led⟩
theorem LAt.moreL {a : Nat} {vs : List V} {p : Nat × Mo} (h : LAt K₀ led tmp a vs) : LAt K₀ (p :: led) tmp a vs := fun B x RB => h B x RB.tailLed
theorem LAt.moreT {a : Nat} {vs : List V} {p : V × Nat} (h : LAt K₀ led tmp a vs) : LAt K₀ led (p :: tmp) a vs := fun B x RB => h B x RB.tailTmp

theorem r_item {value slice : Expr} {a : Nat} {i : Int} {u : Nat} {vs : List V} {v : V} {Q : Value → Shared → Prop} (R : Rep K₀ led tmp s.heap) (hm : LAt K₀ led tmp a vs)
    (h0 : 0 ≤ i) (hi : i < 2 ^ 62) (hv : vs[i.toNat]? = some v) (h : ∀ t, Rep K₀ led ((v, t) :: tmp) s.heap → Q (v.conc t) s)
    (hs : subscripted slice false (.ref a) (.int i u) = operate [.ref a, .int i u] (getItem (.ref a) (.int i u)) := by with_unfolding_all rfl) :
    wpAny (model prog w) A (subscriptTail value slice (.ref a) (.int i u)) Q E s := by
  obtain ⟨B, RB⟩ := R
  obtain ⟨items, hT, rl⟩ := hm B _ RB
  obtain ⟨t, e, r⟩ := rl.get hv
  refine tail_any hT.typeIs slot_list_getitem.lookup (wpAny_getItem_list hT h0 (by exact om487 h0 hi) (by simpa using e) (h t ?_)) hs
  exact ⟨B, RB.keep, RB.base, fun p hp => by rcases List.mem_cons.mp hp with rfl | hp; exact r; exact RB.tmp p hp, RB.led⟩
theorem r_len {a : Nat} {vs : List V} {Q : Value → Shared → Prop} (R : Rep K₀ led tmp s.heap) (hm : LAt K₀ led tmp a vs) (hl : vs.length < 2 ^ 62)
    (h : ∀ tk t, Q (.int vs.length t) (St s s.heap tk)) : wpAny (model prog w) A (call (.builtin "len") [.ref a]) Q E s := by
  obtain ⟨B, RB⟩ := R
  obtain ⟨items, hT, rl⟩ := hm B _ RB
  have e := rl.length
  rw [Array.length_toList] at e
  refine Calls.call_len_list hT (by exact om497 hl e) ?_
  rw [e]
  exact h _ _
theorem r_truthyL {a : Nat} {vs : List V} {Q : Bool → Shared → Prop} (R : Rep K₀ led tmp s.heap) (hm : LAt K₀ led tmp a vs) (hl : vs.length < 2 ^ 62)
    (h : ∀ tk, Q (!vs.isEmpty) (St s s.heap tk)) : wpAny (model prog w) A (truthy (.ref a)) Q E s := by
  obtain ⟨B, RB⟩ := R
  obtain ⟨items, hT, rl⟩ := hm B _ RB
  have e := rl.length
  rw [Array.length_toList] at e
  refine wpAny_truthy_list hT (by exact om497 hl e) ?_
  have : items.isEmpty = vs.isEmpty := by
    cases vs with
    | nil => simp at e; subst e; rfl
    | cons v r =>
      have h1 : items.size ≠ 0 := by rw [e]; simp
      have h2 : items ≠ #[] := fun q => h1 (by rw [q]; rfl)
      simp [h2]
  rw [this]
  exact h _
theorem RepL.set {B : Bs} : ∀ {vs : List V} {l : List Value} {i : Nat} {v : V} {t : Nat}, RepL B vs l → RepT B v t → RepL B (vs.set i v) (l.set i (v.conc t))
  | [], l, i, v, t, h, r => by simp only [RepL] at h; subst h; simp only [List.set_nil, RepL]
  | u :: vs, l, i, v, t, h, r => by
    simp only [RepL] at h
    obtain ⟨t0, r0, rfl, a, b⟩ := h
    cases i with
    | zero => simp only [List.set_cons_zero, RepL]; exact ⟨t, r0, rfl, r, b⟩
    | succ i => simp only [List.set_cons_succ, RepL]; exact ⟨t0, _, rfl, a, RepL.set b r⟩
/-- a store into a list that may change -/
theorem r_setItem {a : Nat} {vs : List V} {i : Int} {u : Nat} {v : V} {y : Value} {Q : Unit → Shared → Prop} (R : Rep K₀ ((a, .list vs) :: led) tmp s.heap) (h0 : 0 ≤ i) (hi : i < vs.length) (hl : vs.length < 2 ^ 62) (hv : Bear tmp v y)
    (h : ∀ h', Rep K₀ ((a, .list (vs.set i.toNat v)) :: led) tmp h' → Q () (St s h' s.toks)) : wpAny (model prog w) A (setItem (.ref a) (.int i u) y) Q E s := by
  have R0 := R
  obtain ⟨B, RB⟩ := R
  obtain ⟨items, hT, rl⟩ := RB.led.1.2.2.1
  have e := rl.length
  rw [Array.length_toList] at e
  refine wpAny_setItem_list hT h0 (by exact om498 hi hl e) (by exact om499 hi e) fun h' hl' hs => h h' (R0.upd (fun b o hb e => hs.extBut b o hb e) fun B' RB' => ?_)
  obtain ⟨items', hT', rl'⟩ := RB'.led.1.2.2.1
  have q : items' = items := by
    obtain ⟨o, e1, _, n1, e2⟩ := hT
    obtain ⟨o', e3, _, n2, e4⟩ := hT'
    rw [e1] at e3; cases e3; rw [e2] at e4; cases e4; rfl
  subst q
  obtain ⟨t, rfl, r⟩ := hv B' RB'.tmp
  refine ⟨_, hl', ?_⟩
  rw [Array.toList_setIfInBounds]
  exact rl'.set r
theorem RepL.replicate {B : Bs} {v : V} {t : Nat} (r : RepT B v t) : ∀ k, RepL B (List.replicate k v) (List.replicate k (v.conc t))
  | 0 => RepL.nil B
  | k + 1 => RepL.cons r (RepL.replicate r k)
theorem foldl_one {x : Value} : ∀ (k : Nat) (acc : Array Value), (List.foldl (fun x1 x2 => x1 ++ x2) acc (List.replicate k #[x])) = acc ++ (List.replicate k x).toArray
  | 0, acc => by simp
  | k + 1, acc => by
    rw [List.replicate_succ, List.foldl_cons, foldl_one k]
    apply Array.toList_inj.mp
    simp [List.replicate_succ]
/-- [0] * k -/
theorem r_mulList1 {a : Nat} {i : Int} {u : Nat} {x : Int} {Q : Value → Shared → Prop} (R : Rep K₀ ((a, .pl [.int i]) :: led) tmp s.heap) (h0 : 0 ≤ x) (hx : x ≤ 2 ^ 20)
    (h : ∀ b h', Rep K₀ ((b, .list (List.replicate x.toNat (.int i))) :: led) tmp h' → Q (.ref b) (St s h' s.toks)) : wpAny (model prog w) A (binaryOp .Mult (.ref a) (.int x u)) Q E s := by
  have R0 := R
  obtain ⟨B, RB⟩ := R
  obtain ⟨items, k, e, rl⟩ := RB.led.1.2.2.1
  obtain ⟨t, r, e2, rt, rn⟩ : ∃ t r, items.toList = (V.int i).conc t :: r ∧ RepT B (.int i) t ∧ RepL B [] r := by simpa only [RepL] using rl
  simp only [RepL] at rn
  subst rn
  have e3 : items = #[.int i t] := by apply Array.toList_inj.mp; rw [e2]
  subst e3
  have hsz : (#[Value.int i t] : Array Value).size = 1 := rfl
  have hq2 : x.toNat ≤ 2 ^ 20 := by exact om500 h0 hx
  refine wpAny_binaryOp_repeat_ref (T := "list") (U := "int") (by decide) ⟨_, e, rfl⟩ (fun s' => typeIs_int s' x u) noFill_list_mul F.fills_int_mul F.slot_int_rmul repeat_list F.slot_int_index.lookup
    (call_meets F.slot_int_rmul (typeIs_int s x u) F.entry_int_rmul (F.args_int_rmul_2 _ _) (int___rmul___int_list x u a #[.int i t] k)
      ⟨e, rfl, ⟨_, e, rfl⟩, call_meets F.slot_list_mul ⟨_, e, rfl⟩ F.entry_list_mul (F.args_list_mul_2 _ _)
        (AutoListH.list___mul___list_int_3 a #[.int i t] k x u (by simp [Builtin.List.listFitsIndex]; exact om501 h0 hx) (by rw [hsz]; exact om502 hq2) (by simp only [Builtin.List.listTooLong, sizeLine, hsz, decide_eq_true_eq]; exact om503 hq2))
        ⟨e, h _ _ ?_⟩⟩)
  have hk := push_keeps s.heap { cls := .type "list", data := .seq (List.foldl (fun x1 x2 => x1 ++ x2) #[] (List.replicate (if (#[Value.int i t] : Array Value).isEmpty = true then 0 else x.toNat) #[.int i t])) }
  refine Rep.fresh (R0.dropLed) hk (Rep.none_at_size _) fun B' RB' => ⟨_, ⟨_, Heap.get?_push_size _ rfl, rfl, _, rfl⟩, ?_⟩
  rw [show (if (#[Value.int i t] : Array Value).isEmpty = true then 0 else x.toNat) = x.toNat from by simp, foldl_one]
  simpa using RepL.replicate (v := .int i) (t := t) (by simp only [RepT]) x.toNat
theorem r_append {a : Nat} {vs : List V} {v : V} {y : Value} {Q : Value → Shared → Prop} (R : Rep K₀ ((a, .pl vs) :: led) tmp s.heap) (hl : vs.length ≤ 2 ^ 20) (hv : Bear tmp v y)
    (h : ∀ h', Rep K₀ ((a, .pl (vs ++ [v])) :: led) tmp h' → Q .none (St s h' s.toks)) : wpAny (model prog w) A (call (.builtin "list.append") [.ref a, y]) Q E s := by
  have R0 := R
  obtain ⟨B, RB⟩ := R
  obtain ⟨items, k, e, rl⟩ := RB.led.1.2.2.1
  have el := rl.length
  rw [Array.length_toList] at el
  refine wpAny_list_append_plain ⟨k, e⟩ (fun h' ⟨k', e'⟩ hs => h h' (R0.upd (fun b o hb e => hs.extBut b o hb e) fun B' RB' => ?_)) (by rw [el]; exact Nat.le_trans hl (by decide))
  obtain ⟨items', k2, e2, rl'⟩ := RB'.led.1.2.2.1
  have q : items' = items := by
    rw [e] at e2
    simp only [Option.some.injEq, Obj.mk.injEq, Data.seq.injEq, true_and, and_true] at e2
    exact e2.1.symm
  subst q
  obtain ⟨t, rfl, r⟩ := hv B' RB'.tmp
  refine ⟨_, k', e', ?_⟩
  rw [Array.toList_push]
  exact rl'.append (RepL.cons r (RepL.nil _))
theorem RepL.reverse {B : Bs} : ∀ {vs : List V} {l : List Value}, RepL B vs l → RepL B vs.reverse l.reverse
  | [], l, h => by simp only [RepL] at h; subst h; exact RepL.nil B
  | v :: vs, l, h => by
    simp only [RepL] at h
    obtain ⟨t, r, rfl, a, b⟩ := h
    rw [List.reverse_cons, List.reverse_cons]
    exact (RepL.reverse b).append (RepL.cons a (RepL.nil B))
theorem r_reverse {a : Nat} {vs : List V} {Q : Value → Shared → Prop} (R : Rep K₀ ((a, .pl vs) :: led) tmp s.heap) (hl : vs.length ≤ 2 ^ 20)
    (h : ∀ h', Rep K₀ ((a, .pl vs.reverse) :: led) tmp h' → Q .none (St s h' s.toks)) : wpAny (model prog w) A (call (.builtin "list.reverse") [.ref a]) Q E s := by
  have R0 := R
  obtain ⟨B, RB⟩ := R
  obtain ⟨items, k, e, rl⟩ := RB.led.1.2.2.1
  have el := rl.length
  rw [Array.length_toList] at el
  have hsz : items.size ≤ sizeLine := by rw [el]; exact Nat.le_trans hl (by decide)
  refine call_meets PySem.F.slot_list_reverse ⟨_, e, rfl⟩ PySem.F.entry_list_reverse (PySem.F.args_list_reverse_1 _) (PySem.AutoSeq1.list_reverse_list_0 a items k hsz) ⟨e, h _ (R0.upd (fun b o hb e => (Heap.SameBut.update ..).extBut b o hb e) fun B' RB' => ?_)⟩
  obtain ⟨items', k2, e2, rl'⟩ := RB'.led.1.2.2.1
  have q : items' = items := by
    rw [e] at e2
    simp only [Option.some.injEq, Obj.mk.injEq, Data.seq.injEq, true_and, and_true] at e2
    exact e2.1.symm
  subst q
  refine ⟨items'.toList.reverse.toArray, k, ?_, by simpa using rl'.reverse⟩
  rw [Heap.get?_update_self _ e (by rw [mapSeq_reverse]; rfl), mapSeq_reverse]
theorem RepL.take {B : Bs} : ∀ {vs : List V} {l : List Value} (k : Nat), RepL B vs l → RepL B (vs.take k) (l.take k)
  | _, _, 0, _ => by simp only [List.take_zero]; exact RepL.nil B
  | [], l, k + 1, h => by simp only [RepL] at h; subst h; simp only [List.take_nil]; exact RepL.nil B
  | v :: vs, l, k + 1, h => by
    simp only [RepL] at h
    obtain ⟨t, r, rfl, a, b⟩ := h
    simp only [List.take_succ_cons]
    exact RepL.cons a (RepL.take k b)
theorem RepL.drop {B : Bs} : ∀ {vs : List V} {l : List Value} (k : Nat), RepL B vs l → RepL B (vs.drop k) (l.drop k)
  | _, _, 0, h => by simpa only [List.drop_zero] using h
  | [], l, k + 1, h => by simp only [RepL] at h; subst h; simp only [List.drop_nil]; exact RepL.nil B
  | v :: vs, l, k + 1, h => by
    simp only [RepL] at h
    obtain ⟨t, r, rfl, a, b⟩ := h
    simp only [List.drop_succ_cons]
    exact RepL.drop k b
theorem r_insert {a : Nat} {vs : List V} {x : Int} {u : Nat} {v : V} {y : Value} {Q : Value → Shared → Prop} (R : Rep K₀ ((a, .pl vs) :: led) tmp s.heap) (hl : vs.length ≤ 2 ^ 20) (h0 : 0 ≤ x) (hx : x ≤ vs.length) (hv : Bear tmp v y)
    (h : ∀ h', Rep K₀ ((a, .pl (vs.take x.toNat ++ v :: vs.drop x.toNat)) :: led) tmp h' → Q .none (St s h' s.toks)) : wpAny (model prog w) A (call (.builtin "list.insert") [.ref a, .int x u, y]) Q E s := by
  have R0 := R
  obtain ⟨B, RB⟩ := R
  obtain ⟨items, k, e, rl⟩ := RB.led.1.2.2.1
  have el := rl.length
  rw [Array.length_toList] at el
  obtain ⟨li, rfl⟩ : ∃ li : List Value, items = li.toArray := ⟨items.toList, by rw [Array.toArray_toList]⟩
  have hsz : li.toArray.size ≤ sizeLine := by rw [el]; exact Nat.le_trans hl (by decide)
  refine call_meets PySem.F.slot_list_insert ⟨_, e, rfl⟩ PySem.F.entry_list_insert (PySem.F.args_list_insert_3 _ _ _) (PySem.AutoSeq1.list_insert_list_int_val_1 a _ k x u y (by simp [Builtin.List.listFitsIndex]; exact om504 hl h0 hx el) hsz) ⟨e, h _ (R0.upd (fun b o hb e => (Heap.SameBut.update ..).extBut b o hb e) fun B' RB' => ?_)⟩
  obtain ⟨items', k2, e2, rl'⟩ := RB'.led.1.2.2.1
  have q : items' = li.toArray := by
    rw [e] at e2
    simp only [Option.some.injEq, Obj.mk.injEq, Data.seq.injEq, true_and, and_true] at e2
    exact e2.1.symm
  subst q
  obtain ⟨t, rfl, r⟩ := hv B' RB'.tmp
  have hmin : min x.toNat li.toArray.size = x.toNat := by rw [el]; exact om505 hl hx el
  have hneg : ¬ x < 0 := by exact om506 h0
  refine ⟨(li.take x.toNat ++ v.conc t :: li.drop x.toNat).toArray, k + 1, ?_, by simpa using (RepL.take x.toNat rl').append (RepL.cons r (RepL.drop x.toNat rl'))⟩
  have key := PySem.IsL.update e (fun xs => (xs.extract 0 (if x < 0 then (x + (xs.size : Int)).toNat else min x.toNat xs.size)).push (v.conc t) ++ xs.extract (if x < 0 then (x + (xs.size : Int)).toNat else min x.toNat xs.size))
  rw [key]
  have hf : ((li.toArray.extract 0 (if x < 0 then (x + (li.toArray.size : Int)).toNat else min x.toNat li.toArray.size)).push (v.conc t) ++ li.toArray.extract (if x < 0 then (x + (li.toArray.size : Int)).toNat else min x.toNat li.toArray.size)) = (li.take x.toNat ++ v.conc t :: li.drop x.toNat).toArray := by
    rw [if_neg hneg, hmin]
    exact kl_ins_eq li x.toNat (v.conc t)
  rw [hf]
  have hne : ¬ ((li.take x.toNat ++ v.conc t :: li.drop x.toNat).toArray.size == li.toArray.size) = true := by
    simp
    exact om507
  rw [if_neg hne]
end
end Mine

/-! V10 -/
namespace Mine
/-- the first def within the def at a: its parameters, body, scope, place -/
noncomputable def innerIn : List Stmt → Option (Str × Arguments × List Stmt × Scope × Pos)
  | [] => none
  | .FunctionDef name args body _ _ _ sc _ _ pos :: _ => some (name, args, body, sc, pos)
  | _ :: r => innerIn r
noncomputable def innerOf (K : Frag) (a : Nat) : Option (Str × Arguments × List Stmt × Scope × Pos) := match K.lookup a with
  | some ⟨_, _, .func fd, _⟩ => (match fd.body with
    | .stmts b => innerIn b
    | _ => none)
  | _ => none
theorem inner_is {α : Type} {P : Prop} {l : Option α} {x y : α} (e : l = some x) (e' : l = some y) (k : x = y → P) : P := k (by rw [e] at e'; exact Option.some.inj e')

/-! ## digits -/
/-- k digits by 2 ^ n, the low one first -/
noncomputable def digs (n : Nat) : Int → Nat → List Int
  | _, 0 => []
  | x, k + 1 => x % 2 ^ n :: digs n (x / 2 ^ n) k
theorem digs_length (n : Nat) : ∀ (k : Nat) (x : Int), (digs n x k).length = k
  | 0, _ => rfl
  | k + 1, x => by simp [digs, digs_length n k]
theorem digs_append (n : Nat) : ∀ (a b : Nat) (x : Int), digs n x (a + b) = digs n (x % 2 ^ (a * n)) a ++ digs n (x / 2 ^ (a * n)) b
  | 0, b, x => by simp [digs]
  | a + 1, b, x => by
    have h1 : a + 1 + b = (a + b) + 1 := by exact om439
    rw [h1]
    simp only [digs, List.cons_append]
    have hp : (2 : Int) ^ ((a + 1) * n) = 2 ^ n * 2 ^ (a * n) := by rw [← Int.pow_add]; congr 1; rw [Nat.add_mul]; exact om299
    have e1 : x % 2 ^ ((a + 1) * n) % 2 ^ n = x % 2 ^ n := by rw [hp, Int.emod_emod_of_dvd _ (Int.dvd_mul_right _ _)]
    have hpos : (0 : Int) < 2 ^ n := Int.pow_pos (by decide)
    have hpos2 : (0 : Int) < 2 ^ (a * n) := Int.pow_pos (by decide)
    have e2 : x % 2 ^ ((a + 1) * n) / 2 ^ n = x / 2 ^ n % 2 ^ (a * n) := by
      rw [hp, Int.emod_def, Int.emod_def, Int.sub_ediv_of_dvd _ (by rw [Int.mul_assoc]; exact Int.dvd_mul_right _ _), Int.mul_assoc, Int.mul_ediv_cancel_left _ (Int.ne_of_gt hpos), ← Int.ediv_ediv_of_nonneg (Int.le_of_lt hpos)]
    have e3 : x / 2 ^ ((a + 1) * n) = x / 2 ^ n / 2 ^ (a * n) := by rw [hp, Int.ediv_ediv_of_nonneg (Int.le_of_lt hpos)]
    rw [e1, e2, e3, digs_append n a b (x / 2 ^ n)]
/-- the number that digits say -/
noncomputable def undig (n : Nat) : List Int → Int
  | [] => 0
  | d :: r => d + 2 ^ n * undig n r
theorem undig_digs (n : Nat) : ∀ (k : Nat) (x : Int), 0 ≤ x → x < 2 ^ (k * n) → undig n (digs n x k) = x
  | 0, x, h0, h => by simp at h; simp [digs, undig]; exact om440 h0 h
  | k + 1, x, h0, h => by
    have hpos : (0 : Int) < 2 ^ n := Int.pow_pos (by decide)
    simp only [digs, undig]
    have hp : (2 : Int) ^ ((k + 1) * n) = 2 ^ n * 2 ^ (k * n) := by rw [← Int.pow_add]; congr 1; rw [Nat.add_mul]; exact om299
    rw [undig_digs n k (x / 2 ^ n) (Int.ediv_nonneg h0 (Int.le_of_lt hpos)) (Int.ediv_lt_of_lt_mul hpos (by rw [Int.mul_comm, ← hp]; exact h))]
    have := Int.emod_add_mul_ediv x (2 ^ n)
    exact om441 this
theorem undig_append (n : Nat) : ∀ (a b : List Int), undig n (a ++ b) = undig n a + 2 ^ (a.length * n) * undig n b
  | [], b => by simp [undig]
  | d :: r, b => by
    simp only [List.cons_append, undig, undig_append n r b, List.length_cons]
    have hp : (2 : Int) ^ ((r.length + 1) * n) = 2 ^ n * 2 ^ (r.length * n) := by rw [← Int.pow_add]; congr 1; rw [Nat.add_mul]; exact om299
    rw [hp, Int.mul_add, Int.mul_assoc, Int.add_assoc]
theorem digs_join {vs : List V} {n lo mid hi sh : Nat} {x low up : Int} (h1 : lo ≤ mid) (h2 : mid ≤ hi) (h3 : hi ≤ vs.length) (hsh : sh = (mid - lo) * n) (hlow : low = x % 2 ^ sh) (hup : up = x / 2 ^ sh) :
    vs.take lo ++ (digs n x (hi - lo)).map V.int ++ vs.drop hi = (vs.take lo ++ (digs n low (mid - lo)).map V.int ++ vs.drop mid).take mid ++ (digs n up (hi - mid)).map V.int ++ (vs.take lo ++ (digs n low (mid - lo)).map V.int ++ vs.drop mid).drop hi := by
  have e0 : hi - lo = (mid - lo) + (hi - mid) := by exact om302 h1 h2
  have hl : (vs.take lo ++ (digs n low (mid - lo)).map V.int).length = mid := by
    rw [List.length_append, List.length_take, List.length_map, digs_length, Nat.min_eq_left (by exact om442 h1 h2 h3)]; exact om303 h1 h2
  have e1 : (vs.take lo ++ (digs n low (mid - lo)).map V.int ++ vs.drop mid).take mid = vs.take lo ++ (digs n low (mid - lo)).map V.int := List.take_left' hl
  have e2 : (vs.take lo ++ (digs n low (mid - lo)).map V.int ++ vs.drop mid).drop hi = vs.drop hi := by
    rw [List.drop_append, hl, List.drop_of_length_le (by rw [hl]; exact h2), List.drop_drop, List.nil_append]
    congr 1; exact om443 h2 hl
  rw [e1, e2, e0, digs_append, ← hsh, ← hlow, ← hup, List.map_append]
  simp only [List.append_assoc]
theorem and_high (x k : Nat) : x &&& (x / 2 ^ k * 2 ^ k) = x / 2 ^ k * 2 ^ k := by
  apply Nat.eq_of_testBit_eq
  intro i
  rw [Nat.testBit_and, Nat.mul_comm (x / 2 ^ k), Nat.testBit_two_pow_mul, Nat.testBit_div_two_pow]
  by_cases h : k ≤ i
  · have e : i - k + k = i := by exact om444 h
    simp [h, e]
  · simp [h]
theorem xor_low (x : Int) (k : Nat) (h : 0 ≤ x) : Builtin.bitXor x (x.fdiv (2 ^ k) * 2 ^ k) = x % 2 ^ k := by
  obtain ⟨n, rfl⟩ := Int.eq_ofNat_of_zero_le h
  have e1 : ((n : Int).fdiv (2 ^ k)) = ((n / 2 ^ k : Nat) : Int) := by
    rw [Int.fdiv_eq_ediv_of_nonneg _ (Int.le_of_lt (Int.pow_pos (by decide)))]; simp
  have e2 : (n : Int).fdiv (2 ^ k) * 2 ^ k = ((n / 2 ^ k * 2 ^ k : Nat) : Int) := by rw [e1]; simp
  rw [bitXor_and, e2]
  have e3 : Builtin.bitAnd (n : Int) ((n / 2 ^ k * 2 ^ k : Nat) : Int) = ((n / 2 ^ k * 2 ^ k : Nat) : Int) := by
    unfold Builtin.bitAnd
    have h1 : decide ((0 : Int) ≤ (n : Int)) = true := by simp
    have h2 : decide ((0 : Int) ≤ ((n / 2 ^ k * 2 ^ k : Nat) : Int)) = true := by simp only [decide_eq_true_eq]; exact om45
    rw [h1, h2]
    show ((_ : Nat) : Int) = _
    rw [Int.toNat_natCast, Int.toNat_natCast, and_high]
  rw [e3]
  have h3 : n / 2 ^ k * 2 ^ k + n % 2 ^ k = n := Nat.div_add_mod' n (2 ^ k)
  have e4 : (n : Int) % 2 ^ k = ((n % 2 ^ k : Nat) : Int) := by simp
  rw [e4]
  exact om445 e3 h3
end Mine

/-! V11 -/
namespace Mine
section
variable {prog : Program} {w : World} {A : Around} {E : Value → Shared → Prop} {s : Shared} {K : Frag} {K₀ : Heap} {led : List (Nat × Mo)} {tmp : List (V × Nat)}
  {env : Env} {scope : Scope} {L : Nat} {cl : List (Str × Addr)} {qual : Str} {code : Value} {n : Nat}
theorem r_cellS {x : Str} {pos : Pos} {v : V} {c : Nat} {Q : Value → Shared → Prop} (EO : EnvOk env scope L cl qual code) (R : Rep K₀ led tmp s.heap)
    (hx : scope.names.lookup x = some .cell ∨ scope.names.lookup x = some .free) (hc : cl.lookup x = some c) (hm : (c, Mo.cell (some v)) ∈ led) (_hf : v.flat = true) (h : ∀ t, Q (v.conc t) s)
    (hd : (x == ("__debug__" : Str)) = false := by decide) (hn : (x == ("__classdict__" : Str)) = false := by decide) :
    wpAny (model prog w) A (eval (.Name x pos) env) Q E s := r_cell EO R hc hm (fun t _ => h t) hx hd hn
theorem r_shr {h₀ : Heap} {t₀ : Nat} {a n c : Int} {t u : Nat} {Q : Value → Shared → Prop} (hn : 0 ≤ n) (e : a.fdiv (2 ^ n.toNat) = c) (h : ∀ tk t, Q (.int c t) (St s h₀ tk)) : wpAny (model prog w) A (binaryOp .RShift (.int a t) (.int n u)) Q E (St s h₀ t₀) :=
  rshift_int hn (by rw [e]; exact h _ _)
theorem r_xor {h₀ : Heap} {t₀ : Nat} {a b c : Int} {t u : Nat} {Q : Value → Shared → Prop} (e : Builtin.bitXor a b = c) (h : ∀ tk t, Q (.int c t) (St s h₀ tk)) : wpAny (model prog w) A (binaryOp .BitXor (.int a t) (.int b u)) Q E (St s h₀ t₀) :=
  xor_int (by rw [e]; exact h _ _)
theorem r_mul {h₀ : Heap} {t₀ : Nat} {a b c : Int} {t u : Nat} {Q : Value → Shared → Prop} (e : a * b = c) (hm : IntMulOk a b) (h : ∀ tk t, Q (.int c t) (St s h₀ tk)) : wpAny (model prog w) A (binaryOp .Mult (.int a t) (.int b u)) Q E (St s h₀ t₀) :=
  P.mul_int (by rw [e]; exact h _ _) hm
theorem r_expr {e : Expr} {pos : Pos} {Q : Flow → Shared → Prop} (EO : EnvOk env scope L cl qual code) (h : wpAny (model prog w) A (eval e env) (fun _ => Q .next) E s) (hs : swapsWith e none pos.line env = pure false := by rfl) :
    wpAny (model prog w) A (exec (.Expr e pos) env) Q E s := wpAny_Expr_any h (by unfold interactive; rw [EO.fn]; rfl) hs
theorem Rep.fnAt {f : Nat} {fd : FuncData} {h : Heap} (R : Rep K₀ led tmp h) (hf : (f, Mo.fn fd) ∈ led) : FnAt f h := by
  obtain ⟨B, RB⟩ := R
  obtain ⟨_, _, ⟨oc, od, sl, e⟩, _⟩ := RB.led.mem hf
  exact ⟨oc, od, fd, sl, e⟩
end
end Mine

/-! V12 -/
namespace Mine
section
variable {prog : Program} {w : World} {A : Around} {E : Value → Shared → Prop} {s : Shared} {K : Frag} {K₀ : Heap} {led : List (Nat × Mo)} {tmp : List (V × Nat)}
  {env : Env} {scope : Scope} {L : Nat} {cl : List (Str × Addr)} {qual : Str} {code : Value} {n : Nat}
theorem r_newListPl {p : Nat × Mo} {vs : List V} {xs : List Value} {Q : Value → Shared → Prop} (R : Rep K₀ (p :: led) tmp s.heap) (hv : Bears tmp vs xs)
    (h : ∀ t h', Rep K₀ (p :: (t, .pl vs) :: led) tmp h' → Q (.ref t) (St s h' s.toks)) (hsz : xs.length ≤ sizeLine := by decide) : wpAny (model prog w) A (newList xs) Q E s := by
  refine wpAny_newList (h _ _ (Rep.swap (R.fresh (push_keeps _ _) (Rep.none_at_size _) fun B RB => ?_))) hsz
  exact ⟨xs.toArray, 0, Heap.get?_push_size _ rfl, by simpa using hv B RB.tmp⟩
/-- a store to the cell that stands first -/
theorem r_storeC1 {x : Str} {c : Nat} {v₀ : Option V} {v : V} {y : Value} {Q : Unit → Shared → Prop} (EO : EnvOk env scope L cl qual code) (R : Rep K₀ ((c, .cell v₀) :: led) tmp s.heap)
    (hx : scope.names.lookup x = some .cell) (hc : cl.lookup x = some c) (hv : Bear tmp v y)
    (h : ∀ h', Rep K₀ ((c, .cell (some v)) :: led) tmp h' → Q () (St s h' s.toks)) :
    wpAny (model prog w) A (storeName env x y) Q E s := r_storeC (pre := []) EO R hx hc hv h
theorem Rep.dropIn {pre post : List (Nat × Mo)} {p : Nat × Mo} {h : Heap} (R : Rep K₀ (pre ++ p :: post) tmp h) : Rep K₀ (pre ++ post) tmp h := R.up.dropLed
theorem Rep.dropMany : ∀ {pre post : List (Nat × Mo)} {h : Heap}, Rep K₀ (pre ++ post) tmp h → Rep K₀ post tmp h
  | [], _, _, R => R
  | _ :: _, _, _, R => Rep.dropMany (Rep.dropLed R)
theorem r_def {name : Str} {params : Arguments} {body : List Stmt} {sc : Scope} {pos : Pos} {Q : Flow → Shared → Prop} (hd0 : params.defaults = []) (hk0 : params.kw_defaults = []) (ha : annTrees params none env = [])
    (h : wpAny (model prog w) A (makeFunction name (qualnameIn env name name) params (.stmts body) sc env [] [] [] pos pos.line) (fun v s' => wpAny (model prog w) A (storeName env name v) (fun _ s'' => Q .next s'') E s') E s) :
    wpAny (model prog w) A (exec (.FunctionDef name params body [] none [] sc none name pos) env) Q E s := nestDef_K hd0 hk0 ha h
theorem qual_is (EO : EnvOk env scope L cl qual code) {name : Str} (h : (scope.names.lookup name == some .globalExplicit) = false) : qualnameIn env name name = qual ++ name := by
  unfold qualnameIn
  rw [EO.ofKind, h, EO.qu]; rfl
theorem bits_le {a : Int} {k : Nat} (h : a.natAbs < 2 ^ k) : Builtin.Int.intBits a ≤ k := intBits_le_iff.mpr h
theorem lt_bits (a : Int) : a.natAbs < 2 ^ (Builtin.Int.intBits a) := intBits_le_iff.mp (Nat.le_refl _)
end
end Mine

/-! V13 -/
namespace Mine
section
variable {K₀ : Heap} {led : List (Nat × Mo)} {tmp : List (V × Nat)} {h : Heap}
theorem Rep.up2 {a0 a1 p : Nat × Mo} (R : Rep K₀ (a0 :: a1 :: p :: led) tmp h) : Rep K₀ (p :: a0 :: a1 :: led) tmp h := Rep.up (pre := [a0, a1]) R
theorem Rep.dn2 {a0 a1 p : Nat × Mo} (R : Rep K₀ (p :: a0 :: a1 :: led) tmp h) : Rep K₀ (a0 :: a1 :: p :: led) tmp h := Rep.down (pre := [a0, a1]) R
theorem Rep.up3 {a0 a1 a2 p : Nat × Mo} (R : Rep K₀ (a0 :: a1 :: a2 :: p :: led) tmp h) : Rep K₀ (p :: a0 :: a1 :: a2 :: led) tmp h := Rep.up (pre := [a0, a1, a2]) R
theorem Rep.dn3 {a0 a1 a2 p : Nat × Mo} (R : Rep K₀ (p :: a0 :: a1 :: a2 :: led) tmp h) : Rep K₀ (a0 :: a1 :: a2 :: p :: led) tmp h := Rep.down (pre := [a0, a1, a2]) R
theorem Rep.up4 {a0 a1 a2 a3 p : Nat × Mo} (R : Rep K₀ (a0 :: a1 :: a2 :: a3 :: p :: led) tmp h) : Rep K₀ (p :: a0 :: a1 :: a2 :: a3 :: led) tmp h := Rep.up (pre := [a0, a1, a2, a3]) R
theorem Rep.dn4 {a0 a1 a2 a3 p : Nat × Mo} (R : Rep K₀ (p :: a0 :: a1 :: a2 :: a3 :: led) tmp h) : Rep K₀ (a0 :: a1 :: a2 :: a3 :: p :: led) tmp h := Rep.down (pre := [a0, a1, a2, a3]) R
theorem Rep.up5 {a0 a1 a2 a3 a4 p : Nat × Mo} (R : Rep K₀ (a0 :: a1 :: a2 :: a3 :: a4 :: p :: led) tmp h) : Rep K₀ (p :: a0 :: a1 :: a2 :: a3 :: a4 :: led) tmp h := Rep.up (pre := [a0, a1, a2, a3, a4]) R
theorem Rep.dn5 {a0 a1 a2 a3 a4 p : Nat × Mo} (R : Rep K₀ (p :: a0 :: a1 :: a2 :: a3 :: a4 :: led) tmp h) : Rep K₀ (a0 :: a1 :: a2 :: a3 :: a4 :: p :: led) tmp h := Rep.down (pre := [a0, a1, a2, a3, a4]) R
theorem Rep.up6 {a0 a1 a2 a3 a4 a5 p : Nat × Mo} (R : Rep K₀ (a0 :: a1 :: a2 :: a3 :: a4 :: a5 :: p :: led) tmp h) : Rep K₀ (p :: a0 :: a1 :: a2 :: a3 :: a4 :: a5 :: led) tmp h := Rep.up (pre := [a0, a1, a2, a3, a4, a5]) R
theorem Rep.dn6 {a0 a1 a2 a3 a4 a5 p : Nat × Mo} (R : Rep K₀ (p :: a0 :: a1 :: a2 :: a3 :: a4 :: a5 :: led) tmp h) : Rep K₀ (a0 :: a1 :: a2 :: a3 :: a4 :: a5 :: p :: led) tmp h := Rep.down (pre := [a0, a1, a2, a3, a4, a5]) R
theorem Rep.up7 {a0 a1 a2 a3 a4 a5 a6 p : Nat × Mo} (R : Rep K₀ (a0 :: a1 :: a2 :: a3 :: a4 :: a5 :: a6 :: p :: led) tmp h) : Rep K₀ (p :: a0 :: a1 :: a2 :: a3 :: a4 :: a5 :: a6 :: led) tmp h := Rep.up (pre := [a0, a1, a2, a3, a4, a5, a6]) R
theorem Rep.dn7 {a0 a1 a2 a3 a4 a5 a6 p : Nat × Mo} (R : Rep K₀ (p :: a0 :: a1 :: a2 :: a3 :: a4 :: a5 :: a6 :: led) tmp h) : Rep K₀ (a0 :: a1 :: a2 :: a3 :: a4 :: a5 :: a6 :: p :: led) tmp h := Rep.down (pre := [a0, a1, a2, a3, a4, a5, a6]) R
theorem Rep.up8 {a0 a1 a2 a3 a4 a5 a6 a7 p : Nat × Mo} (R : Rep K₀ (a0 :: a1 :: a2 :: a3 :: a4 :: a5 :: a6 :: a7 :: p :: led) tmp h) : Rep K₀ (p :: a0 :: a1 :: a2 :: a3 :: a4 :: a5 :: a6 :: a7 :: led) tmp h := Rep.up (pre := [a0, a1, a2, a3, a4, a5, a6, a7]) R
theorem Rep.dn8 {a0 a1 a2 a3 a4 a5 a6 a7 p : Nat × Mo} (R : Rep K₀ (p :: a0 :: a1 :: a2 :: a3 :: a4 :: a5 :: a6 :: a7 :: led) tmp h) : Rep K₀ (a0 :: a1 :: a2 :: a3 :: a4 :: a5 :: a6 :: a7 :: p :: led) tmp h := Rep.down (pre := [a0, a1, a2, a3, a4, a5, a6, a7]) R
theorem Rep.up9 {a0 a1 a2 a3 a4 a5 a6 a7 a8 p : Nat × Mo} (R : Rep K₀ (a0 :: a1 :: a2 :: a3 :: a4 :: a5 :: a6 :: a7 :: a8 :: p :: led) tmp h) : Rep K₀ (p :: a0 :: a1 :: a2 :: a3 :: a4 :: a5 :: a6 :: a7 :: a8 :: led) tmp h := Rep.up (pre := [a0, a1, a2, a3, a4, a5, a6, a7, a8]) R
theorem Rep.dn9 {a0 a1 a2 a3 a4 a5 a6 a7 a8 p : Nat × Mo} (R : Rep K₀ (p :: a0 :: a1 :: a2 :: a3 :: a4 :: a5 :: a6 :: a7 :: a8 :: led) tmp h) : Rep K₀ (a0 :: a1 :: a2 :: a3 :: a4 :: a5 :: a6 :: a7 :: a8 :: p :: led) tmp h := Rep.down (pre := [a0, a1, a2, a3, a4, a5, a6, a7, a8]) R
theorem Rep.up10 {a0 a1 a2 a3 a4 a5 a6 a7 a8 a9 p : Nat × Mo} (R : Rep K₀ (a0 :: a1 :: a2 :: a3 :: a4 :: a5 :: a6 :: a7 :: a8 :: a9 :: p :: led) tmp h) : Rep K₀ (p :: a0 :: a1 :: a2 :: a3 :: a4 :: a5 :: a6 :: a7 :: a8 :: a9 :: led) tmp h := Rep.up (pre := [a0, a1, a2, a3, a4, a5, a6, a7, a8, a9]) R
theorem Rep.dn10 {a0 a1 a2 a3 a4 a5 a6 a7 a8 a9 p : Nat × Mo} (R : Rep K₀ (p :: a0 :: a1 :: a2 :: a3 :: a4 :: a5 :: a6 :: a7 :: a8 :: a9 :: led) tmp h) : Rep K₀ (a0 :: a1 :: a2 :: a3 :: a4 :: a5 :: a6 :: a7 :: a8 :: a9 :: p :: led) tmp h := Rep.down (pre := [a0, a1, a2, a3, a4, a5, a6, a7, a8, a9]) R
theorem Rep.up11 {a0 a1 a2 a3 a4 a5 a6 a7 a8 a9 a10 p : Nat × Mo} (R : Rep K₀ (a0 :: a1 :: a2 :: a3 :: a4 :: a5 :: a6 :: a7 :: a8 :: a9 :: a10 :: p :: led) tmp h) : Rep K₀ (p :: a0 :: a1 :: a2 :: a3 :: a4 :: a5 :: a6 :: a7 :: a8 :: a9 :: a10 :: led) tmp h := Rep.up (pre := [a0, a1, a2, a3, a4, a5, a6, a7, a8, a9, a10]) R
theorem Rep.dn11 {a0 a1 a2 a3 a4 a5 a6 a7 a8 a9 a10 p : Nat × Mo} (R : Rep K₀ (p :: a0 :: a1 :: a2 :: a3 :: a4 :: a5 :: a6 :: a7 :: a8 :: a9 :: a10 :: led) tmp h) : Rep K₀ (a0 :: a1 :: a2 :: a3 :: a4 :: a5 :: a6 :: a7 :: a8 :: a9 :: a10 :: p :: led) tmp h := Rep.down (pre := [a0, a1, a2, a3, a4, a5, a6, a7, a8, a9, a10]) R
end
section
variable {prog : Program} {w : World} {A : Around} {E : Value → Shared → Prop} {s : Shared} {K₀ : Heap} {led : List (Nat × Mo)} {tmp : List (V × Nat)}
theorem r_lenE {a : Nat} {vs : List V} {k : Nat} {Q : Value → Shared → Prop} (R : Rep K₀ led tmp s.heap) (hm : LAt K₀ led tmp a vs) (e : vs.length = k) (hl : k < 2 ^ 62)
    (h : ∀ tk t, Q (.int k t) (St s s.heap tk)) : wpAny (model prog w) A (call (.builtin "len") [.ref a]) Q E s := by
  subst e
  exact r_len R hm hl h
end
end Mine

/-! V14 -/
namespace Mine
section
variable {prog : Program} {w : World} {A : Around} {E : Value → Shared → Prop} {s : Shared} {K : Frag} {K₀ : Heap} {led : List (Nat × Mo)} {tmp : List (V × Nat)}
  {env : Env} {scope : Scope} {L : Nat} {cl : List (Str × Addr)} {qual : Str} {code : Value} {n : Nat}
/-- reversed(a list) -/
theorem r_reversed {a : Nat} {vs : List V} {p : Nat × Mo} {Q : Value → Shared → Prop} (R : Rep K₀ (p :: led) tmp s.heap) (hm : (V.lst vs, a) ∈ tmp)
    (h : ∀ I h', Rep K₀ (p :: (I, .it "list_reverseiterator" #[.ref a, rawInt ((vs.length : Int) - 1 - ((0 : Nat) : Int))]) :: led) tmp h' → Q (.ref I) (St s h' s.toks)) :
    wpAny (model prog w) A (call (.type "reversed") [.ref a]) Q E s := by
  have R0 := R
  obtain ⟨B, RB⟩ := R
  obtain ⟨items, hl, rl⟩ := (RB.tmp _ hm).isList RB.base
  have el := rl.length
  rw [Array.length_toList] at el
  refine call_reversed_list hl (h _ _ (Rep.swap (R0.fresh (push_keeps _ _) (Rep.none_at_size _) fun B' RB' => ⟨_, Heap.get?_push_size _ rfl, rfl, ?_⟩)))
  rw [← el]
  simp [revObj]
theorem r_pyIterRev {a I : Nat} {x : Value} {Q : Value → Shared → Prop} (R : Rep K₀ led tmp s.heap) (hm : (I, Mo.it "list_reverseiterator" #[.ref a, x]) ∈ led) (i : Int) (hx : x = rawInt i) (h : Q (.ref I) s) :
    wpAny (model prog w) A (pyIter (.ref I)) Q E s := by
  subst hx
  obtain ⟨B, RB⟩ := R
  exact wpAny_pyIter_revIter (RB.led.mem hm).2.2 h
/-- iter(a list) -/
theorem r_pyIterList {a : Nat} {vs : List V} {p : Nat × Mo} {Q : Value → Shared → Prop} (R : Rep K₀ (p :: led) tmp s.heap) (hm : (V.lst vs, a) ∈ tmp)
    (h : ∀ I h', Rep K₀ (p :: (I, .it "list_iterator" #[.ref a, .int ((0 : Nat) : Int) 0]) :: led) tmp h' → Q (.ref I) (St s h' s.toks)) :
    wpAny (model prog w) A (pyIter (.ref a)) Q E s := by
  have R0 := R
  obtain ⟨B, RB⟩ := R
  obtain ⟨items, hl, rl⟩ := (RB.tmp _ hm).isList RB.base
  exact wpAny_pyIter_list hl (h _ _ (Rep.swap (R0.fresh (push_keeps _ _) (Rep.none_at_size _) fun B' RB' => ⟨_, Heap.get?_push_size _ rfl, rfl, rfl⟩)))
/-- the object range(a, b) -/
noncomputable def rangeMo (a b c : Int) (t u v : Nat) : Mo := .obj { cls := .type "range", dict := none, data := .fields #[.int a t, .int b u, .int c v], slots := #[] }
theorem r_range1 {x : Int} {t : Nat} {p : Nat × Mo} {Q : Value → Shared → Prop} (R : Rep K₀ (p :: led) tmp s.heap)
    (h : ∀ r h' tk t u v, Rep K₀ (p :: (r, rangeMo 0 x 1 t u v) :: led) tmp h' → Q (.ref r) (St s h' tk)) :
    wpAny (model prog w) A (call (.type "range") [.int x t]) Q E s :=
  call_range_1 (h _ _ _ _ _ _ (Rep.swap (R.fresh (push_keeps _ _) (Rep.none_at_size _) fun B RB => Heap.get?_push_size _ rfl)))
theorem r_range2 {x y : Int} {t t2 : Nat} {p : Nat × Mo} {Q : Value → Shared → Prop} (R : Rep K₀ (p :: led) tmp s.heap)
    (h : ∀ r h' tk t u v, Rep K₀ (p :: (r, rangeMo x y 1 t u v) :: led) tmp h' → Q (.ref r) (St s h' tk)) :
    wpAny (model prog w) A (call (.type "range") [.int x t, .int y t2]) Q E s :=
  call_range_2 (h _ _ _ _ _ _ (Rep.swap (R.fresh (push_keeps _ _) (Rep.none_at_size _) fun B RB => Heap.get?_push_size _ rfl)))
/-- iter(range(a, a + k)) -/
theorem r_pyIterRange {r : Nat} {a b : Int} {k : Nat} {t u v : Nat} {p : Nat × Mo} {Q : Value → Shared → Prop} (R : Rep K₀ (p :: led) tmp s.heap) (hm : (r, rangeMo a b 1 t u v) ∈ p :: led) (hb : b = a + k) (ha : -(2 ^ 62) ≤ a) (hb2 : b < 2 ^ 62)
    (h : ∀ I h', Rep K₀ (p :: (I, .obj { cls := .type "range_iterator", dict := none, data := .fields #[rawInt (a + ((0 : Nat) : Int)), rawInt ((k : Int) - ((0 : Nat) : Int)), rawInt 1], slots := #[] }) :: led) tmp h' → Q (.ref I) (St s h' s.toks)) :
    wpAny (model prog w) A (pyIter (.ref r)) Q E s := by
  have R0 := R
  obtain ⟨B, RB⟩ := R
  refine wpAny_pyIter_range (RB.led.mem hm).2.2 (small_one ha (by exact om446 hb hb2) (by exact om447 hb ha) hb2) (h _ _ (Rep.swap (R0.fresh (push_keeps _ _) (Rep.none_at_size _) fun B' RB' => ?_)))
  have e : Builtin.Range.rangeSize a b 1 = (k : Int) := by rw [rangeSize_one]; split <;> omega
  show (Heap.push _ _).get? _ = _
  rw [Heap.get?_push_size _ rfl, e]
  simp
end
end Mine

/-! V15 -/
namespace Mine
section
variable {prog : Program} {w : World} {A : Around} {E : Value → Shared → Prop} {s : Shared} {K : Frag} {K₀ : Heap} {led : List (Nat × Mo)} {tmp : List (V × Nat)}
  {env : Env} {scope : Scope} {L : Nat} {cl : List (Str × Addr)} {qual : Str} {code : Value} {n : Nat}
theorem Rep.offSize {h h' : Heap} (R : Rep K₀ led tmp h) (k : Heap.ExtBut h.objs.size h h') : Rep K₀ led tmp h' :=
  R.keeps fun b o e => k b o (Nat.ne_of_lt (Heap.lt_size e)) e
theorem RepT.isTup2 {B : Bs} {h : Heap} {v1 v2 : V} {a : Nat} (k : ∀ a o, B a = some o → h.get? a = some o) (r : RepT B (.tup [v1, v2]) a) : ∃ t1 t2, IsTup h a #[v1.conc t1, v2.conc t2] ∧ RepT B v1 t1 ∧ RepT B v2 t2 := by
  obtain ⟨items, h1, rl⟩ := r.isTup k
  simp only [RepL] at rl
  obtain ⟨t1, r1, e, a1, t2, r2, e2, a2, rfl⟩ := rl
  subst e2
  exact ⟨t1, t2, by rw [show items = #[v1.conc t1, v2.conc t2] from Array.toList_inj.mp e] at h1; exact h1, a1, a2⟩
theorem RepT.isTup3 {B : Bs} {h : Heap} {v1 v2 v3 : V} {a : Nat} (k : ∀ a o, B a = some o → h.get? a = some o) (r : RepT B (.tup [v1, v2, v3]) a) : ∃ t1 t2 t3, IsTup h a #[v1.conc t1, v2.conc t2, v3.conc t3] ∧ RepT B v1 t1 ∧ RepT B v2 t2 ∧ RepT B v3 t3 := by
  obtain ⟨items, h1, rl⟩ := r.isTup k
  simp only [RepL] at rl
  obtain ⟨t1, r1, e, a1, t2, r2, e2, a2, t3, r3, e3, a3, rfl⟩ := rl
  subst e3; subst e2
  exact ⟨t1, t2, t3, by rw [show items = #[v1.conc t1, v2.conc t2, v3.conc t3] from Array.toList_inj.mp e] at h1; exact h1, a1, a2, a3⟩
theorem r_unpackItems2 {t : Nat} {v1 v2 : V} {Q : List Value → Shared → Prop} (AO : AOk A n) (R : Rep K₀ led tmp s.heap) (hm : (V.tup [v1, v2], t) ∈ tmp)
    (h : ∀ h' t1 t2, Rep K₀ led ((v2, t2) :: (v1, t1) :: tmp) h' → Q [v1.conc t1, v2.conc t2] (St s h' s.toks)) : wpAny (model prog w) A (unpackItems (.ref t) 2 none) Q E s := by
  obtain ⟨B, RB⟩ := R
  obtain ⟨t1, t2, hT, r1, r2⟩ := (RB.tmp _ hm).isTup2 RB.base
  show wpAny _ _ (unpackItems (.ref t) (#[v1.conc t1, v2.conc t2] : Array Value).size none) _ _ _
  refine unpackItems_tuple AO.handled hT fun h' k => h h' t1 t2 (Rep.offSize (h := s.heap) ⟨B, RB.keep, RB.base, fun p hp => ?_, RB.led⟩ k)
  rcases List.mem_cons.mp hp with rfl | hp
  · exact r2
  · rcases List.mem_cons.mp hp with rfl | hp
    · exact r1
    · exact RB.tmp p hp
theorem r_unpackItems3 {t : Nat} {v1 v2 v3 : V} {Q : List Value → Shared → Prop} (AO : AOk A n) (R : Rep K₀ led tmp s.heap) (hm : (V.tup [v1, v2, v3], t) ∈ tmp)
    (h : ∀ h' t1 t2 t3, Rep K₀ led ((v3, t3) :: (v2, t2) :: (v1, t1) :: tmp) h' → Q [v1.conc t1, v2.conc t2, v3.conc t3] (St s h' s.toks)) : wpAny (model prog w) A (unpackItems (.ref t) 3 none) Q E s := by
  obtain ⟨B, RB⟩ := R
  obtain ⟨t1, t2, t3, hT, r1, r2, r3⟩ := (RB.tmp _ hm).isTup3 RB.base
  show wpAny _ _ (unpackItems (.ref t) (#[v1.conc t1, v2.conc t2, v3.conc t3] : Array Value).size none) _ _ _
  refine unpackItems_tuple AO.handled hT fun h' k => h h' t1 t2 t3 (Rep.offSize (h := s.heap) ⟨B, RB.keep, RB.base, fun p hp => ?_, RB.led⟩ k)
  rcases List.mem_cons.mp hp with rfl | hp
  · exact r3
  · rcases List.mem_cons.mp hp with rfl | hp
    · exact r2
    · rcases List.mem_cons.mp hp with rfl | hp
      · exact r1
      · exact RB.tmp p hp
/-- (a, b) = a tuple -/
theorem r_asgTup2 {t : Nat} {v1 v2 : V} {e1 e2 : Expr} {k : Nat} {pos : Pos} {Q : Unit → Shared → Prop} (AO : AOk A n) (R : Rep K₀ led tmp s.heap) (hm : (V.tup [v1, v2], t) ∈ tmp)
    (hn : assignEach [e1, e2] env = [(false, assign e1 env), (false, assign e2 env)])
    (h : ∀ h' t1 t2, Rep K₀ led ((v2, t2) :: (v1, t1) :: tmp) h' → wpAny (model prog w) A (assign e1 env (v1.conc t1)) (fun _ s' => wpAny (model prog w) A (assign e2 env (v2.conc t2)) Q E s') E (St s h' s.toks)) :
    wpAny (model prog w) A (assign (.Tuple [e1, e2] k pos) env (.ref t)) Q E s := by
  obtain ⟨B, RB⟩ := R
  obtain ⟨t1, t2, hT, r1, r2⟩ := (RB.tmp _ hm).isTup2 RB.base
  refine assign_Tuple_tuple AO.handled hT (by rw [hn]; rfl) (by rw [hn]; rfl) fun h' ke => ?_
  rw [hn]
  refine wpAny_bind (wpAny_holding (wpAny_mono (h h' t1 t2 (Rep.offSize (h := s.heap) ⟨B, RB.keep, RB.base, fun p hp => ?_, RB.led⟩ ke)) (fun _ s' h2 => wpAny_bind (wpAny_holding (wpAny_mono h2 (fun _ s3 h3 => wpAny_pure h3) fun _ _ x => x))) fun _ _ x => x))
  rcases List.mem_cons.mp hp with rfl | hp
  · exact r2
  · rcases List.mem_cons.mp hp with rfl | hp
    · exact r1
    · exact RB.tmp p hp
theorem r_asgTup3 {t : Nat} {v1 v2 v3 : V} {e1 e2 e3 : Expr} {k : Nat} {pos : Pos} {Q : Unit → Shared → Prop} (AO : AOk A n) (R : Rep K₀ led tmp s.heap) (hm : (V.tup [v1, v2, v3], t) ∈ tmp)
    (hn : assignEach [e1, e2, e3] env = [(false, assign e1 env), (false, assign e2 env), (false, assign e3 env)])
    (h : ∀ h' t1 t2 t3, Rep K₀ led ((v3, t3) :: (v2, t2) :: (v1, t1) :: tmp) h' → wpAny (model prog w) A (assign e1 env (v1.conc t1)) (fun _ s' => wpAny (model prog w) A (assign e2 env (v2.conc t2)) (fun _ s' => wpAny (model prog w) A (assign e3 env (v3.conc t3)) Q E s') E s') E (St s h' s.toks)) :
    wpAny (model prog w) A (assign (.Tuple [e1, e2, e3] k pos) env (.ref t)) Q E s := by
  obtain ⟨B, RB⟩ := R
  obtain ⟨t1, t2, t3, hT, r1, r2, r3⟩ := (RB.tmp _ hm).isTup3 RB.base
  refine assign_Tuple_tuple AO.handled hT (by rw [hn]; rfl) (by rw [hn]; rfl) fun h' ke => ?_
  rw [hn]
  refine wpAny_bind (wpAny_holding (wpAny_mono (h h' t1 t2 t3 (Rep.offSize (h := s.heap) ⟨B, RB.keep, RB.base, fun p hp => ?_, RB.led⟩ ke)) (fun _ s' h2 => wpAny_bind (wpAny_holding (wpAny_mono h2 (fun _ s3 h3 => wpAny_bind (wpAny_holding (wpAny_mono h3 (fun _ _ h4 => wpAny_pure h4) fun _ _ x => x))) fun _ _ x => x))) fun _ _ x => x))
  rcases List.mem_cons.mp hp with rfl | hp
  · exact r3
  · rcases List.mem_cons.mp hp with rfl | hp
    · exact r2
    · rcases List.mem_cons.mp hp with rfl | hp
      · exact r1
      · exact RB.tmp p hp
/-- x, y = a tuple, told by names -/
theorem r_bind2 {x y : Str} {a b : Value} {Q : Unit → Shared → Prop} (h : wpAny (model prog w) A (storeName env y b) (fun _ s' => wpAny (model prog w) A (storeName env x a) Q E s') E s) :
    wpAny (model prog w) A (assignInOrder (List.map (fun n => bindName env n) (List.reverse [x, y])) (List.reverse [a, b])) Q E s :=
  wpAny_bind (wpAny_holding (wpAny_bindName (wpAny_mono h (fun _ _ h2 => wpAny_bind (wpAny_holding (wpAny_bindName (wpAny_mono h2 (fun _ _ h3 => wpAny_pure h3) fun _ _ x => x)))) fun _ _ x => x)))
/-- a method of a list that may grow -/
theorem r_methodPl {a : Nat} {vs : List V} {name : Str} {id : String} {pl : Sem Bool} {Q : Value × List Value → Shared → Prop} (R : Rep K₀ led tmp s.heap) (hm : (a, Mo.pl vs) ∈ led) (slot : Slot "list" name id)
    (hty : typeOf (.builtin id) = pure (.type "method_descriptor")) (h : Q (.builtin id, [.ref a]) s) : wpAny (model prog w) A (getMethod (.ref a) name pl) Q E s := by
  obtain ⟨B, RB⟩ := R
  obtain ⟨_, _, items, k, e, rl⟩ := RB.led.mem hm
  exact getMethod_list_of (items := items) slot hty ⟨_, e, rfl, k, rfl⟩ ⟨_, e, rfl⟩ h
theorem Rep.freezePl {a : Nat} {vs : List V} {h : Heap} (R : Rep K₀ ((a, .pl vs) :: led) tmp h) : Rep K₀ led ((.lst vs, a) :: tmp) h :=
  Rep.freeze (R.upd (fun _ _ _ e => e) fun B RB => by
    obtain ⟨items, n, e, r⟩ := RB.led.1.2.2.1
    exact ⟨items, ⟨_, e, rfl, n, rfl⟩, r⟩)
end
end Mine

/-! V16 -/
namespace Mine
section
variable {prog : Program} {w : World} {A : Around} {E : Value → Shared → Prop} {s : Shared} {K : Frag} {K₀ : Heap} {led : List (Nat × Mo)} {tmp : List (V × Nat)}
  {env : Env} {scope : Scope} {L : Nat} {cl : List (Str × Addr)} {qual : Str} {code : Value} {n : Nat}
noncomputable def LkAll (l : List (Str × V)) : List (Str × V) → Prop
  | [] => True
  | p :: r => lk l p.1 = some p.2 ∧ LkAll l r
theorem LkAll.all {l : List (Str × V)} : ∀ {l' : List (Str × V)}, LkAll l l' → ∀ p ∈ l', lk l p.1 = some p.2
  | _ :: _, ⟨a, _⟩, _, .head _ => a
  | _ :: _, ⟨_, b⟩, _, .tail _ h => b.all _ h
/-- say the names anew -/
theorem Rep.loc {l : List (Str × V)} {h : Heap} (l' : List (Str × V)) (R : Rep K₀ ((L, .ns l) :: led) tmp h) (hs : LkAll l l') : Rep K₀ ((L, .ns l') :: led) tmp h := R.locals hs.all
/-- forget what is known of values -/
theorem Rep.tmps {h : Heap} (tmp' : List (V × Nat)) (R : Rep K₀ led tmp h) (hs : ∀ p ∈ tmp', p ∈ tmp) : Rep K₀ led tmp' h := R.drop hs
end
theorem r_inv {h₀ : Heap} {t₀ : Nat} {prog : Program} {w : World} {A : Around} {E : Value → Shared → Prop} {s : Shared} {a c : Int} {t : Nat} {Q : Value → Shared → Prop} (e : Builtin.bitNot a = c) (h : ∀ tk t, Q (.int c t) (St s h₀ tk)) :
    wpAny (model prog w) A (unaryOp .Invert (.int a t)) Q E (St s h₀ t₀) := invert_int (by rw [e]; exact h _ _)
theorem Rep.fst {K₀ : Heap} {p q : Nat × Mo} {led : List (Nat × Mo)} {tmp : List (V × Nat)} {h : Heap} (R : Rep K₀ (p :: led) tmp h) (e : p = q) : Rep K₀ (q :: led) tmp h := e ▸ R
end Mine

/-! V17 -/
namespace Mine
section
variable {prog : Program} {w : World} {A : Around} {E : Value → Shared → Prop} {s : Shared} {K : Frag} {K₀ : Heap} {led : List (Nat × Mo)} {tmp : List (V × Nat)}
  {env : Env} {scope : Scope} {L : Nat} {cl : List (Str × Addr)} {qual : Str} {code : Value} {n : Nat}
theorem r_divE {h₀ : Heap} {t₀ : Nat} {a b c : Int} {t u : Nat} {Q : Value → Shared → Prop} (e : a.fdiv b = c) (hb : b ≠ 0) (hp : b.natAbs < 2 ^ 100) (h : ∀ tk t, Q (.int c t) (St s h₀ tk)) :
    wpAny (model prog w) A (binaryOp .FloorDiv (.int a t) (.int b u)) Q E (St s h₀ t₀) := r_div hb hp (by rw [e]; exact h)
end
end Mine

/-! V18 -/
namespace Mine
section
variable {prog : Program} {w : World} {A : Around} {E : Value → Shared → Prop} {s : Shared} {K : Frag} {K₀ : Heap} {led : List (Nat × Mo)} {tmp : List (V × Nat)}
  {env : Env} {scope : Scope} {L : Nat} {cl : List (Str × Addr)} {qual : Str} {code : Value} {n : Nat}
theorem r_callWithKw {M : Model} {fv : Value} {first : List Value} {pos kp : Pos} {e ev : Expr} {rest : List Expr} {kw : Str} {Q : Value → Shared → Prop} (S : Stat K K₀) (hk : keepIn K fv = true)
    (h : wpAny M A (spliced (backTo pos (starEach (e :: rest) env))) (fun vs s₁ => wpAny M A (eval ev env) (fun kv s₂ => K.In s₂.heap ∧ wpAny M A (call fv (first ++ vs) [(kw, kv)]) Q E s₂) E s₁) E s)
    (hplain : ((backTo pos (starEach (e :: rest) env)).any (·.1) || (backToKw pos (keywordEach [⟨some kw, ev, kp⟩] env)).any (·.1.isNone)) = false := by rfl) (he : starEach (e :: rest) env = (false, eval e env) :: starEach rest env := by rfl) :
    wpAny M A (callWith pos fv first (backTo pos (starEach (e :: rest) env)) (backToKw pos (keywordEach [⟨some kw, ev, kp⟩] env))) Q E s := by
  refine callWith_KW S.x hk rfl (wpAny_mono h (fun vs s₁ h₁ => ?_) fun _ _ x => x) hplain he
  refine wpAny_evalAll_cons ?_
  exact wpAny_bind (wpAny_mono h₁ (fun kv s₂ h₂ => wpAny_bind (wpAny_standAt (wpAny_pure (wpAny_evalAll_nil h₂)))) fun _ _ x => x)
theorem r_callKw {M : Model} {func : Expr} {args : List Expr} {kws : List Keyword} {pos : Pos} {Q : Value → Shared → Prop}
    (h : wpAny M A (eval func env) (fun f s₁ => wpAny M A (callWith pos f [] (backTo pos (starEach args env)) (backToKw pos (keywordEach kws env))) Q E s₁) E s)
    (he : eval (.Call func args kws pos) env = (do callWith pos (← eval func env) [] (backTo pos (starEach args env)) (backToKw pos (keywordEach kws env))) := by rfl) :
    wpAny M A (eval (.Call func args kws pos) env) Q E s := by
  rw [he]; exact wpAny_bind h
end
end Mine

/-! V19 -/
namespace Mine
section
variable {prog : Program} {w : World} {A : Around} {E : Value → Shared → Prop} {s : Shared} {K : Frag} {K₀ : Heap} {led : List (Nat × Mo)} {tmp : List (V × Nat)}
  {env : Env} {scope : Scope} {L : Nat} {cl : List (Str × Addr)} {qual : Str} {code : Value} {n : Nat}
theorem r_lambda {P c : Nat} {sites : List (Pos × Str)} {params : Arguments} {body : Expr} {sc : Scope} {pos : Pos} {clos : List (Str × Addr)} {Q : Value → Shared → Prop}
    (EO : EnvOk env scope L cl qual (.ref c)) (S : Stat K K₀) (hC : CodeHd K₀ c P) (R : Rep K₀ ((P, .tab sites) :: led) tmp s.heap) (hs : (pos, qual ++ "<lambda>") ∈ sites) (hu : ∀ s ∈ sites, s.1.line = pos.line → s.1.col = pos.col → s.2 = qual ++ "<lambda>")
    (hcl : closureFor sc { (default : Env) with cells := cl } = pure clos)
    (h : ∀ f h' tk pm c' ctv, Rep K₀ ((f, .fn (kla_fn "<lambda>" (qual ++ "<lambda>") params body sc clos pm (.ref c') ctv)) :: (P, .tab sites) :: led) tmp h' → Q (.ref f) (St s h' tk))
    (hdef : defaultsOf params env = ([], []) := by rfl) :
    wpAny (model prog w) A (eval (.Lambda params body sc pos) env) Q E s := by
  refine kla_eval hdef ?_
  rw [EO.qu]
  exact r_mkLam EO S hC R hs hu hcl h
theorem swapped_is (EO : EnvOk env scope L cl qual code) {ts : List Expr} {v : Expr} : swappedStores ts v env = swappedStores ts v { (default : Env) with scope := scope } := by
  have e : scope = env.scope := EO.sc.symm
  subst e
  rfl
theorem r_asgSwap {elts : List Expr} {k : Nat} {tpos pos : Pos} {value : Expr} {names : List Str} {Q : Flow → Shared → Prop} (EO : EnvOk env scope L cl qual code)
    (hw : swappedStores [.Tuple elts k tpos] value { (default : Env) with scope := scope } = pure (some names))
    (h : wpAny (model prog w) A (eval value env) (fun v s₁ => wpAny (model prog w) A (unpackItems v names.length none) (fun items s₂ =>
      wpAny (model prog w) A (assignInOrder (names.reverse.map fun n => bindName env n) items.reverse) (fun _ => Q .next) E s₂) E s₁) E s)
    (hs : swapsWithSole [.Tuple elts k tpos] value pos.line env = pure false := by rfl) :
    wpAny (model prog w) A (exec (.Assign [.Tuple elts k tpos] value pos) env) Q E s :=
  Assign_Tuple_swapped h hs ((swapped_is EO).trans hw)
end
end Mine

/-! V20 -/
namespace Mine
theorem rangeV_get {a : Int} {k i : Nat} {v : V} (h : (rangeV a k)[i]? = some v) : i < k ∧ v = .int (a + (i : Int)) := by
  have hi : i < k := by
    have := List.getElem?_eq_some_iff.mp h; simpa [rangeV] using this.1
  refine ⟨hi, ?_⟩
  simp [rangeV, hi] at h
  exact h.symm
theorem rangeV_length {a : Int} {k : Nat} : (rangeV a k).length = k := by simp [rangeV]
section
variable {prog : Program} {w : World} {A : Around} {E : Value → Shared → Prop} {s : Shared} {K : Frag} {K₀ : Heap} {led : List (Nat × Mo)} {tmp : List (V × Nat)}
  {env : Env} {scope : Scope} {L : Nat} {cl : List (Str × Addr)} {qual : Str} {code : Value} {n : Nat}
noncomputable abbrev rangeIt (a : Int) (k i : Nat) : Mo := .obj { cls := .type "range_iterator", dict := none, data := .fields #[rawInt (a + (i : Int)), rawInt ((k : Int) - (i : Int)), rawInt 1], slots := #[] }
/-- iter(range(a, a + k)), the range itself forgotten -/
theorem r_pyIterRange1 {r : Nat} {a b : Int} {k : Nat} {t u v : Nat} {p : Nat × Mo} {Q : Value → Shared → Prop} (R : Rep K₀ (p :: (r, rangeMo a b 1 t u v) :: led) tmp s.heap) (hb : b = a + k) (ha : -(2 ^ 62) ≤ a) (hb2 : b < 2 ^ 62)
    (h : ∀ I h', Rep K₀ (p :: (I, rangeIt a k 0) :: led) tmp h' → Q (.ref I) (St s h' s.toks)) :
    wpAny (model prog w) A (pyIter (.ref r)) Q E s :=
  r_pyIterRange R (.tail _ (.head _)) hb ha hb2 fun I h' R => h I h' (Rep.dropIn (pre := [_, _]) R)
theorem r_asgTup {elts : List Expr} {k : Nat} {tpos pos : Pos} {value : Expr} {Q : Flow → Shared → Prop} (EO : EnvOk env scope L cl qual code)
    (hw : swappedStores [.Tuple elts k tpos] value { (default : Env) with scope := scope } = pure none)
    (h : wpAny (model prog w) A (eval value env) (fun v s₁ => wpAny (model prog w) A (assign (.Tuple elts k tpos) env v) (fun _ => Q .next) E s₁) E s)
    (hs : swapsWithSole [.Tuple elts k tpos] value pos.line env = pure false := by rfl) :
    wpAny (model prog w) A (exec (.Assign [.Tuple elts k tpos] value pos) env) Q E s :=
  Assign_Tuple h hs ((swapped_is EO).trans hw)
end
end Mine

namespace Mine
open_top hd for PySem.Challenge.rw_uk0010_01
end Mine

/-! V21 -/
namespace Mine
/-- a comprehension's scope, as its env sees it -/
noncomputable def relS (sc scope : Scope) : Scope := relabel sc { (default : Env) with scope := scope }
section
variable {prog : Program} {w : World} {A : Around} {E : Value → Shared → Prop} {s : Shared} {K : Frag} {K₀ : Heap} {led : List (Nat × Mo)} {tmp : List (V × Nat)}
  {env : Env} {scope : Scope} {L : Nat} {cl : List (Str × Addr)} {qual : Str} {code : Value} {n : Nat}
theorem relabel_is (EO : EnvOk env scope L cl qual code) {sc : Scope} : relabel sc env = relS sc scope := by
  have e : scope = env.scope := EO.sc.symm
  subst e
  rfl
theorem EnvOk.comp (EO : EnvOk env scope L cl qual code) {sc : Scope} {cl' : List (Str × Addr)} {C : Nat} (hk : sc.kind = .function) : EnvOk (compEnvC sc cl' C env) (relS sc scope) C cl' qual code :=
  ⟨relabel_is EO, rfl, EO.gl, rfl, EO.bu, EO.qu, EO.co, hk⟩
theorem swaps_is (EO : EnvOk env scope L cl qual code) {v : Expr} {t : Option Expr} {line : Nat} : swapsWith v t line env = swapsWith v t line { (default : Env) with scope := scope } := by
  have e : scope = env.scope := EO.sc.symm
  subst e
  rfl

noncomputable abbrev CompGo (prog : Program) (w : World) (A : Around) (env : Env) (elt : Expr) (x : Str) (px : Pos) (iter : Expr) (sc : Scope) (pos : Pos) (cl' : List (Str × Addr)) (RR : Value → Addr → Result → Shared → Prop) (E : Value → Shared → Prop) (it : Value) (s₂ : Shared) : Prop :=
  wpAny (model prog w) A (newList []) (fun acc s₃ => wpAny (model prog w) A (newFunctionEnv sc env.globals cl' [] env.qual none .none (some env)) (fun cenv s₄ =>
      codeAny (model prog w) A (.compStart (.ListComp elt [⟨.Name x px, iter, [], 0⟩] sc pos) 0 it acc { cenv with scope := relabel sc env }) (RR acc cenv.locals) s₄) E s₃) E s₂
theorem r_compBlock {I : Nat} {items outs : List V} {tp : List (V × Nat)} {ob : Nat → Mo} {elt iter : Expr} {x : Str} {px : Pos} {sc : Scope} {pos : Pos} {cl' : List (Str × Addr)} {RR : Value → Addr → Result → Shared → Prop}
    (W : Iter prog w A K₀ I items tp ob) (EO : EnvOk env scope L cl qual code) (R : Rep K₀ ((I, ob 0) :: led) tmp s.heap) (htp : ∀ p ∈ tp, p ∈ tmp)
    (hself : ∀ (led' : List (Nat × Mo)) (s : Shared) (Q : Value → Shared → Prop) E, Rep K₀ ((I, ob 0) :: led') tmp s.heap → Q (.ref I) s → wpAny (model prog w) A (pyIter (.ref I)) Q E s)
    (hlen : outs.length = items.length) (hsz : items.length ≤ 1000)
    (hcell : ∀ y ∈ sc.names, y.2 ≠ .cell) (hkind : sc.kind = .function) (hx : (relS sc scope).names.lookup x = some .local)
    (turn : ∀ C D i v u t (s : Shared) (E' : Value → Shared → Prop), items[i]? = some v → outs[i]? = some u → EnvOk (compEnvC sc cl' C env) (relS sc scope) C cl' qual code →
      Rep K₀ ((C, .ns [(x, v)]) :: (D, .pl (outs.take i)) :: (I, ob (i + 1)) :: led) ((v, t) :: tmp) s.heap →
      wpAny (model prog w) A (eval elt (compEnvC sc cl' C env)) (fun y s' => ∃ tm' h' tk, Bear tm' u y ∧ (∀ p ∈ tmp, p ∈ tm') ∧ Rep K₀ ((C, .ns [(x, v)]) :: (D, .pl (outs.take i)) :: (I, ob (i + 1)) :: led) tm' h' ∧ s' = (St s h' tk)) E' s)
    (h : ∀ C D l h' tk, Rep K₀ ((C, .ns l) :: (D, .pl outs) :: led) tmp h' → RR (.ref D) C (.ok .next) (St s h' tk)) :
    CompGo prog w A env elt x px iter sc pos cl' RR E (.ref I) s := by
  refine wpAny_newList ?_ (by decide)
  have R1 : Rep K₀ ((s.heap.objs.size, .pl []) :: (I, ob 0) :: led) tmp (s.heap.push { cls := .type "list", data := .seq ([] : List Value).toArray }) :=
    R.fresh (push_keeps _ _) (Rep.none_at_size _) fun B RB => ⟨#[], 0, Heap.get?_push_size _ rfl, RepL.nil B⟩
  refine wpAny_newFunctionEnv hcell (by intro y hy; simp at hy) (fun h₁ hns₁ hsb₁ => ?_) hkind
  have R2 : Rep K₀ (((s.heap.push { cls := .type "list", data := .seq ([] : List Value).toArray }).objs.size, .ns []) :: (s.heap.objs.size, .pl []) :: (I, ob 0) :: led) tmp h₁ :=
    R1.fresh (fun b o e => hsb₁.extBut b o (Nat.ne_of_lt (Heap.lt_size e)) (Heap.get?_push_of_some _ e)) (Rep.none_at_size _) fun B RB => ⟨_, hns₁, fun x v e => by cases e⟩
  generalize (s.heap.push { cls := .type "list", data := .seq ([] : List Value).toArray }).objs.size = C at R2 ⊢
  generalize s.heap.objs.size = D at R2 ⊢
  have EO' := EO.comp (sc := sc) (cl' := cl') (C := C) hkind
  have loop : ∀ s₃ : Shared, (∃ tk, s₃ = (St s h₁ tk)) →
      codeAny (model prog w) A (.compLoop (.ListComp elt [⟨.Name x px, iter, [], 0⟩] sc pos) 0 (.ref I) (.ref D) (compEnvC sc cl' C env)) (RR (.ref D) C) s₃ := by
    rintro s₃ ⟨tk, rfl⟩
    refine codeAny_compLoop_tests (fun k s' => ∃ i l h' tk, k = items.length - i ∧ i ≤ items.length ∧ Rep K₀ ((C, .ns l) :: (D, .pl (outs.take i)) :: (I, ob i) :: led) tmp h' ∧ s' = (St s h' tk)) ?_ items.length
      ⟨0, [], h₁, tk, by exact om448 hlen hsz, by exact om449 hlen hsz, R2, rfl⟩
    rintro k s' ⟨i, l, h', tk', rfl, hi, R3, rfl⟩
    by_cases hlt : i < items.length
    · obtain ⟨v, hv⟩ : ∃ v, items[i]? = some v := ⟨_, List.getElem?_eq_getElem hlt⟩
      obtain ⟨u, hu⟩ : ∃ u, outs[i]? = some u := ⟨_, List.getElem?_eq_getElem (by exact om450 hlen hlt)⟩
      refine W.item i v _ tmp _ _ _ hv (Rep.up2 R3) htp fun h₂ tk₂ t R4 => ?_
      refine wpAny_assign_Name (r_store EO' (v := v) (Rep.dn2 R4) hx (Bear.mem (.head _)) fun h₃ tk₃ R5 => ?_)
      refine wpAny_tests_nil ?_
      simp only [if_true]
      have R6 := Rep.loc [(x, v)] R5 ⟨by simp [lk], trivial⟩
      refine wpAny_mono (turn C D i v u t _ _ hv hu EO' R6) (fun y s₄ ⟨tm', h₄, tk₄, hb, hsub, R7, e4⟩ => ?_) fun _ _ e => e
      subst e4
      refine r_append (Rep.swap R7) (by rw [List.length_take]; exact om451 hlen hsz hlt) hb fun h₅ R8 => ?_
      have e5 : outs.take i ++ [u] = outs.take (i + 1) := by rw [List.take_succ, hu]; rfl
      rw [e5] at R8
      exact ⟨items.length - (i + 1), by exact om452 hlt, i + 1, _, h₅, tk₄, rfl, by exact om412 hlt, Rep.drop (Rep.swap R8) hsub, rfl⟩
    · have e : i = items.length := by exact om453 hi hlt
      subst e
      refine W.done _ tmp _ _ _ (Rep.up2 R3) htp fun h₂ tk₂ R4 => ?_
      rw [List.take_of_length_le (by exact om454 hlen)] at R4
      exact h C D _ _ _ R4
  exact codeAny_compStart_list (loop _ ⟨_, rfl⟩) (hself _ _ _ _ (Rep.up2 R2) (loop _ ⟨_, rfl⟩))
/-- [elt for x in iter] -/
theorem r_listComp {elt iter : Expr} {x : Str} {px : Pos} {sc : Scope} {pos : Pos} {cl' : List (Str × Addr)} {Q : Value → Shared → Prop} (EO : EnvOk env scope L cl qual code)
    (hclos : closureFor sc { (default : Env) with cells := cl } = pure cl') (hkind : sc.kind = .function)
    (hnames : ∀ y ∈ sc.names, y.2 = .local → sc.names.lookup y.1 = some .local)
    (h : wpAny (model prog w) A (eval iter env) (fun xv s₁ => wpAny (model prog w) A (pyIter xv) (fun it s₂ => CompGo prog w A env elt x px iter sc pos cl' (fun acc C => compPost (model prog w) A E none Q acc C) E it s₂) E s₁) E s)
    (hs : ∀ x, foldedSetIterable iter env x = pure x := by intro _; rfl) :
    wpAny (model prog w) A (eval (.ListComp elt [⟨.Name x px, iter, [], 0⟩] sc pos) env) Q E s := by
  rw [eval_ListComp]
  exact wpAny_comprehension_free (use := none) rfl hs ((closureFor_cells EO).trans hclos) hkind hnames h
theorem compEnd {C D : Nat} {l : List (Str × V)} {vs : List V} {h' : Heap} {tk : Nat} {Q : Value → Shared → Prop} (R : Rep K₀ ((C, .ns l) :: (D, .pl vs) :: led) tmp h')
    (h : ∀ h'', Rep K₀ led ((.lst vs, D) :: tmp) h'' → Q (.ref D) (St s h'' tk)) : compPost (model prog w) A E none Q (.ref D) C (.ok .next) (St s h' tk) := by
  have R0 := R
  obtain ⟨B, RB⟩ := R
  obtain ⟨mm, hn, _⟩ := RB.led.1.2.2.1
  exact ⟨mm, hn, fun h'' hs'' => h h'' (Rep.freezePl (R0.lose hs''.extBut))⟩
/-- y = [elt for x in iter], y a local name on one line with it -/
theorem r_asgComp {elt iter : Expr} {x y : Str} {px py : Pos} {sc : Scope} {pos spos : Pos} {cl' : List (Str × Addr)} {Q : Flow → Shared → Prop} (EO : EnvOk env scope L cl qual code)
    (hsw : swapsWith (.ListComp elt [⟨.Name x px, iter, [], 0⟩] sc pos) (some (.Name y py)) spos.line { (default : Env) with scope := scope } = pure true)
    (hclos : closureFor sc { (default : Env) with cells := cl } = pure cl') (hkind : sc.kind = .function)
    (hnames : ∀ y ∈ sc.names, y.2 = .local → sc.names.lookup y.1 = some .local)
    (h : wpAny (model prog w) A (eval iter env) (fun xv s₁ => wpAny (model prog w) A (pyIter xv) (fun it s₂ => CompGo prog w A env elt x px iter sc pos cl' (fun acc C => compPost (model prog w) A E (some (assign (.Name y py) env)) (fun _ s' => Q .next s') acc C) E it s₂) E s₁) E s)
    (hs : ∀ x, foldedSetIterable iter env x = pure x := by intro _; rfl) :
    wpAny (model prog w) A (exec (.Assign [.Name y py] (.ListComp elt [⟨.Name x px, iter, [], 0⟩] sc pos) spos) env) Q E s := by
  rw [exec_Assign_Name_used _ _ _ _ ((swaps_is EO).trans hsw)]
  refine wpAny_bind (wpAny_standAt (wpAny_bind ?_))
  show wpAny _ A (do let _ ← comprehension (.ListComp elt [⟨.Name x px, iter, [], 0⟩] sc pos) sc env _ (newList []) false (eval iter env) (some (assign (.Name y py) env))) _ _ s
  exact wpAny_bind (wpAny_mono (wpAny_comprehension_free (use := some (assign (.Name y py) env)) (Q := fun _ s' => Q .next s') rfl hs ((closureFor_cells EO).trans hclos) hkind hnames h) (fun _ s' hq => wpAny_pure (wpAny_pure hq)) fun _ _ e => e)
theorem compEndA {C D : Nat} {l lL : List (Str × V)} {vs : List V} {y : Str} {py : Pos} {h' : Heap} {tk : Nat} {Q : Value → Shared → Prop} (EO : EnvOk env scope L cl qual code) (R : Rep K₀ ((C, .ns l) :: (D, .pl vs) :: (L, .ns lL) :: led) tmp h')
    (hy : scope.names.lookup y = some .local)
    (h : ∀ h'' tk', Rep K₀ ((L, .ns ((y, .lst vs) :: lL)) :: led) ((.lst vs, D) :: tmp) h'' → Q .none (St s h'' tk')) : compPost (model prog w) A E (some (assign (.Name y py) env)) Q (.ref D) C (.ok .next) (St s h' tk) := by
  have R1 : Rep K₀ ((C, .ns l) :: (L, .ns lL) :: led) ((.lst vs, D) :: tmp) h' := Rep.swap (Rep.freezePl (Rep.swap R)) |> Rep.swap
  show wpAny _ A (assign (.Name y py) env (.ref D)) _ _ _
  refine wpAny_assign_Name (r_store EO (Rep.swap R1) hy (Bear.lst List.mem_cons_self) fun h₂ tk₂ R2 => ?_)
  have R3 := Rep.swap R2
  have R4 := R3
  obtain ⟨B, RB⟩ := R3
  obtain ⟨mm, hn, _⟩ := RB.led.1.2.2.1
  exact ⟨mm, hn, fun h'' hs'' => h h'' _ (R4.lose hs''.extBut)⟩
end
end Mine

/-! V22 -/
namespace Mine
/-- a text of these characters -/
noncomputable abbrev strL (l : List Nat) : Str := ⟨l.toArray⟩
theorem Bear.strE {tmp : List (V × Nat)} {x y : Str} {t : Nat} (e : y = x) : Bear tmp (.str x) (.str y t) := by subst e; exact Bear.str
theorem Bear.intE {tmp : List (V × Nat)} {x y : Int} {t : Nat} (e : y = x) : Bear tmp (.int x) (.int y t) := by subst e; exact Bear.int
section
variable {prog : Program} {w : World} {A : Around} {E : Value → Shared → Prop} {s : Shared} {K : Frag} {K₀ : Heap} {led : List (Nat × Mo)} {tmp : List (V × Nat)}
  {env : Env} {scope : Scope} {L : Nat} {cl : List (Str × Addr)} {qual : Str} {code : Value} {n : Nat}
theorem r_addL {a b : Nat} {vs ws : List V} {Q : Value → Shared → Prop} (R : Rep K₀ led tmp s.heap) (ha : LAt K₀ led tmp a vs) (hb : LAt K₀ led tmp b ws) (hl : vs.length + ws.length ≤ 2 ^ 20)
    (h : ∀ t h', Rep K₀ led ((.lst (vs ++ ws), t) :: tmp) h' → Q (.ref t) (St s h' s.toks)) : wpAny (model prog w) A (binaryOp .Add (.ref a) (.ref b)) Q E s := by
  have R0 := R
  obtain ⟨B, RB⟩ := R
  obtain ⟨i1, hl1, rl1⟩ := ha B _ RB
  obtain ⟨i2, hl2, rl2⟩ := hb B _ RB
  have e1 := rl1.length
  have e2 := rl2.length
  rw [Array.length_toList] at e1 e2
  obtain ⟨⟨cls, dd, data, sl⟩, ho, hc, n, hd⟩ := hl1
  obtain ⟨⟨cls2, dd2, data2, sl2⟩, ho2, hc2, n2, hd2⟩ := hl2
  simp only at hc hd hc2 hd2
  subst hc hd hc2 hd2
  have hsz : i1.size + i2.size ≤ sizeLine := by rw [e1, e2]; exact Nat.le_trans hl (by decide)
  refine concat_meets ⟨_, ho, rfl⟩ ⟨_, ho2, rfl⟩ noFill_list_add seq_list_add PySem.F.slot_list_add PySem.F.entry_list_add (PySem.F.args_list_add_2 _ _) (list_addW a b i1 i2 n n2 dd dd2 sl sl2 hsz) ⟨ho, ho2, ?_⟩
  refine h _ _ (R0.frz (push_keeps _ _) (Rep.none_at_size _) (Heap.get?_push_size _ rfl) fun B' RB' le => ?_)
  obtain ⟨j1, hj1, rj1⟩ := ha B' _ RB'
  obtain ⟨j2, hj2, rj2⟩ := hb B' _ RB'
  have q1 : j1 = i1 := by
    obtain ⟨o, e, _, m, d⟩ := hj1
    rw [ho] at e; cases e; cases d; rfl
  have q2 : j2 = i2 := by
    obtain ⟨o, e, _, m, d⟩ := hj2
    rw [ho2] at e; cases e; cases d; rfl
  subst q1 q2
  simp only [RepT]
  exact ⟨_, _, _, Bs.put_self _ _ _, rfl, rfl, by rw [Array.toList_append]; exact RepL.append (RepL.mono le _ rj1) (RepL.mono le _ rj2)⟩
theorem RepL.ints {B : Bs} : ∀ {xs : List Int} {l : List Value}, RepL B (xs.map V.int) l → ∀ {i : Nat} (h : i < l.length), ∃ t, l[i] = .int (xs.getD i 0) t
  | [], l, h, i, hi => by simp only [List.map_nil, RepL] at h; subst h; cases hi
  | x :: xs, l, h, i, hi => by
    simp only [List.map_cons, RepL] at h
    obtain ⟨t, r, rfl, _, b⟩ := h
    cases i with
    | zero => exact ⟨t, rfl⟩
    | succ i =>
      obtain ⟨u, e⟩ := RepL.ints b (i := i) (by simpa using hi)
      exact ⟨u, by simpa using e⟩
theorem ints_all (xs : List Int) (k : Nat) : (List.range k).all (fun j => xs.getD j 0 == xs.getD j 0) = true := by simp
/-- lists of the same ints -/
theorem r_neSame {a b : Nat} {xs : List Int} {Q : Value → Shared → Prop} (AO : AOk A n) (R : Rep K₀ led tmp s.heap) (ha : LAt K₀ led tmp a (xs.map V.int)) (hb : LAt K₀ led tmp b (xs.map V.int)) (h : Q (.bool false) s) :
    wpAny (model prog w) A (compareOp .NotEq (.ref a) (.ref b)) Q E s := by
  obtain ⟨B, RB⟩ := R
  obtain ⟨i1, hl1, rl1⟩ := ha B _ RB
  obtain ⟨i2, hl2, rl2⟩ := hb B _ RB
  have e1 := rl1.length
  have e2 := rl2.length
  rw [Array.length_toList] at e1 e2
  have hu : A.units < cLine := Nat.lt_of_le_of_lt (Nat.le_add_right _ _) AO.units
  refine EqBoolInt.of_rcne (SeqAt.RcNeAt.lists hl1 hl2 (by rw [e1, e2]) hu (e := fun j => xs.getD j 0 == xs.getD j 0) fun j h1 h2 => ?_) (by rw [ints_all]; exact h)
  obtain ⟨t, q1⟩ := rl1.ints (i := j) (by simpa using h1)
  obtain ⟨u, q2⟩ := rl2.ints (i := j) (by simpa using h2)
  rw [Array.getElem_toList] at q1 q2
  rw [q1, q2]
  exact fun prog w E Q hq => wpAny_eqBool_int hq
/-- x == [], x of some items -/
theorem r_eqNil {a b : Nat} {vs ws : List V} {Q : Value → Shared → Prop} (AO : AOk A n) (R : Rep K₀ led tmp s.heap) (ha : LAt K₀ led tmp a vs) (hb : LAt K₀ led tmp b ws) (hne : vs.length ≠ ws.length) (h : Q (.bool false) s) :
    wpAny (model prog w) A (compareOp .Eq (.ref a) (.ref b)) Q E s := by
  obtain ⟨B, RB⟩ := R
  obtain ⟨i1, hl1, rl1⟩ := ha B _ RB
  obtain ⟨i2, hl2, rl2⟩ := hb B _ RB
  have e1 := rl1.length
  have e2 := rl2.length
  rw [Array.length_toList] at e1 e2
  have hu : A.units < cLine := Nat.lt_of_le_of_lt (Nat.le_add_right _ _) AO.units
  exact SeqAt.eq_list_lengthsAt hl1 hl2 (by rw [e1, e2]; simpa using hne) hu h
theorem foldl_app (l : List Nat) : ∀ (k : Nat) (acc : Array Nat), (List.replicate k l.toArray).foldl (· ++ ·) acc = acc ++ ((List.replicate k l).flatten).toArray
  | 0, acc => by simp
  | k + 1, acc => by
    rw [List.replicate_succ, List.foldl_cons, foldl_app l k]
    apply Array.toList_inj.mp
    simp [List.replicate_succ]
theorem r_strMul {h₀ : Heap} {t₀ : Nat} {x : Str} {i : Int} {t u : Tok} {Q : Value → Shared → Prop} (hi : i ≤ 1000) (h0 : -1000 ≤ i) (hx : x.cps.size ≤ 1000)
    (h : ∀ tk t, Q (.str (strL (List.replicate i.toNat x.cps.toList).flatten) t) (St s h₀ tk)) : wpAny (model prog w) A (binaryOp .Mult (.str x t) (.int i u)) Q E (St s h₀ t₀) := by
  have hprod : ∀ (_ : ¬ i < 1), x.cps.size * i.toNat ≤ 1000 * 1000 := fun _ => Nat.mul_le_mul hx (by exact om455 hi h0 (by assumption))
  have h64 : (2 : Int) ^ 63 = 9223372036854775808 := by decide
  have e0 : ((List.replicate i.toNat x.cps.toList).flatten).length ≤ 1000 * 1000 := by
    rw [List.length_flatten, List.map_replicate, List.sum_replicate_nat, Array.length_toList]
    rw [Nat.mul_comm]
    exact Nat.mul_le_mul hx (by exact om456 hi h0)
  refine P.mul_str ?_ (fun hn _ => ?_) (fun hn _ => ?_) ?_
  · rw [h64]; simp; exact om457 hi h0
  · rw [h64]
    have h1 : (9223372036854775808 - 1 : Int) / i ≥ 1000 := by
      rw [ge_iff_le, Int.le_ediv_iff_mul_le (by exact om458 hi h0 hn)]; exact om459 hi h0 hn
    show ¬ ((x.cps.size : Int) > _)
    exact om460 hx h1
  · have := hprod hn
    unfold Builtin.Str.tooLong
    show decide (x.cps.size * i.toNat > sizeLine) = false
    have q : (1000 * 1000 : Nat) ≤ sizeLine := by decide
    simp; exact om461 this q
  · by_cases h1 : i < 1
    · rw [if_pos h1]
      have e : i.toNat = 0 := by exact om462 hi h0 h1
      rw [e] at h
      exact ⟨by show 0 ≤ sizeLine; exact Nat.zero_le _, h _ _⟩
    · rw [if_neg h1]
      by_cases h2 : (i == 1 || x.length == 0) = true
      · rw [if_pos h2]
        have e : strL (List.replicate i.toNat x.cps.toList).flatten = x := by
          simp only [Bool.or_eq_true, beq_iff_eq] at h2
          rcases h2 with h2 | h2
          · subst h2; simp
          · have : x.cps = #[] := by
              have : x.cps.size = 0 := h2
              simpa using this
            cases x; subst this; simp
        rw [e] at h
        exact h _ _
      · rw [if_neg h2]
        have e : (⟨(List.replicate i.toNat x.cps).foldl (· ++ ·) #[]⟩ : Str) = strL (List.replicate i.toNat x.cps.toList).flatten := by
          have := foldl_app x.cps.toList i.toNat #[]
          rw [Array.toArray_toList] at this
          rw [this]; simp
        rw [e]
        exact ⟨by show (List.toArray _).size ≤ sizeLine; rw [List.size_toArray]; exact Nat.le_trans e0 (by decide), h _ _⟩
theorem r_strAdd {h₀ : Heap} {t₀ : Nat} {x y : Str} {t u : Tok} {Q : Value → Shared → Prop} (hx : x.cps.size + y.cps.size ≤ 1000000)
    (h : ∀ tk t, Q (.str (strL (x.cps.toList ++ y.cps.toList)) t) (St s h₀ tk)) : wpAny (model prog w) A (binaryOp .Add (.str x t) (.str y u)) Q E (St s h₀ t₀) := by
  refine P.add_str ?_
  by_cases h1 : (x.length == 0) = true
  · rw [if_pos h1]
    have e : strL (x.cps.toList ++ y.cps.toList) = y := by
      have : x.cps = #[] := by
        have : x.length = 0 := by simpa using h1
        exact Array.eq_empty_of_size_eq_zero this
      rw [this]; simp
    rw [e] at h; exact h _ _
  · rw [if_neg h1]
    by_cases h2 : (y.length == 0) = true
    · rw [if_pos h2]
      have e : strL (x.cps.toList ++ y.cps.toList) = x := by
        have : y.cps = #[] := by
          have : y.length = 0 := by simpa using h2
          exact Array.eq_empty_of_size_eq_zero this
        rw [this]; simp
      rw [e] at h; exact h _ _
    · rw [if_neg h2]
      have e : x ++ y = strL (x.cps.toList ++ y.cps.toList) := by
        show (⟨x.cps ++ y.cps⟩ : Str) = _
        simp
      rw [e]
      refine ⟨?_, h _ _⟩
      show (List.toArray _).size ≤ sizeLine
      rw [List.size_toArray, List.length_append, Array.length_toList, Array.length_toList]
      exact Nat.le_trans hx (by decide)
theorem r_pow {h₀ : Heap} {t₀ : Nat} {a c : Int} {k : Nat} {t u : Tok} {Q : Value → Shared → Prop} (e : a ^ k = c) (hk : k ≤ 100) (ha : a.natAbs < 2 ^ 64) (h : ∀ tk t, Q (.int c t) (St s h₀ tk)) :
    wpAny (model prog w) A (binaryOp .Pow (.int a t) (.int (k : Int) u)) Q E (St s h₀ t₀) :=
  pow_int_small (by exact om463 hk) (by exact om464 hk) ha (by rw [Int.toNat_natCast, e]; exact h _ _)
end
end Mine

/-! VE -/
namespace Mine
/-! whole expressions over plain locals, in one step -/
noncomputable def opF : Operator → UInt64 → UInt64 → (V → Prop) → Prop
  | .Add, a, b, k => k (.float (Float64.add a b))
  | .Sub, a, b, k => k (.float (Float64.sub a b))
  | .Mult, a, b, k => k (.float (Float64.mul a b))
  | .Div, a, b, k => Float64.isZero b = false ∧ k (.float (Float64.div a b))
  | .Mod, a, b, k => Float64.isZero b = false ∧ k (.float (Float64.divmod a b).2)
  | _, _, _, _ => False
noncomputable def opI : Operator → Int → Int → (V → Prop) → Prop
  | .Add, a, b, k => k (.int (a + b))
  | .Sub, a, b, k => k (.int (a - b))
  | _, _, _, _ => False
noncomputable def opFI : Operator → UInt64 → Int → (V → Prop) → Prop
  | .Add, a, i, k => i.natAbs < 2 ^ 200 ∧ k (.float (Float64.add a (Float64.ofInt i)))
  | .Sub, a, i, k => i.natAbs < 2 ^ 200 ∧ k (.float (Float64.sub a (Float64.ofInt i)))
  | _, _, _, _ => False
noncomputable def opIF : Operator → Int → UInt64 → (V → Prop) → Prop
  | .Mult, i, a, k => i.natAbs < 2 ^ 200 ∧ k (.float (Float64.mul (Float64.ofInt i) a))
  | .Sub, i, a, k => i.natAbs < 2 ^ 200 ∧ k (.float (Float64.sub (Float64.ofInt i) a))
  | _, _, _, _ => False
noncomputable def op2 (op : Operator) (x y : V) (k : V → Prop) : Prop := match x with
  | .float a => (match y with | .float b => opF op a b k | .int b => opFI op a b k | _ => False)
  | .int a => (match y with | .float b => opIF op a b k | .int b => opI op a b k | _ => False)
  | _ => False
noncomputable def isLoc (sc : Scope) (x : Str) : Bool := match sc.names.lookup x with | some .local => !(x == ("__debug__" : Str)) | _ => false
noncomputable def wName (l : List (Str × V)) (sc : Scope) (x : Str) (k : V → Prop) : Prop := match isLoc sc x with
  | true => (match lk l x with
    | some v => (match v.flat with | true => k v | false => False)
    | none => False)
  | false => False
noncomputable def wConst (c : Const) (k : V → Prop) : Prop := match c with
  | .float x => k (.float x)
  | .int i => k (.int i)
  | _ => False
noncomputable def wE (l : List (Str × V)) (sc : Scope) : Nat → Expr → (V → Prop) → Prop
  | 0 => fun _ _ => False
  | n + 1 => fun e k => match e with
    | .Name x _ => wName l sc x k
    | .Constant c _ _ => wConst c k
    | .BinOp a op b _ => wE l sc n a fun va => wE l sc n b fun vb => op2 op va vb k
    | _ => False
noncomputable def wEs (l : List (Str × V)) (sc : Scope) : List Expr → (List V → Prop) → Prop
  | [], k => k []
  | e :: es, k => wE l sc 9 e fun v => wEs l sc es fun vs => k (v :: vs)
section
variable {prog : Program} {w : World} {A : Around} {E : Value → Shared → Prop} {s : Shared} {h₀ : Heap} {tk : Nat} {K₀ : Heap} {led : List (Nat × Mo)} {tmp : List (V × Nat)} {n : Nat} {env : Env} {scope : Scope} {L : Nat} {cl : List (Str × Addr)} {qual : Str} {code : Value} {l : List (Str × V)}
theorem isLoc_is {sc : Scope} {x : Str} (h : isLoc sc x = true) : sc.names.lookup x = some .local ∧ (x == ("__debug__" : Str)) = false := by
  unfold isLoc at h
  split at h
  · next e => exact ⟨e, by simpa using h⟩
  · cases h
theorem opF_ok (AO : AOk A n) {op : Operator} {a b : UInt64} {t u : Nat} {k : V → Prop} {Q : Value → Shared → Prop} (hk : opF op a b k) (h : ∀ v, v.flat = true → k v → ∀ t tk, Q (v.conc t) (St s h₀ tk)) :
    wpAny (model prog w) A (binaryOp op (.float a t) (.float b u)) Q E (St s h₀ tk) := by
  cases op with
  | Add => exact add_float (h (.float _) rfl hk _ _)
  | Sub => exact sub_float (h (.float _) rfl hk _ _)
  | Mult => exact mul_float (h (.float _) rfl hk _ _)
  | Div => exact r_fdiv AO hk.1 fun _ _ => h (.float _) rfl hk.2 _ _
  | Mod => exact r_fmod AO hk.1 fun _ _ => h (.float _) rfl hk.2 _ _
  | _ => exact hk.elim
theorem opI_ok {op : Operator} {a b : Int} {t u : Nat} {k : V → Prop} {Q : Value → Shared → Prop} (hk : opI op a b k) (h : ∀ v, v.flat = true → k v → ∀ t tk, Q (v.conc t) (St s h₀ tk)) :
    wpAny (model prog w) A (binaryOp op (.int a t) (.int b u)) Q E (St s h₀ tk) := by
  cases op with
  | Add => exact P.add_int (h (.int _) rfl hk _ _)
  | Sub => exact P.sub_int (h (.int _) rfl hk _ _)
  | _ => exact hk.elim
theorem opFI_ok (AO : AOk A n) {op : Operator} {a : UInt64} {b : Int} {t u : Nat} {k : V → Prop} {Q : Value → Shared → Prop} (hk : opFI op a b k) (h : ∀ v, v.flat = true → k v → ∀ t tk, Q (v.conc t) (St s h₀ tk)) :
    wpAny (model prog w) A (binaryOp op (.float a t) (.int b u)) Q E (St s h₀ tk) := by
  cases op with
  | Add => exact r_addfi AO hk.1 fun _ _ => h (.float _) rfl hk.2 _ _
  | Sub => exact r_subfi AO hk.1 fun _ _ => h (.float _) rfl hk.2 _ _
  | _ => exact hk.elim
theorem opIF_ok (AO : AOk A n) {op : Operator} {a : Int} {b : UInt64} {t u : Nat} {k : V → Prop} {Q : Value → Shared → Prop} (hk : opIF op a b k) (h : ∀ v, v.flat = true → k v → ∀ t tk, Q (v.conc t) (St s h₀ tk)) :
    wpAny (model prog w) A (binaryOp op (.int a t) (.float b u)) Q E (St s h₀ tk) := by
  cases op with
  | Mult => exact r_mulif AO hk.1 fun _ _ => h (.float _) rfl hk.2 _ _
  | Sub => exact r_subif AO hk.1 fun _ _ => h (.float _) rfl hk.2 _ _
  | _ => exact hk.elim
set_option maxHeartbeats 4000000 in
theorem op2_ok (AO : AOk A n) {op : Operator} {a b : V} {t u : Nat} {k : V → Prop} {Q : Value → Shared → Prop} (hk : op2 op a b k) (h : ∀ v, v.flat = true → k v → ∀ t tk, Q (v.conc t) (St s h₀ tk)) :
    wpAny (model prog w) A (binaryOp op (a.conc t) (b.conc u)) Q E (St s h₀ tk) := by
  unfold op2 at hk
  split at hk
  · split at hk
    · exact opF_ok (t := t) (u := u) (Q := Q) AO hk h
    · exact opFI_ok (t := t) (u := u) (Q := Q) AO hk h
    · exact hk.elim
  · split at hk
    · exact opIF_ok (t := t) (u := u) (Q := Q) AO hk h
    · exact opI_ok (t := t) (u := u) (Q := Q) hk h
    · exact hk.elim
  · exact hk.elim
theorem wE_inv {m : Nat} {e : Expr} {k : V → Prop} (h : wE l scope (m + 1) e k) : (∃ x p, e = .Name x p ∧ wName l scope x k) ∨ (∃ c kk p, e = .Constant c kk p ∧ wConst c k)
    ∨ ∃ a op b p, e = .BinOp a op b p ∧ wE l scope m a fun va => wE l scope m b fun vb => op2 op va vb k := by
  cases e with
  | Name x p => exact .inl ⟨x, p, rfl, h⟩
  | Constant c kk p => exact .inr (.inl ⟨c, kk, p, rfl, h⟩)
  | BinOp a op b p => exact .inr (.inr ⟨a, op, b, p, rfl, h⟩)
  | _ => exact False.elim h
theorem wE_ok (EO : EnvOk env scope L cl qual code) (AO : AOk A n) (R : Rep K₀ ((L, .ns l) :: led) tmp h₀) : ∀ (m : Nat) (e : Expr) (tk : Nat) (k : V → Prop) (Q : Value → Shared → Prop), wE l scope m e k →
    (∀ v, v.flat = true → k v → ∀ t tk, Q (v.conc t) (St s h₀ tk)) → wpAny (model prog w) A (eval e env) Q E (St s h₀ tk) := by
  intro m
  induction m with
  | zero => intro e tk k Q hk h; exact False.elim hk
  | succ m ih =>
    intro e tk k Q hk h
    rcases wE_inv hk with ⟨x, pos, rfl, hk⟩ | ⟨c, kk, pos, rfl, hk⟩ | ⟨a, op, b, pos, rfl, hk⟩
    · replace hk : wName l scope x k := hk
      unfold wName at hk
      split at hk
      · next hl =>
        obtain ⟨hx, hd⟩ := isLoc_is hl
        split at hk
        · next v hv =>
          split at hk
          · next hf => exact r_locS (s := St s h₀ tk) EO R hv hf (fun t => h v hf hk t tk) hx hd
          · exact hk.elim
        · exact hk.elim
      · exact hk.elim
    · cases c with
      | int i => exact wpAny_Constant_int (h (.int _) rfl hk _ _)
      | float i => exact wpAny_Constant_float (h (.float _) rfl hk _ _)
      | _ => exact False.elim hk
    · exact wpAny_BinOp (ih a tk _ _ hk fun va _ hk t tk => ih b tk _ _ hk fun vb _ hk u tk => op2_ok AO hk h)
theorem r_ev {e : Expr} {Q : Value → Shared → Prop} (EO : EnvOk env scope L cl qual code) (AO : AOk A n) (R : Rep K₀ ((L, .ns l) :: led) tmp h₀)
    (h : wE l scope 9 e fun v => ∀ t tk, Q (v.conc t) (St s h₀ tk)) : wpAny (model prog w) A (eval e env) Q E (St s h₀ tk) :=
  wE_ok EO AO R 9 e tk _ Q h fun _ _ hk => hk
theorem Bear.ofFlat {v : V} {t : Nat} (h : v.flat = true) : Bear tmp v (v.conc t) := by
  cases v <;> first | exact Bear.int | exact Bear.float | exact Bear.str | exact Bear.bool | exact Bear.none | exact Bear.raw | cases h
theorem RepT.ofFlat {B : Bs} {v : V} {t : Nat} (h : v.flat = true) : RepT B v t := by
  cases v <;> first | (simp only [RepT]; done) | cases h
theorem wE_plain {m : Nat} {e : Expr} {k : V → Prop} (h : wE l scope m e k) (x : Expr) (ln : Nat) : swapsWith e (some x) ln env = pure false ∧ ∀ rest, starEach (e :: rest) env = (false, eval e env) :: starEach rest env := by
  cases m with
  | zero => exact False.elim h
  | succ m => rcases wE_inv h with ⟨_, _, rfl, _⟩ | ⟨_, _, _, rfl, _⟩ | ⟨_, _, _, _, rfl, _⟩ <;> exact ⟨rfl, fun _ => rfl⟩
theorem r_asgE {x : Str} {e : Expr} {p1 p2 : Pos} {rest : List Stmt} {Q : Flow → Shared → Prop} (EO : EnvOk env scope L cl qual code) (AO : AOk A n) (R : Rep K₀ ((L, .ns l) :: led) tmp h₀)
    (h : wE l scope 9 e fun v => ∀ h' tk, Rep K₀ ((L, .ns ((x, v) :: l)) :: led) tmp h' → wpAny (model prog w) A (execs rest env) Q E (St s h' tk)) (hx : scope.names.lookup x = some .local := by rfl) :
    wpAny (model prog w) A (execs (.Assign [.Name x p1] e p2 :: rest) env) Q E (St s h₀ tk) := by
  refine wpAny_execs_cons (wpAny_Assign_Name (wE_ok EO AO R 9 e tk _ _ h fun v hf hk t tk => ?_) (wE_plain h _ _).1)
  refine r_store (s := St s h₀ tk) EO R hx (Bear.ofFlat hf) fun h' tk R => ?_
  exact hk h' tk R
theorem wEs_ok (EO : EnvOk env scope L cl qual code) (AO : AOk A n) (R : Rep K₀ ((L, .ns l) :: led) tmp h₀) {pos : Pos} : ∀ (es : List Expr) (tk : Nat) (k : List V → Prop) (Q : List Value → Shared → Prop), wEs l scope es k →
    (∀ vs xs, (∀ B, RepL B vs xs) → xs.length = es.length → k vs → ∀ tk, Q xs (St s h₀ tk)) → wpAny (model prog w) A (spliced (backTo pos (starEach es env))) Q E (St s h₀ tk) := by
  intro es
  induction es with
  | nil => intro tk k Q hk h; exact wpAny_items_nil (h [] [] (fun _ => by simp only [RepL]) rfl hk tk)
  | cons e es ih =>
    intro tk k Q hk h
    refine wpAny_items_cons (wE_ok EO AO R 9 e tk _ _ hk fun v hf hk t tk => ?_) ((wE_plain hk e 0).2 es)
    refine ih tk _ _ hk fun vs xs hr hl hk tk => h (v :: vs) (v.conc t :: xs) (fun B => ?_) (by simp [hl]) hk tk
    simp only [RepL]
    first | exact ⟨RepT.ofFlat hf, hr B⟩ | exact ⟨t, rfl, RepT.ofFlat hf, hr B⟩ | exact ⟨t, xs, rfl, RepT.ofFlat hf, hr B⟩
theorem r_tupE {es : List Expr} {kk : Nat} {pos : Pos} {Q : Value → Shared → Prop} (EO : EnvOk env scope L cl qual code) (AO : AOk A n) (R : Rep K₀ ((L, .ns l) :: led) tmp h₀)
    (h : wEs l scope es fun vs => ∀ h' tk t, Rep K₀ ((L, .ns l) :: led) ((.tup vs, t) :: tmp) h' → Q (.ref t) (St s h' tk)) (hsz : es.length ≤ 9 := by decide) :
    wpAny (model prog w) A (eval (.Tuple es kk pos) env) Q E (St s h₀ tk) := by
  refine Tuple_ (wEs_ok EO AO R es tk _ _ h fun vs xs hr hl hk tk => ?_)
  exact r_newTuple (s := St s h₀ tk) R (fun B _ => hr B) (fun t h' R => hk h' _ t R) (Nat.le_trans (by rw [hl]; exact hsz) (by decide))
end
end Mine

/-! VQ -/
namespace Mine
section
variable {prog : Program} {w : World} {A : Around} {E : Value → Shared → Prop} {s : Shared} {h₀ : Heap} {tk : Nat} {Q : Value → Shared → Prop}
theorem q_cint {i : Int} {kk : Nat} {pos : Pos} {env : Env} (h : Q (.int i tk) (St s h₀ (Nat.succ tk))) : wpAny (model prog w) A (eval (.Constant (.int i) kk pos) env) Q E (St s h₀ tk) := wpAny_Constant_int h
theorem q_cfloat {x : UInt64} {kk : Nat} {pos : Pos} {env : Env} (h : Q (.float x tk) (St s h₀ (Nat.succ tk))) : wpAny (model prog w) A (eval (.Constant (.float x) kk pos) env) Q E (St s h₀ tk) := wpAny_Constant_float h
theorem q_cstr {x : Str} {kk : Nat} {pos : Pos} {env : Env} (h : Q (.str x tk) (St s h₀ (Nat.succ tk))) : wpAny (model prog w) A (eval (.Constant (.str x) kk pos) env) Q E (St s h₀ tk) := Calls.Constant_str h
theorem q_addi {a b : Int} {t u : Tok} (h : Q (.int (a + b) tk) (St s h₀ (Nat.succ tk))) : wpAny (model prog w) A (binaryOp .Add (.int a t) (.int b u)) Q E (St s h₀ tk) := P.add_int h
theorem q_subi {a b : Int} {t u : Tok} (h : Q (.int (a - b) tk) (St s h₀ (Nat.succ tk))) : wpAny (model prog w) A (binaryOp .Sub (.int a t) (.int b u)) Q E (St s h₀ tk) := P.sub_int h
theorem q_negi {a : Int} {t : Tok} (h : Q (.int (-a) tk) (St s h₀ (Nat.succ tk))) : wpAny (model prog w) A (unaryOp .USub (.int a t)) Q E (St s h₀ tk) := P.neg_int h
theorem q_addf {a b : UInt64} {t u : Tok} (h : Q (.float (Float64.add a b) tk) (St s h₀ (Nat.succ tk))) : wpAny (model prog w) A (binaryOp .Add (.float a t) (.float b u)) Q E (St s h₀ tk) := add_float h
theorem q_subf {a b : UInt64} {t u : Tok} (h : Q (.float (Float64.sub a b) tk) (St s h₀ (Nat.succ tk))) : wpAny (model prog w) A (binaryOp .Sub (.float a t) (.float b u)) Q E (St s h₀ tk) := sub_float h
theorem q_mulf {a b : UInt64} {t u : Tok} (h : Q (.float (Float64.mul a b) tk) (St s h₀ (Nat.succ tk))) : wpAny (model prog w) A (binaryOp .Mult (.float a t) (.float b u)) Q E (St s h₀ tk) := mul_float h
theorem q_bitlen {a : Int} {t : Tok} (h : Q (.int (Builtin.Int.intBits a) tk) (St s h₀ (Nat.succ tk))) : wpAny (model prog w) A (call (.builtin "int.bit_length") [.int a t]) Q E (St s h₀ tk) := call_int_bit_length h
theorem q_modi {a b : Int} {t u : Tok} (hb : b ≠ 0) (h : Q (.int (a.fmod b) tk) (St s h₀ (Nat.succ tk))) : wpAny (model prog w) A (binaryOp .Mod (.int a t) (.int b u)) Q E (St s h₀ tk) := mod_int hb h
theorem q_lsh {a i : Int} {t u : Tok} (h0 : 0 ≤ i) (hs : (Builtin.Int.intBits a : Int) + i ≤ 2 ^ 27) (h : Q (.int (a * 2 ^ i.toNat) tk) (St s h₀ (Nat.succ tk))) : wpAny (model prog w) A (binaryOp .LShift (.int a t) (.int i u)) Q E (St s h₀ tk) := lshift_int h0 hs h
end
end Mine

/-! S1 -/
namespace Mine

theorem spec_div2n1n {w : World} {A : Around} {E : Value → Shared → Prop} {s : Shared} {K₀ : Heap} {led : List (Nat × Mo)} {tmp : List (V × Nat)} {Q : Value → Shared → Prop} {n : Nat} {a b m : Int} {ta tb tm : Nat}
    (AO : AOk A (n + 1)) (S : Stat (hd.heap_39 w.params) K₀) (R : Rep K₀ led tmp s.heap) (hb : b ≠ 0) (hs : (Builtin.Int.intBits a : Int) - m ≤ 4000) (hp : b.natAbs < 2 ^ 100)
    (h : ∀ h' tk t, Rep K₀ led ((.tup [.int (a.fdiv b), .int (a.fmod b)], t) :: tmp) h' → Q (.ref t) (St s h' tk)) :
    wpAny (model PySem.Challenge.rw_uk0010_01.row.prog w) A (call (.ref 55) [.int a ta, .int b tb, .int m tm]) Q E s := by
  revert AO S R hb hs hp h
  k_fill
  intro AO S R hb hs hp h
  refine' r_enter (l := [("n", .int m), ("b", .int b), ("a", .int a)]) AO S R ?ho ?hcd ?hbind ?hcell ?hloc ?hrep ?_ ?c1 ?c2 ?c3
  ((case ho => k_is); (case hcd => k_is); (case hbind => first | exact BindsTo.of_eq rfl | exact binds_K (Rep.stat R S).x rfl (by k_is) rfl rfl rfl); (case hcell => decide); (case hloc => exact locs rfl); (case c1 => rfl); (case c2 => rfl); (case c3 => rfl))
  case hrep => intro B RB; exact (show Binds tmp _ _ by ((try dsimp only [List.reverse, List.reverseAux]); repeat (first | exact Binds.nil | (refine Binds.cons ?_ ?_; (with_reducible first | exact Bear.int | exact Bear.float | exact Bear.str | exact Bear.bool | exact Bear.none | (refine' Bear.tup ?zb3; (case zb3 => (repeat (with_reducible first | exact List.mem_cons_self | refine List.mem_cons_of_mem _ ?_)))) | (refine' Bear.lst ?zb3; (case zb3 => (repeat (with_reducible first | exact List.mem_cons_self | refine List.mem_cons_of_mem _ ?_)))) | exact Bear.raw))))) B RB.tmp
  clear R AO
  intro L h₁ tk env A' AO EO R
  ((with_reducible refine wpAny_execs_cons ?_); (with_reducible refine wpAny_If ?_); (with_reducible refine wpAny_isTrue_Compare1 ?_); (with_reducible refine wpAny_BinOp ?_); (refine MethodCall_ ?_); (refine' r_locS EO R ?zhv ?zhf ?_ ?zhx ?zhd; (case zhx => exact rfl); (case zhv => exact rfl); (case zhf => exact rfl); (case zhd => decide); intro _); (with_reducible refine getMethod_int_bit_length ?_); (with_reducible refine callWith_method0 ?_); (with_reducible refine q_bitlen ?_); (refine' r_locS EO R ?zhv ?zhf ?_ ?zhx ?zhd; (case zhx => exact rfl); (case zhv => exact rfl); (case zhf => exact rfl); (case zhd => decide); intro _); (with_reducible refine q_subi ?_); (refine' r_glob EO S R ?ze ?_ ?zhx ?zhd; (case zhx => exact rfl); (case ze => k_is); (case zhd => decide)); (with_reducible refine P.le_int ?_); (with_reducible refine wpAny_truthy_bool ?_); (refine PySem.W.ite_pos (by (first | rfl | (simp only [decide_eq_true_eq, beq_iff_eq, bne_iff_ne, ne_eq]; first | assumption | omega) | omega)) ?_); (with_reducible refine wpAny_execs_cons ?_); (with_reducible refine wpAny_Return_some ?_); (refine Call_ ?_); (refine' r_bi EO S R ?ze ?zhv ?_ ?zhn ?zhx ?zhd; (case zhx => exact rfl); (case ze => k_is); (case zhv => boot_fast); (case zhn => decide); (case zhd => decide)); (refine callWith_method1 ?_); (refine wpAny_items_cons ?_); (refine' r_locS EO R ?zhv ?zhf ?_ ?zhx ?zhd; (case zhx => exact rfl); (case zhv => exact rfl); (case zhf => exact rfl); (case zhd => decide); intro _); (refine wpAny_items_cons ?_); (refine' r_locS EO R ?zhv ?zhf ?_ ?zhx ?zhd; (case zhx => exact rfl); (case zhv => exact rfl); (case zhf => exact rfl); (case zhd => decide); intro _); (with_reducible refine wpAny_items_nil ?_))
  refine r_divmod R hb (noPy hp) ?_
  clear R; intro _ _ _ R
  exact h _ _ _ R.dropLed

end Mine

/-! S5 -/
namespace Mine

theorem spec_i2dIn {w : World} (K₀ : Heap) (S : Stat (hd.heap_39 w.params) K₀) {n : Nat} (hn : 1 ≤ n) (hn2 : n ≤ 100) {f lst cA cN cI : Nat} {name q : Str} {params : Arguments} {body : List Stmt} {sc : Scope} {pos : Pos} {clos : List (Str × Addr)} {doc pm cdv ct : Value}
    (e : innerOf (hd.heap_39 w.params) 69 = some (name, params, body, sc, pos)) (lA : clos.lookup ("a_digits" : Str) = some cA) (lN : clos.lookup ("n" : Str) = some cN) (lI : clos.lookup ("inner" : Str) = some cI) :
    ∀ (m : Nat) {A : Around} {E : Value → Shared → Prop} {s : Shared} {led : List (Nat × Mo)} {tmp : List (V × Nat)} {Q : Value → Shared → Prop} {k : Nat} {x : Int} {lo hi : Nat} {vs : List V} {t1 t2 t3 : Nat},
    (AOk A (k + m + 1)) → (Rep K₀ ((lst, .list vs) :: led) tmp s.heap) → ((f, Mo.fn (fnX name q params body sc clos .none .none doc pm none cdv ct)) ∈ led) → ((cA, Mo.cell (some (.raw (.ref lst)))) ∈ led) → ((cN, Mo.cell (some (.int n))) ∈ led) → ((cI, Mo.cell (some (.raw (.ref f)))) ∈ led) →
    hi - lo = m → lo < hi → hi ≤ vs.length → vs.length ≤ 1000 → 0 ≤ x → x < 2 ^ ((hi - lo) * n) →
    (∀ h' tk, Rep K₀ ((lst, .list (vs.take lo ++ (digs n x (hi - lo)).map V.int ++ vs.drop hi)) :: led) tmp h' → Q .none (St s h' tk)) →
    wpAny (model PySem.Challenge.rw_uk0010_01.row.prog w) A (call (.ref f) [.int x t1, .int lo t2, .int hi t3]) Q E s := by
  revert S
  k_fill
  intro S
  refine' inner_is ?e0 e ?_
  case e0 => with_unfolding_all exact rfl
  intro q0
  cases q0
  clear e
  intro m
  induction m using Nat.strongRecOn with
  | ind m ih =>
  intro A E s led tmp Q k x lo hi vs t1 t2 t3 AO R hf hA hN hI hm hlt hle hlen hx0 hx1 h
  refine' r_enterF (l := [("R", .int hi), ("L", .int lo), ("x", .int x)]) AO S R (.tail _ hf) ?hbind ?hcell ?hloc ?hrep ?_ ?c1 ?c2 ?c3
  case hbind => exact BindsTo.of_eq rfl
  case hcell => decide
  case hloc => exact locs rfl
  case hrep => ((try dsimp only [List.reverse, List.reverseAux]); repeat (first | exact Binds.nil | (refine Binds.cons ?_ ?_; (with_reducible first | exact Bear.int | exact Bear.float | exact Bear.str | exact Bear.bool | exact Bear.none | (refine' Bear.tup ?zb3; (case zb3 => (repeat (with_reducible first | exact List.mem_cons_self | refine List.mem_cons_of_mem _ ?_)))) | (refine' Bear.lst ?zb3; (case zb3 => (repeat (with_reducible first | exact List.mem_cons_self | refine List.mem_cons_of_mem _ ?_)))) | exact Bear.raw))))
  case c1 => rfl
  case c2 => rfl
  case c3 => rfl
  clear R AO
  intro L h₁ tk env A' AO EO R
  by_cases hone : hi = lo + 1
  · subst hone
    ((with_reducible refine wpAny_execs_cons ?_); (with_reducible refine wpAny_If ?_); (with_reducible refine wpAny_isTrue_Compare1 ?_); (refine r_ev EO AO R ?_; ((repeat (refine And.intro ?zc ?_; (case zc => (first | assumption | (with_unfolding_all decide +kernel) | omega)))); intro _ _)); (refine' r_locS EO R ?zhv ?zhf ?_ ?zhx ?zhd; (case zhx => exact rfl); (case zhv => exact rfl); (case zhf => exact rfl); (case zhd => decide); intro _); (with_reducible refine P.eq_int ?_); (with_reducible refine wpAny_truthy_bool ?_); (refine PySem.W.ite_pos (by (first | rfl | (simp only [decide_eq_true_eq, beq_iff_eq, bne_iff_ne, ne_eq]; first | assumption | exact om261) | omega)) ?_); (with_reducible refine wpAny_execs_cons ?_); (refine wpAny_Assign_Subscript ?_); (refine' r_locS EO R ?zhv ?zhf ?_ ?zhx ?zhd; (case zhx => exact rfl); (case zhv => exact rfl); (case zhf => exact rfl); (case zhd => decide); intro _); (refine' r_cellS EO R ?zhx ?zhc ?zhm ?zhf ?_ ?zhd ?zhn; (case zhx => (first | exact Or.inl rfl | exact Or.inr rfl)); (case zhc => first | assumption | exact rfl); (case zhm => (repeat (with_reducible first | assumption | exact List.mem_cons_self | refine List.mem_cons_of_mem _ ?_))); (case zhf => exact rfl); (case zhd => decide); (case zhn => decide); intro _); (refine' r_locS EO R ?zhv ?zhf ?_ ?zhx ?zhd; (case zhx => exact rfl); (case zhv => exact rfl); (case zhf => exact rfl); (case zhd => decide); intro _))
    have R2 := R.swap
    refine' r_setItem R2 ?g1 ?g2 ?g3 Bear.int ?_
    case g1 => exact om45
    case g2 => exact om262 hle
    case g3 => exact om27 hlen
    clear R R2; intro h' R
    ((with_reducible refine wpAny_execs_cons ?_); (with_reducible refine wpAny_Return_none ?_))
    refine h _ _ ?_
    have hl1 : lo + 1 - lo = 1 := by exact om263 hm
    have hx2 : x % 2 ^ n = x := Int.emod_eq_of_lt hx0 (by rw [hl1] at hx1; simpa using hx1)
    have e1 : vs.take lo ++ (digs n x (lo + 1 - lo)).map V.int ++ vs.drop (lo + 1) = vs.set (Int.toNat lo) (.int x) := by
      rw [hl1]
      simp only [digs, hx2, List.map_cons, List.map_nil, Int.toNat_natCast]
      rw [List.set_eq_take_append_cons_drop, if_pos (by exact om264 hle)]
      simp
    rw [e1]
    exact R.swap.dropLed
  · have hlt2 : lo + 1 < hi := by exact om265 hlt hone
    obtain ⟨mid, hmid⟩ : ∃ mid : Nat, mid = (lo + hi) / 2 := ⟨_, rfl⟩
    have hm1 : lo < mid := by exact om266 hlt2 hmid
    have hm2 : mid < hi := by exact om267 hmid hm1
    obtain ⟨sh, hsh⟩ : ∃ sh : Nat, sh = (mid - lo) * n := ⟨_, rfl⟩
    have rsE1 : ((lo : Int) + (hi : Int)).fdiv (2 ^ Int.toNat 1) = (mid : Int) := by
      rw [Int.fdiv_eq_ediv_of_nonneg _ (by decide)]
      show ((lo : Int) + hi) / 2 = mid
      exact om30 hmid
    have muE : ((mid : Int) - (lo : Int)) * (n : Int) = (sh : Int) := by
      rw [hsh, Int.natCast_mul, Int.natCast_sub (by exact om268 hmid hm1 rsE1)]
    have hshl : sh ≤ 100000 := by
      rw [hsh]
      exact Nat.le_trans (Nat.mul_le_mul (show mid - lo ≤ 1000 by exact om269 hle hlen hmid hm1 rsE1) hn2) (by exact om270)
    obtain ⟨up, hup⟩ : ∃ up : Int, up = x / 2 ^ sh := ⟨_, rfl⟩
    have rsE2 : x.fdiv (2 ^ Int.toNat (sh : Int)) = up := by
      rw [hup, Int.toNat_natCast, Int.fdiv_eq_ediv_of_nonneg _ (Int.le_of_lt (Int.pow_pos (by decide)))]
    obtain ⟨low, hlow⟩ : ∃ low : Int, low = x % 2 ^ sh := ⟨_, rfl⟩
    have xoE : Builtin.bitXor x (up * 2 ^ Int.toNat (sh : Int)) = low := by
      rw [← rsE2, hlow, Int.toNat_natCast]; exact xor_low x sh hx0
    have hmo : IntMulOk ((mid : Int) - (lo : Int)) (n : Int) := IntMulOk.of_right (intBits_le_iff.mpr (by exact om271 hn hn2))
    have hshp : (0 : Int) < 2 ^ sh := Int.pow_pos (by decide)
    have hsplit : (hi - lo) * n = (hi - mid) * n + sh := by
      rw [hsh, ← Nat.add_mul]; congr 1; exact om272 hm hone hlt2 hmid hm1 hm2 rsE1
    have hup0 : 0 ≤ up := by rw [hup]; exact Int.ediv_nonneg hx0 (Int.le_of_lt hshp)
    have hup1 : up < 2 ^ ((hi - mid) * n) := by
      rw [hup]
      refine Int.ediv_lt_of_lt_mul hshp ?_
      rw [← Int.pow_add, ← hsplit]; exact hx1
    have hlow0 : 0 ≤ low := by rw [hlow]; exact Int.emod_nonneg _ (Int.ne_of_gt hshp)
    have hlow1 : low < 2 ^ ((mid - lo) * n) := by rw [hlow, ← hsh]; exact Int.emod_lt_of_pos _ hshp
    have hbits : Builtin.Int.intBits up ≤ 100000 := intBits_le_iff.mpr (by
      have h3 : (hi - mid) * n ≤ 100000 := Nat.le_trans (Nat.mul_le_mul (show hi - mid ≤ 1000 by exact om273 hle hlen hlt2 hmid hm1 hm2 rsE1) hn2) (by exact om270)
      have h4 : up.natAbs < 2 ^ ((hi - mid) * n) := by
        have := hup1
        have h5 : (up.natAbs : Int) < ((2 ^ ((hi - mid) * n) : Nat) : Int) := by rw [Int.natAbs_of_nonneg hup0]; simpa using hup1
        exact Int.ofNat_lt.mp h5
      exact Nat.lt_of_lt_of_le h4 (Nat.pow_le_pow_right (by decide) h3))
    have hls : (Builtin.Int.intBits up : Int) + (sh : Int) ≤ 2 ^ 27 := by
      have : (100000 : Int) + 100000 ≤ 2 ^ 27 := by decide
      exact om274 hsh muE hshl hsplit hbits
    have hnn : (0 : Int) ≤ (sh : Int) := by exact om275 hsh muE hshl hsplit
    ((with_reducible refine wpAny_execs_cons ?_); (with_reducible refine wpAny_If ?_); (with_reducible refine wpAny_isTrue_Compare1 ?_); (refine r_ev EO AO R ?_; ((repeat (refine And.intro ?zc ?_; (case zc => (first | assumption | (with_unfolding_all decide +kernel) | omega)))); intro _ _)); (refine' r_locS EO R ?zhv ?zhf ?_ ?zhx ?zhd; (case zhx => exact rfl); (case zhv => exact rfl); (case zhf => exact rfl); (case zhd => decide); intro _); (with_reducible refine P.eq_int ?_); (with_reducible refine wpAny_truthy_bool ?_); (refine PySem.W.ite_neg (by (first | (with_reducible exact Bool.false_ne_true) | (simp only [decide_eq_true_eq, beq_iff_eq, bne_iff_ne, ne_eq, Bool.false_eq_true, not_false_eq_true]; first | done | assumption | exact om276 hlt2) | omega)) ?_); (with_reducible refine wpAny_execs_nil ?_); (with_reducible refine wpAny_execs_cons ?_); (refine wpAny_Assign_Name ?_); (with_reducible refine wpAny_BinOp ?_); (refine r_ev EO AO R ?_; ((repeat (refine And.intro ?zc ?_; (case zc => (first | assumption | (with_unfolding_all decide +kernel) | omega)))); intro _ _)); (with_reducible refine q_cint ?_); (refine' r_shr ?zhn ?zhe ?_; (case zhe => with_reducible first | exact rsE1 | exact rsE2 | exact rfl); (case zhn => (first | exact om21 | assumption | decide)); intro _ _); (refine' r_store EO R ?zhx ?zhv ?_; (case zhx => exact rfl); (case zhv => (with_reducible first | exact Bear.int | exact Bear.float | exact Bear.str | exact Bear.bool | exact Bear.none | (refine' Bear.tup ?zb3; (case zb3 => (repeat (with_reducible first | exact List.mem_cons_self | refine List.mem_cons_of_mem _ ?_)))) | (refine' Bear.lst ?zb3; (case zb3 => (repeat (with_reducible first | exact List.mem_cons_self | refine List.mem_cons_of_mem _ ?_)))) | exact Bear.raw)); clear R; intro h' _ R; (try (first | show wpAny _ _ _ _ _ (St s h' _) | show wpAny _ _ _ _ _ (St s _ _) | show codeAny _ _ _ _ (St s _ _) | show ite _ (wpAny _ _ _ _ _ (St s _ _)) (wpAny _ _ _ _ _ (St s _ _))))); (with_reducible refine wpAny_execs_cons ?_); (refine wpAny_Assign_Name ?_); (with_reducible refine wpAny_BinOp ?_); (refine r_ev EO AO R ?_; ((repeat (refine And.intro ?zc ?_; (case zc => (first | assumption | (with_unfolding_all decide +kernel) | omega)))); intro _ _)); (refine' r_cellS EO R ?zhx ?zhc ?zhm ?zhf ?_ ?zhd ?zhn; (case zhx => (first | exact Or.inl rfl | exact Or.inr rfl)); (case zhc => first | assumption | exact rfl); (case zhm => (repeat (with_reducible first | assumption | exact List.mem_cons_self | refine List.mem_cons_of_mem _ ?_))); (case zhf => exact rfl); (case zhd => decide); (case zhn => decide); intro _); (refine' r_mul ?zhe ?zhm ?_; (case zhe => with_reducible first | exact muE | exact muE2 | exact rfl); (case zhm => first | assumption | mul_fits); intro _ _); (refine' r_store EO R ?zhx ?zhv ?_; (case zhx => exact rfl); (case zhv => (with_reducible first | exact Bear.int | exact Bear.float | exact Bear.str | exact Bear.bool | exact Bear.none | (refine' Bear.tup ?zb3; (case zb3 => (repeat (with_reducible first | exact List.mem_cons_self | refine List.mem_cons_of_mem _ ?_)))) | (refine' Bear.lst ?zb3; (case zb3 => (repeat (with_reducible first | exact List.mem_cons_self | refine List.mem_cons_of_mem _ ?_)))) | exact Bear.raw)); clear R; intro h' _ R; (try (first | show wpAny _ _ _ _ _ (St s h' _) | show wpAny _ _ _ _ _ (St s _ _) | show codeAny _ _ _ _ (St s _ _) | show ite _ (wpAny _ _ _ _ _ (St s _ _)) (wpAny _ _ _ _ _ (St s _ _))))); (with_reducible refine wpAny_execs_cons ?_); (refine wpAny_Assign_Name ?_); (with_reducible refine wpAny_BinOp ?_); (refine' r_locS EO R ?zhv ?zhf ?_ ?zhx ?zhd; (case zhx => exact rfl); (case zhv => exact rfl); (case zhf => exact rfl); (case zhd => decide); intro _); (refine' r_locS EO R ?zhv ?zhf ?_ ?zhx ?zhd; (case zhx => exact rfl); (case zhv => exact rfl); (case zhf => exact rfl); (case zhd => decide); intro _); (refine' r_shr ?zhn ?zhe ?_; (case zhe => with_reducible first | exact rsE1 | exact rsE2 | exact rfl); (case zhn => (first | exact om277 hnn | assumption | decide)); intro _ _); (refine' r_store EO R ?zhx ?zhv ?_; (case zhx => exact rfl); (case zhv => (with_reducible first | exact Bear.int | exact Bear.float | exact Bear.str | exact Bear.bool | exact Bear.none | (refine' Bear.tup ?zb3; (case zb3 => (repeat (with_reducible first | exact List.mem_cons_self | refine List.mem_cons_of_mem _ ?_)))) | (refine' Bear.lst ?zb3; (case zb3 => (repeat (with_reducible first | exact List.mem_cons_self | refine List.mem_cons_of_mem _ ?_)))) | exact Bear.raw)); clear R; intro h' _ R; (try (first | show wpAny _ _ _ _ _ (St s h' _) | show wpAny _ _ _ _ _ (St s _ _) | show codeAny _ _ _ _ (St s _ _) | show ite _ (wpAny _ _ _ _ _ (St s _ _)) (wpAny _ _ _ _ _ (St s _ _))))); (with_reducible refine wpAny_execs_cons ?_); (refine wpAny_Assign_Name ?_); (with_reducible refine wpAny_BinOp ?_); (refine' r_locS EO R ?zhv ?zhf ?_ ?zhx ?zhd; (case zhx => exact rfl); (case zhv => exact rfl); (case zhf => exact rfl); (case zhd => decide); intro _); (with_reducible refine wpAny_BinOp ?_); (refine' r_locS EO R ?zhv ?zhf ?_ ?zhx ?zhd; (case zhx => exact rfl); (case zhv => exact rfl); (case zhf => exact rfl); (case zhd => decide); intro _); (refine' r_locS EO R ?zhv ?zhf ?_ ?zhx ?zhd; (case zhx => exact rfl); (case zhv => exact rfl); (case zhf => exact rfl); (case zhd => decide); intro _); (refine' q_lsh ?zhn ?zhs ?_; (case zhn => (first | exact om277 hnn | assumption | decide)); (case zhs => assumption)); (refine' r_xor ?zhe ?_; (case zhe => with_reducible first | exact xoE | exact rfl); intro _ _); (refine' r_store EO R ?zhx ?zhv ?_; (case zhx => exact rfl); (case zhv => (with_reducible first | exact Bear.int | exact Bear.float | exact Bear.str | exact Bear.bool | exact Bear.none | (refine' Bear.tup ?zb3; (case zb3 => (repeat (with_reducible first | exact List.mem_cons_self | refine List.mem_cons_of_mem _ ?_)))) | (refine' Bear.lst ?zb3; (case zb3 => (repeat (with_reducible first | exact List.mem_cons_self | refine List.mem_cons_of_mem _ ?_)))) | exact Bear.raw)); clear R; intro h' _ R; (try (first | show wpAny _ _ _ _ _ (St s h' _) | show wpAny _ _ _ _ _ (St s _ _) | show codeAny _ _ _ _ (St s _ _) | show ite _ (wpAny _ _ _ _ _ (St s _ _)) (wpAny _ _ _ _ _ (St s _ _))))); (with_reducible refine wpAny_execs_cons ?_); (refine r_expr EO ?_); (refine Call_ ?_); (refine' r_cellS EO R ?zhx ?zhc ?zhm ?zhf ?_ ?zhd ?zhn; (case zhx => (first | exact Or.inl rfl | exact Or.inr rfl)); (case zhc => first | assumption | exact rfl); (case zhm => (repeat (with_reducible first | assumption | exact List.mem_cons_self | refine List.mem_cons_of_mem _ ?_))); (case zhf => exact rfl); (case zhd => decide); (case zhn => decide); intro _); (refine' callWith_F ?zx ?_; (case zx => exact Rep.fnAt R (by (repeat (with_reducible first | assumption | exact List.mem_cons_self | refine List.mem_cons_of_mem _ ?_))))); (refine wpAny_items_cons ?_); (refine' r_locS EO R ?zhv ?zhf ?_ ?zhx ?zhd; (case zhx => exact rfl); (case zhv => exact rfl); (case zhf => exact rfl); (case zhd => decide); intro _); (refine wpAny_items_cons ?_); (refine' r_locS EO R ?zhv ?zhf ?_ ?zhx ?zhd; (case zhx => exact rfl); (case zhv => exact rfl); (case zhf => exact rfl); (case zhd => decide); intro _); (refine wpAny_items_cons ?_); (refine' r_locS EO R ?zhv ?zhf ?_ ?zhx ?zhd; (case zhx => exact rfl); (case zhv => exact rfl); (case zhf => exact rfl); (case zhd => decide); intro _); (with_reducible refine wpAny_items_nil ?_); (refine ⟨Rep.fnAt R (by (repeat (with_reducible first | assumption | exact List.mem_cons_self | refine List.mem_cons_of_mem _ ?_))), ?_⟩))
    have R2 := R.swap
    show wpAny _ _ (call (Value.ref f) [Value.int low _, Value.int (lo : Int) _, Value.int (mid : Int) _]) _ _ _
    refine ih (mid - lo) (by exact om278 hm hone hlt2 hmid hm1 rsE1) (show AOk A' ((k + m - (mid - lo) - 1) + (mid - lo) + 1) from AO.le (by exact om279 hm hone hlt2 hmid hm1 hm2 rsE1)) R2 (.tail _ hf) (.tail _ hA) (.tail _ hN) (.tail _ hI) rfl hm1 (by exact om280 hle hmid hm2 rsE1) hlen hlow0 hlow1 ?_
    clear R R2; intro h' tk R
    have R := R.swap
    ((with_reducible refine wpAny_execs_cons ?_); (refine r_expr EO ?_); (refine Call_ ?_); (refine' r_cellS EO R ?zhx ?zhc ?zhm ?zhf ?_ ?zhd ?zhn; (case zhx => (first | exact Or.inl rfl | exact Or.inr rfl)); (case zhc => first | assumption | exact rfl); (case zhm => (repeat (with_reducible first | assumption | exact List.mem_cons_self | refine List.mem_cons_of_mem _ ?_))); (case zhf => exact rfl); (case zhd => decide); (case zhn => decide); intro _); (refine' callWith_F ?zx ?_; (case zx => exact Rep.fnAt R (by (repeat (with_reducible first | assumption | exact List.mem_cons_self | refine List.mem_cons_of_mem _ ?_))))); (refine wpAny_items_cons ?_); (refine' r_locS EO R ?zhv ?zhf ?_ ?zhx ?zhd; (case zhx => exact rfl); (case zhv => exact rfl); (case zhf => exact rfl); (case zhd => decide); intro _); (refine wpAny_items_cons ?_); (refine' r_locS EO R ?zhv ?zhf ?_ ?zhx ?zhd; (case zhx => exact rfl); (case zhv => exact rfl); (case zhf => exact rfl); (case zhd => decide); intro _); (refine wpAny_items_cons ?_); (refine' r_locS EO R ?zhv ?zhf ?_ ?zhx ?zhd; (case zhx => exact rfl); (case zhv => exact rfl); (case zhf => exact rfl); (case zhd => decide); intro _); (with_reducible refine wpAny_items_nil ?_); (refine ⟨Rep.fnAt R (by (repeat (with_reducible first | assumption | exact List.mem_cons_self | refine List.mem_cons_of_mem _ ?_))), ?_⟩))
    have R2 := R.swap
    show wpAny _ _ (call (Value.ref f) [Value.int up _, Value.int (mid : Int) _, Value.int (hi : Int) _]) _ _ _
    refine ih (hi - mid) (by exact om281 hm hone hlt2 hmid hm2 rsE1) (show AOk A' ((k + m - (hi - mid) - 1) + (hi - mid) + 1) from AO.le (by exact om282 hm hone hlt2 hmid hm2 rsE1)) R2 (.tail _ hf) (.tail _ hA) (.tail _ hN) (.tail _ hI) rfl hm2 ?_ ?_ hup0 hup1 ?_
    · simp [digs_length]; exact om283 hle hlt2 hmid hm1 hm2 rsE1
    · simp [digs_length]; exact om284 hle hlen hlt2 hmid hm1 hm2 rsE1
    clear R R2; intro h' tk R
    have R := R.swap
    ((with_reducible refine wpAny_execs_nil ?_))
    refine h _ _ ?_
    rw [digs_join (Nat.le_of_lt hm1) (Nat.le_of_lt hm2) hle hsh hlow hup]
    exact R.dropLed

end Mine

/-! S6 -/
namespace Mine
/-- how many digits -/
noncomputable def ndig (a : Int) (n : Nat) : Nat := (Builtin.Int.intBits a + n - 1) / n
theorem ndig_lt {a : Int} {n : Nat} (h0 : 0 ≤ a) (hn : 1 ≤ n) : a < 2 ^ (ndig a n * n) := by
  have h1 := lt_bits a
  have h2 : Builtin.Int.intBits a ≤ ndig a n * n := by
    unfold ndig
    have h3 := Nat.div_add_mod (Builtin.Int.intBits a + n - 1) n
    have h4 := Nat.mod_lt (Builtin.Int.intBits a + n - 1) hn
    have h5 : n * ((Builtin.Int.intBits a + n - 1) / n) = (Builtin.Int.intBits a + n - 1) / n * n := Nat.mul_comm _ _
    exact om285 hn h3 h4 h5
  have h3 : a.natAbs < 2 ^ (ndig a n * n) := Nat.lt_of_lt_of_le h1 (Nat.pow_le_pow_right (by decide) h2)
  have h4 : (a.natAbs : Int) < ((2 ^ (ndig a n * n) : Nat) : Int) := Int.ofNat_lt.mpr h3
  rw [Int.natAbs_of_nonneg h0] at h4
  simpa using h4
noncomputable abbrev siteA : List (Pos × Str) := [(⟨39, 4, 48, 28⟩, "_int2digits.<locals>.inner")]
theorem spec_i2d {w : World} {A : Around} {E : Value → Shared → Prop} {s : Shared} {K₀ : Heap} {led : List (Nat × Mo)} {tmp : List (V × Nat)} {Q : Value → Shared → Prop} {k : Nat} {a : Int} {n : Nat} {ta tn : Nat}
    (AO : AOk A (k + 400)) (S : Stat (hd.heap_39 w.params) K₀) (hC : CodeHd K₀ 68 64) (R : Rep K₀ led tmp s.heap) (hT : (64, Mo.tab siteA) ∈ led)
    (hn : 1 ≤ n) (hn2 : n ≤ 100) (h0 : 0 ≤ a) (ha : a < 2 ^ 300)
    (h : ∀ h' tk t, Rep K₀ led ((.lst ((digs n a (ndig a n)).map V.int), t) :: tmp) h' → Q (.ref t) (St s h' tk)) :
    wpAny (model PySem.Challenge.rw_uk0010_01.row.prog w) A (call (.ref 69) [.int a ta, .int n tn]) Q E s := by
  revert AO S R h
  k_fill
  intro AO S R h
  refine' r_enterC (l := [("a", .int a)]) (cs := fun L => [("inner", L + 1 + 1 + 1), ("a_digits", L + 1 + 1), ("n", L + 1)]) (cv := lk [("n", .int n)]) AO S R ?ho ?hcd ?hbind ?hcs ?hcu ?hkind ?hrep ?hrepC ?_ ?c1 ?c2 ?c3
  case ho => k_is
  case hcd => k_is
  case hbind => exact rfl
  case hcs => intro L; rfl
  case hcu => intro L p hp; simp only [List.mem_cons, List.not_mem_nil, or_false] at hp; rcases hp with rfl | rfl | rfl <;> rfl
  case hkind => intro L x hx; change x ∈ [(_, _), (_, _)] at hx; simp only [List.mem_cons, List.not_mem_nil, or_false] at hx; rcases hx with rfl | rfl; exact .inl rfl; exact .inr ⟨rfl, rfl⟩
  case hrep => intro B hB; exact RepM.cons (v := .int a) (t := ta) (by simp only [RepT]) RepM.nil
  case hrepC =>
    intro B hB L p hp; simp only [List.mem_cons, List.not_mem_nil, or_false] at hp
    rcases hp with rfl | rfl | rfl
    · exact rfl
    · exact rfl
    · exact ⟨tn, rfl, by simp only [RepT]⟩
  case c1 => rfl
  case c2 => rfl
  case c3 => rfl
  clear R AO
  intro L h₁ tk env A' AO EO R
  obtain ⟨pre, post, rfl⟩ := List.append_of_mem hT
  clear hT
  replace R : Rep K₀ ((L, .ns [("a", .int a)]) :: (L + 1 + 1 + 1, .cell none) :: (L + 1 + 1, .cell none) :: (L + 1, .cell (some (.int n))) :: (pre ++ (64, .tab siteA) :: post)) tmp h₁ := R
  ((with_reducible refine wpAny_execs_cons ?_); (refine wpAny_Assign_Name ?_); (with_reducible refine wpAny_BinOp ?_); (with_reducible refine List_ ?_); (refine wpAny_items_cons ?_); (with_reducible refine q_cint ?_); (with_reducible refine wpAny_items_nil ?_))
  refine' r_newListPl R ?hv ?_ ?hz
  case hv => (repeat (first | exact Bears.nil | (apply Bears.cons; (with_reducible first | exact Bear.int | exact Bear.float | exact Bear.str | exact Bear.bool | exact Bear.none | (refine' Bear.tup ?zb3; (case zb3 => (repeat (with_reducible first | exact List.mem_cons_self | refine List.mem_cons_of_mem _ ?_)))) | (refine' Bear.lst ?zb3; (case zb3 => (repeat (with_reducible first | exact List.mem_cons_self | refine List.mem_cons_of_mem _ ?_)))) | exact Bear.raw))))
  case hz => exact of_decide_eq_true (by rfl)
  clear R; intro tl h' R
  ((with_reducible refine wpAny_BinOp ?_); (with_reducible refine wpAny_BinOp ?_); (with_reducible refine wpAny_BinOp ?_); (refine MethodCall_ ?_); (refine' r_locS EO R ?zhv ?zhf ?_ ?zhx ?zhd; (case zhx => exact rfl); (case zhv => exact rfl); (case zhf => exact rfl); (case zhd => decide); intro _); (with_reducible refine getMethod_int_bit_length ?_); (with_reducible refine callWith_method0 ?_); (with_reducible refine q_bitlen ?_); (refine' r_cellS EO R ?zhx ?zhc ?zhm ?zhf ?_ ?zhd ?zhn; (case zhx => (first | exact Or.inl rfl | exact Or.inr rfl)); (case zhc => first | assumption | exact rfl); (case zhm => (repeat (with_reducible first | assumption | exact List.mem_cons_self | refine List.mem_cons_of_mem _ ?_))); (case zhf => exact rfl); (case zhd => decide); (case zhn => decide); intro _); (with_reducible refine q_addi ?_); (with_reducible refine q_cint ?_); (with_reducible refine q_subi ?_); (refine' r_cellS EO R ?zhx ?zhc ?zhm ?zhf ?_ ?zhd ?zhn; (case zhx => (first | exact Or.inl rfl | exact Or.inr rfl)); (case zhc => first | assumption | exact rfl); (case zhm => (repeat (with_reducible first | assumption | exact List.mem_cons_self | refine List.mem_cons_of_mem _ ?_))); (case zhf => exact rfl); (case zhd => decide); (case zhn => decide); intro _); (refine' r_div ?zhb ?zhp ?_; (case zhb => (first | exact om286 hn hn2 | assumption | decide)); (case zhp => (first | exact om287 hn hn2 | assumption | decide)); intro _ _))
  have hcnt : ((Builtin.Int.intBits a : Int) + (n : Int) - 1).fdiv (n : Int) = (ndig a n : Int) := by
    rw [Int.fdiv_eq_ediv_of_nonneg _ (by exact om288 hn hn2)]
    unfold ndig
    rw [Int.natCast_ediv, Int.natCast_sub (by exact om289 hn hn2), Int.natCast_add]; rfl
  have hnb : ndig a n ≤ 300 := by
    have h1 : Builtin.Int.intBits a ≤ 300 := bits_le (by
      have : (a.natAbs : Int) < ((2 ^ 300 : Nat) : Int) := by rw [Int.natAbs_of_nonneg h0]; exact_mod_cast ha
      exact_mod_cast this)
    unfold ndig
    refine Nat.le_of_lt_succ (Nat.div_lt_of_lt_mul ?_)
    have h3 : n * (300 + 1) = 300 * n + n := by exact om290
    exact om291 hn hn2 h1
  rw [hcnt]
  have R2 := R.swap
  refine' r_mulList1 R2 ?g1 ?g2 ?_
  case g1 => exact om292 hnb
  case g2 => exact om293 hnb
  clear R R2; intro b h' R
  replace R := Rep.up (pre := [_, _, _]) (post := (L + 1, .cell (some (.int n))) :: (pre ++ (64, .tab siteA) :: post)) R
  refine' r_storeC1 EO R ?hx ?hc (v := .raw (.ref b)) Bear.raw ?_
  case hx => rfl
  case hc => rfl
  clear R; intro h' R
  -- the def
  ((with_reducible refine wpAny_execs_cons ?_))
  refine r_def rfl rfl rfl ?_
  rw [qual_is EO rfl]
  have R2 := Rep.up (pre := [(L + 1 + 1, .cell (some (.raw (.ref b)))), (b, _), (L, _), (L + 1 + 1 + 1, _), (L + 1, _)] ++ pre) (post := post) R
  refine' r_mkDef EO S hC R2 ?hs ?hu ?hcl ?_
  case hs => exact List.mem_cons_self
  case hu => intro s hs _ _; simp only [siteA, List.mem_cons, List.not_mem_nil, or_false] at hs; subst hs; rfl
  case hcl => exact rfl
  clear R R2; intro f h' tk pm doc c' ctv R
  replace R := Rep.up (pre := [_, _, _, _, _]) (post := (L + 1, .cell (some (.int n))) :: (pre ++ post)) R
  refine' r_storeC1 EO R ?hx ?hc (v := .raw (.ref f)) Bear.raw ?_
  case hx => rfl
  case hc => rfl
  clear R; intro h' R
  replace R := Rep.up5 R
  by_cases ha0 : a = 0
  · ((with_reducible refine wpAny_execs_cons ?_); (with_reducible refine wpAny_If ?_); (refine wpAny_isTrue_value ?_); (refine' r_locS EO R ?zhv ?zhf ?_ ?zhx ?zhd; (case zhx => exact rfl); (case zhv => exact rfl); (case zhf => exact rfl); (case zhd => decide); intro _); (with_reducible refine P.truthy_int ?_); (refine PySem.W.ite_neg (by (first | (with_reducible exact Bool.false_ne_true) | (simp only [decide_eq_true_eq, beq_iff_eq, bne_iff_ne, ne_eq, Bool.false_eq_true, not_false_eq_true]; first | done | assumption | exact om59 ha0) | omega)) ?_); (with_reducible refine wpAny_execs_nil ?_); (with_reducible refine wpAny_execs_cons ?_); (with_reducible refine wpAny_Return_some ?_); (refine' r_cellS EO R ?zhx ?zhc ?zhm ?zhf ?_ ?zhd ?zhn; (case zhx => (first | exact Or.inl rfl | exact Or.inr rfl)); (case zhc => first | assumption | exact rfl); (case zhm => (repeat (with_reducible first | assumption | exact List.mem_cons_self | refine List.mem_cons_of_mem _ ?_))); (case zhf => exact rfl); (case zhd => decide); (case zhn => decide); intro _))
    refine h _ _ b ?_
    have e0 : List.replicate (Int.toNat (ndig a n : Int)) (V.int 0) = (digs n a (ndig a n)).map V.int := by
      have : ndig a n = 0 := by
        subst ha0
        unfold ndig
        exact Nat.div_eq_of_lt (by have : Builtin.Int.intBits 0 = 0 := by decide
                                   exact om294 hn hn2 this)
      rw [this]; rfl
    replace R := Rep.freeze (Rep.up5 R)
    rw [e0] at R
    exact Rep.down R.dropLed.dropLed.dropLed.swap.dropLed.swap.dropLed
  · ((with_reducible refine wpAny_execs_cons ?_); (with_reducible refine wpAny_If ?_); (refine wpAny_isTrue_value ?_); (refine' r_locS EO R ?zhv ?zhf ?_ ?zhx ?zhd; (case zhx => exact rfl); (case zhv => exact rfl); (case zhf => exact rfl); (case zhd => decide); intro _); (with_reducible refine P.truthy_int ?_); (refine PySem.W.ite_pos (by (first | rfl | (simp only [decide_eq_true_eq, beq_iff_eq, bne_iff_ne, ne_eq]; first | assumption | omega) | omega)) ?_); (with_reducible refine wpAny_execs_cons ?_); (refine r_expr EO ?_); (refine Call_ ?_); (refine' r_cellS EO R ?zhx ?zhc ?zhm ?zhf ?_ ?zhd ?zhn; (case zhx => (first | exact Or.inl rfl | exact Or.inr rfl)); (case zhc => first | assumption | exact rfl); (case zhm => (repeat (with_reducible first | assumption | exact List.mem_cons_self | refine List.mem_cons_of_mem _ ?_))); (case zhf => exact rfl); (case zhd => decide); (case zhn => decide); intro _); (refine' callWith_F ?zx ?_; (case zx => exact Rep.fnAt R (by (repeat (with_reducible first | assumption | exact List.mem_cons_self | refine List.mem_cons_of_mem _ ?_))))); (refine wpAny_items_cons ?_); (refine' r_locS EO R ?zhv ?zhf ?_ ?zhx ?zhd; (case zhx => exact rfl); (case zhv => exact rfl); (case zhf => exact rfl); (case zhd => decide); intro _); (refine wpAny_items_cons ?_); (with_reducible refine q_cint ?_); (refine wpAny_items_cons ?_); (refine Call_ ?_); (refine' r_bi EO S R ?ze ?zhv ?_ ?zhn ?zhx ?zhd; (case zhx => exact rfl); (case ze => k_is); (case zhv => boot_fast); (case zhn => decide); (case zhd => decide)); (refine callWith_method1 ?_); (refine wpAny_items_cons ?_); (refine' r_cellS EO R ?zhx ?zhc ?zhm ?zhf ?_ ?zhd ?zhn; (case zhx => (first | exact Or.inl rfl | exact Or.inr rfl)); (case zhc => first | assumption | exact rfl); (case zhm => (repeat (with_reducible first | assumption | exact List.mem_cons_self | refine List.mem_cons_of_mem _ ?_))); (case zhf => exact rfl); (case zhd => decide); (case zhn => decide); intro _); (with_reducible refine wpAny_items_nil ?_))
    show wpAny _ _ (call (Value.builtin "len") [.ref b]) _ _ _
    have hlen : (List.replicate (Int.toNat (ndig a n : Int)) (V.int 0)).length = ndig a n := by rw [List.length_replicate]; exact Int.toNat_natCast _
    refine' r_lenE R ?hm ?he ?hl ?_
    case hm => exact LAt.ofLed (by (repeat (with_reducible first | assumption | exact List.mem_cons_self | refine List.mem_cons_of_mem _ ?_)))
    case he => exact hlen
    case hl => exact om295 hnb hlen
    intro _ _
    ((with_reducible refine wpAny_items_nil ?_); (refine ⟨Rep.fnAt R (by (repeat (with_reducible first | assumption | exact List.mem_cons_self | refine List.mem_cons_of_mem _ ?_))), ?_⟩))
    have R2 := Rep.up5 R
    clear R
    have hpos : 0 < ndig a n := by
      rcases Nat.eq_zero_or_pos (ndig a n) with e | e
      · have := ndig_lt (n := n) h0 hn
        rw [e] at this; simp at this; exact om296 h0 ha ha0 this
      · exact e
    show wpAny _ _ (call (Value.ref f) [Value.int a _, Value.int ((0 : Nat) : Int) _, Value.int (ndig a n : Int) _]) _ _ _
    refine' spec_i2dIn K₀ S hn hn2 ?e ?lA ?lN ?lI (ndig a n) (show AOk A' ((k + 398 - ndig a n) + ndig a n + 1) from ?ao) R2 ?hf ?hA ?hN ?hI ?g1 ?g2 ?g3 ?g4 ?g5 ?g6 ?_
    case hf => (repeat (with_reducible first | assumption | exact List.mem_cons_self | refine List.mem_cons_of_mem _ ?_))
    case lA => exact rfl
    case lN => exact rfl
    case lI => exact rfl
    case hA => (repeat (with_reducible first | assumption | exact List.mem_cons_self | refine List.mem_cons_of_mem _ ?_))
    case hN => iterate 5 (with_reducible refine List.mem_cons_of_mem _ ?_)
               exact List.mem_cons_self
    case hI => (repeat (with_reducible first | assumption | exact List.mem_cons_self | refine List.mem_cons_of_mem _ ?_))
    case e => with_unfolding_all exact rfl
    case ao => exact AO.le (by exact om297 hnb hlen hpos)
    case g1 => rfl
    case g2 => exact hpos
    case g3 => exact Nat.le_of_eq hlen.symm
    case g4 => rw [hlen]; exact om298 hnb hlen hpos
    case g5 => exact h0
    case g6 => exact ndig_lt h0 hn
    clear R2; intro h' tk R
    replace R := R.swap
    ((with_reducible refine wpAny_execs_nil ?_); (with_reducible refine wpAny_execs_cons ?_); (with_reducible refine wpAny_Return_some ?_); (refine' r_cellS EO R ?zhx ?zhc ?zhm ?zhf ?_ ?zhd ?zhn; (case zhx => (first | exact Or.inl rfl | exact Or.inr rfl)); (case zhc => first | assumption | exact rfl); (case zhm => (repeat (with_reducible first | assumption | exact List.mem_cons_self | refine List.mem_cons_of_mem _ ?_))); (case zhf => exact rfl); (case zhd => decide); (case zhn => decide); intro _))
    refine h _ _ b ?_
    have e0 : List.take 0 (List.replicate (Int.toNat (ndig a n : Int)) (V.int 0)) ++ (digs n a (ndig a n - 0)).map V.int ++ List.drop (ndig a n) (List.replicate (Int.toNat (ndig a n : Int)) (V.int 0)) = (digs n a (ndig a n)).map V.int := by
      rw [List.drop_of_length_le (Nat.le_of_eq hlen)]; simp
    rw [e0] at R
    replace R := Rep.freeze (Rep.swap R)
    exact Rep.down R.dropLed.dropLed.dropLed.swap.dropLed.swap.dropLed

end Mine

/-! S7 -/
namespace Mine

theorem undig_bd (n : Nat) : ∀ (l : List Int), (∀ d ∈ l, 0 ≤ d ∧ d < 2 ^ n) → 0 ≤ undig n l ∧ undig n l < 2 ^ (l.length * n)
  | [], _ => by simp [undig]
  | d :: r, h => by
    obtain ⟨a, b⟩ := undig_bd n r fun x hx => h x (.tail _ hx)
    obtain ⟨c, e⟩ := h d (.head _)
    have hpos : (0 : Int) < 2 ^ n := Int.pow_pos (by decide)
    have hp : (2 : Int) ^ ((r.length + 1) * n) = 2 ^ n * 2 ^ (r.length * n) := by rw [← Int.pow_add]; congr 1; rw [Nat.add_mul]; exact om299
    simp only [undig, List.length_cons]
    rw [hp]
    refine ⟨Int.add_nonneg c (Int.mul_nonneg (Int.le_of_lt hpos) a), ?_⟩
    have h1 : 2 ^ n * (undig n r + 1) ≤ 2 ^ n * 2 ^ (r.length * n) := Int.mul_le_mul_of_nonneg_left (by exact om300 b) (Int.le_of_lt hpos)
    rw [Int.mul_add, Int.mul_one] at h1
    exact om301 e h1
theorem undig_split {ds : List Int} {n lo mid hi : Nat} (h1 : lo ≤ mid) (h2 : mid ≤ hi) (h3 : hi ≤ ds.length) :
    undig n ((ds.drop mid).take (hi - mid)) * 2 ^ ((mid - lo) * n) + undig n ((ds.drop lo).take (mid - lo)) = undig n ((ds.drop lo).take (hi - lo)) := by
  have e0 : hi - lo = (mid - lo) + (hi - mid) := by exact om302 h1 h2
  have e1 : (ds.drop lo).take (hi - lo) = (ds.drop lo).take (mid - lo) ++ (ds.drop mid).take (hi - mid) := by
    rw [e0, List.take_add, List.drop_drop]
    congr 3; exact om303 h1 h2
  have hl : ((ds.drop lo).take (mid - lo)).length = mid - lo := by rw [List.length_take, List.length_drop]; exact om304 h1 h2 h3
  rw [e1, undig_append, hl, Int.mul_comm, Int.add_comm]
theorem undig_one {ds : List Int} {n lo : Nat} {d : Int} (h : ds[lo]? = some d) : undig n ((ds.drop lo).take (lo + 1 - lo)) = d := by
  have e : lo + 1 - lo = 1 := by exact om305
  obtain ⟨hlt, hd⟩ := List.getElem?_eq_some_iff.mp h
  rw [e, List.drop_eq_getElem_cons hlt, hd]
  simp [undig]
theorem undig_bits {ds : List Int} {n lo hi : Nat} (hd : ∀ d ∈ ds, 0 ≤ d ∧ d < 2 ^ n) (hn2 : n ≤ 100) (hl : hi - lo ≤ 1000) : Builtin.Int.intBits (undig n ((ds.drop lo).take (hi - lo))) ≤ 100000 := by
  obtain ⟨a, b⟩ := undig_bd n ((ds.drop lo).take (hi - lo)) fun d h => hd d (List.mem_of_mem_drop (List.mem_of_mem_take h))
  have h3 : ((ds.drop lo).take (hi - lo)).length * n ≤ 100000 := Nat.le_trans (Nat.mul_le_mul (show _ ≤ 1000 by rw [List.length_take]; exact om306 hl) hn2) (by exact om270)
  refine intBits_le_iff.mpr (Nat.lt_of_lt_of_le ?_ (Nat.pow_le_pow_right (by decide) h3))
  have h5 : ((undig n ((ds.drop lo).take (hi - lo))).natAbs : Int) < ((2 ^ (((ds.drop lo).take (hi - lo)).length * n) : Nat) : Int) := by rw [Int.natAbs_of_nonneg a]; simpa using b
  exact Int.ofNat_lt.mp h5

theorem q_cast {Q : Value → Shared → Prop} {a b : Int} {t : Nat} {s : Shared} (e : a = b) (h : Q (.int a t) s) : Q (.int b t) s := e ▸ h
theorem spec_d2iIn {w : World} (K₀ : Heap) (S : Stat (hd.heap_39 w.params) K₀) {n : Nat} (hn : 1 ≤ n) (hn2 : n ≤ 100) {ds : List Int} (hds : ∀ d ∈ ds, 0 ≤ d ∧ d < 2 ^ n) (hlen : ds.length ≤ 1000) {f cD cN cI : Nat} {name q : Str} {params : Arguments} {body : List Stmt} {sc : Scope} {pos : Pos} {clos : List (Str × Addr)} {doc pm cdv ct : Value}
    (e : innerOf (hd.heap_39 w.params) 76 = some (name, params, body, sc, pos)) (lD : clos.lookup ("digits" : Str) = some cD) (lN : clos.lookup ("n" : Str) = some cN) (lI : clos.lookup ("inner" : Str) = some cI) :
    ∀ (m : Nat) {A : Around} {E : Value → Shared → Prop} {s : Shared} {led : List (Nat × Mo)} {tmp : List (V × Nat)} {Q : Value → Shared → Prop} {k : Nat} {lo hi : Nat} {t2 t3 : Nat},
    (AOk A (k + m + 1)) → (Rep K₀ led tmp s.heap) → ((f, Mo.fn (fnX name q params body sc clos .none .none doc pm none cdv ct)) ∈ led) → ((cD, Mo.cell (some (.lst (ds.map V.int)))) ∈ led) → ((cN, Mo.cell (some (.int n))) ∈ led) → ((cI, Mo.cell (some (.raw (.ref f)))) ∈ led) →
    hi - lo = m → lo < hi → hi ≤ ds.length →
    (∀ h' tk t, Rep K₀ led tmp h' → Q (.int (undig n ((ds.drop lo).take (hi - lo))) t) (St s h' tk)) →
    wpAny (model PySem.Challenge.rw_uk0010_01.row.prog w) A (call (.ref f) [.int lo t2, .int hi t3]) Q E s := by
  revert S
  k_fill
  intro S
  refine' inner_is ?e0 e ?_
  case e0 => with_unfolding_all exact rfl
  intro q0
  cases q0
  clear e
  intro m
  induction m using Nat.strongRecOn with
  | ind m ih =>
  intro A E s led tmp Q k lo hi t2 t3 AO R hf hA hN hI hm hlt hle h
  refine' r_enterF (l := [("R", .int hi), ("L", .int lo)]) AO S R hf ?hbind ?hcell ?hloc ?hrep ?_ ?c1 ?c2 ?c3
  case hbind => exact BindsTo.of_eq rfl
  case hcell => decide
  case hloc => exact locs rfl
  case hrep => ((try dsimp only [List.reverse, List.reverseAux]); repeat (first | exact Binds.nil | (refine Binds.cons ?_ ?_; (with_reducible first | exact Bear.int | exact Bear.float | exact Bear.str | exact Bear.bool | exact Bear.none | (refine' Bear.tup ?zb3; (case zb3 => (repeat (with_reducible first | exact List.mem_cons_self | refine List.mem_cons_of_mem _ ?_)))) | (refine' Bear.lst ?zb3; (case zb3 => (repeat (with_reducible first | exact List.mem_cons_self | refine List.mem_cons_of_mem _ ?_)))) | exact Bear.raw))))
  case c1 => rfl
  case c2 => rfl
  case c3 => rfl
  clear R AO
  intro L h₁ tk env A' AO EO R
  by_cases hone : hi = lo + 1
  · subst hone
    ((with_reducible refine wpAny_execs_cons ?_); (with_reducible refine wpAny_If ?_); (with_reducible refine wpAny_isTrue_Compare1 ?_); (refine r_ev EO AO R ?_; ((repeat (refine And.intro ?zc ?_; (case zc => (first | assumption | (with_unfolding_all decide +kernel) | omega)))); intro _ _)); (refine' r_locS EO R ?zhv ?zhf ?_ ?zhx ?zhd; (case zhx => exact rfl); (case zhv => exact rfl); (case zhf => exact rfl); (case zhd => decide); intro _); (with_reducible refine P.eq_int ?_); (with_reducible refine wpAny_truthy_bool ?_); (refine PySem.W.ite_pos (by (first | rfl | (simp only [decide_eq_true_eq, beq_iff_eq, bne_iff_ne, ne_eq]; first | assumption | exact om261) | omega)) ?_); (with_reducible refine wpAny_execs_cons ?_); (with_reducible refine wpAny_Return_some ?_); (refine Subscript_ ?_); (refine' r_cell EO R ?zhc ?zhm ?_ ?zhx ?zhd ?zhn; (case zhx => (first | exact Or.inl rfl | exact Or.inr rfl)); (case zhc => first | assumption | exact rfl); (case zhm => (repeat (with_reducible first | assumption | exact List.mem_cons_self | refine List.mem_cons_of_mem _ ?_))); (case zhd => decide); (case zhn => decide); clear R; intro _ R); (refine' r_locS EO R ?zhv ?zhf ?_ ?zhx ?zhd; (case zhx => exact rfl); (case zhv => exact rfl); (case zhf => exact rfl); (case zhd => decide); intro _))
    have hg : ds[lo]? = some ds[lo] := by simp
    have hgm : (ds.map V.int)[Int.toNat (lo : Int)]? = some (V.int ds[lo]) := by rw [Int.toNat_natCast, List.getElem?_map, hg]; rfl
    have hlo : (lo : Int) < 2 ^ 62 := by exact om307 hlen hle
    show wpAny _ _ (subscriptTail _ _ (.ref _) (.int (lo : Int) _)) _ _ _
    refine' r_item R ?i1 ?i2 hlo hgm ?_
    case i1 => exact LAt.ofTmp List.mem_cons_self
    case i2 => exact om308 hlo
    clear R; intro t R
    exact q_cast (undig_one hg) (h _ _ t R.pop.pop.dropLed)
  · have hlt2 : lo + 1 < hi := by exact om265 hlt hone
    obtain ⟨mid, hmid⟩ : ∃ mid : Nat, mid = (lo + hi) / 2 := ⟨_, rfl⟩
    have hm1 : lo < mid := by exact om266 hlt2 hmid
    have hm2 : mid < hi := by exact om309 hlt2 hmid
    obtain ⟨sh, hsh⟩ : ∃ sh : Nat, sh = (mid - lo) * n := ⟨_, rfl⟩
    have rsE1 : ((lo : Int) + (hi : Int)).fdiv (2 ^ Int.toNat 1) = (mid : Int) := by
      rw [Int.fdiv_eq_ediv_of_nonneg _ (by decide)]
      show ((lo : Int) + hi) / 2 = mid
      exact om30 hmid
    have muE : ((mid : Int) - (lo : Int)) * (n : Int) = (sh : Int) := by
      rw [hsh, Int.natCast_mul, Int.natCast_sub (by exact om268 hmid hm1 rsE1)]
    have hshl : sh ≤ 100000 := by
      rw [hsh]
      exact Nat.le_trans (Nat.mul_le_mul (show mid - lo ≤ 1000 by exact om310 hlen hle hmid hm1 rsE1) hn2) (by exact om270)
    have hmo : IntMulOk ((mid : Int) - (lo : Int)) (n : Int) := IntMulOk.of_right (intBits_le_iff.mpr (by exact om271 hn hn2))
    have hbits : Builtin.Int.intBits (undig n ((ds.drop mid).take (hi - mid))) ≤ 100000 := undig_bits hds hn2 (by exact om311 hlen hle hlt2 hmid hm2 rsE1)
    have hls : (Builtin.Int.intBits (undig n ((ds.drop mid).take (hi - mid))) : Int) + (sh : Int) ≤ 2 ^ 27 := by
      have : (100000 : Int) + 100000 ≤ 2 ^ 27 := by decide
      exact om312 hsh muE hshl hbits
    have hnn : (0 : Int) ≤ (sh : Int) := by exact om313 hsh muE hshl
    ((with_reducible refine wpAny_execs_cons ?_); (with_reducible refine wpAny_If ?_); (with_reducible refine wpAny_isTrue_Compare1 ?_); (refine r_ev EO AO R ?_; ((repeat (refine And.intro ?zc ?_; (case zc => (first | assumption | (with_unfolding_all decide +kernel) | omega)))); intro _ _)); (refine' r_locS EO R ?zhv ?zhf ?_ ?zhx ?zhd; (case zhx => exact rfl); (case zhv => exact rfl); (case zhf => exact rfl); (case zhd => decide); intro _); (with_reducible refine P.eq_int ?_); (with_reducible refine wpAny_truthy_bool ?_); (refine PySem.W.ite_neg (by (first | (with_reducible exact Bool.false_ne_true) | (simp only [decide_eq_true_eq, beq_iff_eq, bne_iff_ne, ne_eq, Bool.false_eq_true, not_false_eq_true]; first | done | assumption | exact om276 hlt2) | omega)) ?_); (with_reducible refine wpAny_execs_nil ?_); (with_reducible refine wpAny_execs_cons ?_); (refine wpAny_Assign_Name ?_); (with_reducible refine wpAny_BinOp ?_); (refine r_ev EO AO R ?_; ((repeat (refine And.intro ?zc ?_; (case zc => (first | assumption | (with_unfolding_all decide +kernel) | omega)))); intro _ _)); (with_reducible refine q_cint ?_); (refine' r_shr ?zhn ?zhe ?_; (case zhe => with_reducible first | exact rsE1 | exact rsE2 | exact rfl); (case zhn => (first | exact om21 | assumption | decide)); intro _ _); (refine' r_store EO R ?zhx ?zhv ?_; (case zhx => exact rfl); (case zhv => (with_reducible first | exact Bear.int | exact Bear.float | exact Bear.str | exact Bear.bool | exact Bear.none | (refine' Bear.tup ?zb3; (case zb3 => (repeat (with_reducible first | exact List.mem_cons_self | refine List.mem_cons_of_mem _ ?_)))) | (refine' Bear.lst ?zb3; (case zb3 => (repeat (with_reducible first | exact List.mem_cons_self | refine List.mem_cons_of_mem _ ?_)))) | exact Bear.raw)); clear R; intro h' _ R; (try (first | show wpAny _ _ _ _ _ (St s h' _) | show wpAny _ _ _ _ _ (St s _ _) | show codeAny _ _ _ _ (St s _ _) | show ite _ (wpAny _ _ _ _ _ (St s _ _)) (wpAny _ _ _ _ _ (St s _ _))))); (with_reducible refine wpAny_execs_cons ?_); (refine wpAny_Assign_Name ?_); (with_reducible refine wpAny_BinOp ?_); (refine r_ev EO AO R ?_; ((repeat (refine And.intro ?zc ?_; (case zc => (first | assumption | (with_unfolding_all decide +kernel) | omega)))); intro _ _)); (refine' r_cellS EO R ?zhx ?zhc ?zhm ?zhf ?_ ?zhd ?zhn; (case zhx => (first | exact Or.inl rfl | exact Or.inr rfl)); (case zhc => first | assumption | exact rfl); (case zhm => (repeat (with_reducible first | assumption | exact List.mem_cons_self | refine List.mem_cons_of_mem _ ?_))); (case zhf => exact rfl); (case zhd => decide); (case zhn => decide); intro _); (refine' r_mul ?zhe ?zhm ?_; (case zhe => with_reducible first | exact muE | exact muE2 | exact rfl); (case zhm => first | assumption | mul_fits); intro _ _); (refine' r_store EO R ?zhx ?zhv ?_; (case zhx => exact rfl); (case zhv => (with_reducible first | exact Bear.int | exact Bear.float | exact Bear.str | exact Bear.bool | exact Bear.none | (refine' Bear.tup ?zb3; (case zb3 => (repeat (with_reducible first | exact List.mem_cons_self | refine List.mem_cons_of_mem _ ?_)))) | (refine' Bear.lst ?zb3; (case zb3 => (repeat (with_reducible first | exact List.mem_cons_self | refine List.mem_cons_of_mem _ ?_)))) | exact Bear.raw)); clear R; intro h' _ R; (try (first | show wpAny _ _ _ _ _ (St s h' _) | show wpAny _ _ _ _ _ (St s _ _) | show codeAny _ _ _ _ (St s _ _) | show ite _ (wpAny _ _ _ _ _ (St s _ _)) (wpAny _ _ _ _ _ (St s _ _))))); (with_reducible refine wpAny_execs_cons ?_); (with_reducible refine wpAny_Return_some ?_); (with_reducible refine wpAny_BinOp ?_); (with_reducible refine wpAny_BinOp ?_); (refine Call_ ?_); (refine' r_cellS EO R ?zhx ?zhc ?zhm ?zhf ?_ ?zhd ?zhn; (case zhx => (first | exact Or.inl rfl | exact Or.inr rfl)); (case zhc => first | assumption | exact rfl); (case zhm => (repeat (with_reducible first | assumption | exact List.mem_cons_self | refine List.mem_cons_of_mem _ ?_))); (case zhf => exact rfl); (case zhd => decide); (case zhn => decide); intro _); (refine' callWith_F ?zx ?_; (case zx => exact Rep.fnAt R (by (repeat (with_reducible first | assumption | exact List.mem_cons_self | refine List.mem_cons_of_mem _ ?_))))); (refine wpAny_items_cons ?_); (refine' r_locS EO R ?zhv ?zhf ?_ ?zhx ?zhd; (case zhx => exact rfl); (case zhv => exact rfl); (case zhf => exact rfl); (case zhd => decide); intro _); (refine wpAny_items_cons ?_); (refine' r_locS EO R ?zhv ?zhf ?_ ?zhx ?zhd; (case zhx => exact rfl); (case zhv => exact rfl); (case zhf => exact rfl); (case zhd => decide); intro _); (with_reducible refine wpAny_items_nil ?_); (refine ⟨Rep.fnAt R (by (repeat (with_reducible first | assumption | exact List.mem_cons_self | refine List.mem_cons_of_mem _ ?_))), ?_⟩))
    show wpAny _ _ (call (Value.ref f) [Value.int (mid : Int) _, Value.int (hi : Int) _]) _ _ _
    refine ih (hi - mid) (by exact om281 hm hone hlt2 hmid hm2 rsE1) (show AOk A' ((k + m - (hi - mid) - 1) + (hi - mid) + 1) from AO.le (by exact om314 hm hone hlt2 hmid hm1 hm2 rsE1)) R (.tail _ hf) (.tail _ hA) (.tail _ hN) (.tail _ hI) rfl hm2 hle ?_
    clear R; intro h' tk t R
    ((refine' r_locS EO R ?zhv ?zhf ?_ ?zhx ?zhd; (case zhx => exact rfl); (case zhv => exact rfl); (case zhf => exact rfl); (case zhd => decide); intro _); (refine' q_lsh ?zhn ?zhs ?_; (case zhn => (first | exact om277 hnn | assumption | decide)); (case zhs => assumption)); (refine Call_ ?_); (refine' r_cellS EO R ?zhx ?zhc ?zhm ?zhf ?_ ?zhd ?zhn; (case zhx => (first | exact Or.inl rfl | exact Or.inr rfl)); (case zhc => first | assumption | exact rfl); (case zhm => (repeat (with_reducible first | assumption | exact List.mem_cons_self | refine List.mem_cons_of_mem _ ?_))); (case zhf => exact rfl); (case zhd => decide); (case zhn => decide); intro _); (refine' callWith_F ?zx ?_; (case zx => exact Rep.fnAt R (by (repeat (with_reducible first | assumption | exact List.mem_cons_self | refine List.mem_cons_of_mem _ ?_))))); (refine wpAny_items_cons ?_); (refine' r_locS EO R ?zhv ?zhf ?_ ?zhx ?zhd; (case zhx => exact rfl); (case zhv => exact rfl); (case zhf => exact rfl); (case zhd => decide); intro _); (refine wpAny_items_cons ?_); (refine' r_locS EO R ?zhv ?zhf ?_ ?zhx ?zhd; (case zhx => exact rfl); (case zhv => exact rfl); (case zhf => exact rfl); (case zhd => decide); intro _); (with_reducible refine wpAny_items_nil ?_); (refine ⟨Rep.fnAt R (by (repeat (with_reducible first | assumption | exact List.mem_cons_self | refine List.mem_cons_of_mem _ ?_))), ?_⟩))
    show wpAny _ _ (call (Value.ref f) [Value.int (lo : Int) _, Value.int (mid : Int) _]) _ _ _
    refine ih (mid - lo) (by exact om278 hm hone hlt2 hmid hm1 rsE1) (show AOk A' ((k + m - (mid - lo) - 1) + (mid - lo) + 1) from AO.le (by exact om315 hm hone hlt2 hmid hm1 rsE1)) R (.tail _ hf) (.tail _ hA) (.tail _ hN) (.tail _ hI) rfl hm1 (by exact om280 hle hmid hm2 rsE1) ?_
    clear R; intro h' tk t R
    ((with_reducible refine q_addi ?_))
    refine q_cast (by rw [← undig_split (Nat.le_of_lt hm1) (Nat.le_of_lt hm2) hle, ← hsh, Int.toNat_natCast]) (h _ _ _ R.dropLed)

end Mine

/-! S8 -/
namespace Mine

noncomputable abbrev siteD : List (Pos × Str) := [(⟨54, 4, 59, 55⟩, "_digits2int.<locals>.inner")]
theorem spec_d2i {w : World} {A : Around} {E : Value → Shared → Prop} {s : Shared} {K₀ : Heap} {led : List (Nat × Mo)} {tmp : List (V × Nat)} {Q : Value → Shared → Prop} {k : Nat} {ds : List Int} {n : Nat} {td tn : Nat}
    (AO : AOk A (k + 400)) (S : Stat (hd.heap_39 w.params) K₀) (hC : CodeHd K₀ 75 71) (R : Rep K₀ led tmp s.heap) (hT : (71, Mo.tab siteD) ∈ led)
    (hn : 1 ≤ n) (hn2 : n ≤ 100) (hds : ∀ d ∈ ds, 0 ≤ d ∧ d < 2 ^ n) (hlen : ds.length ≤ 300) (hm : (V.lst (ds.map V.int), td) ∈ tmp)
    (h : ∀ h' tk t, Rep K₀ led tmp h' → Q (.int (undig n ds) t) (St s h' tk)) :
    wpAny (model PySem.Challenge.rw_uk0010_01.row.prog w) A (call (.ref 76) [.ref td, .int n tn]) Q E s := by
  revert AO S R h
  k_fill
  intro AO S R h
  refine' r_enterC (l := []) (cs := fun L => [("inner", L + 1 + 1 + 1), ("n", L + 1 + 1), ("digits", L + 1)]) (cv := lk [("digits", .lst (ds.map V.int)), ("n", .int n)]) AO S R ?ho ?hcd ?hbind ?hcs ?hcu ?hkind ?hrep ?hrepC ?_ ?c1 ?c2 ?c3
  case ho => k_is
  case hcd => k_is
  case hbind => exact rfl
  case hcs => intro L; rfl
  case hcu => intro L p hp; simp only [List.mem_cons, List.not_mem_nil, or_false] at hp; rcases hp with rfl | rfl | rfl <;> rfl
  case hkind => intro L x hx; change x ∈ [(_, _), (_, _)] at hx; simp only [List.mem_cons, List.not_mem_nil, or_false] at hx; rcases hx with rfl | rfl; exact .inr ⟨rfl, rfl⟩; exact .inr ⟨rfl, rfl⟩
  case hrep => intro B hB; exact RepM.nil
  case hrepC =>
    intro B hB L p hp; simp only [List.mem_cons, List.not_mem_nil, or_false] at hp
    rcases hp with rfl | rfl | rfl
    · exact rfl
    · exact ⟨tn, rfl, by simp only [RepT]⟩
    · exact ⟨td, rfl, hB _ hm⟩
  case c1 => rfl
  case c2 => rfl
  case c3 => rfl
  clear R AO
  intro L h₁ tk env A' AO EO R
  obtain ⟨pre, post, rfl⟩ := List.append_of_mem hT
  clear hT
  replace R : Rep K₀ ((L, .ns []) :: (L + 1 + 1 + 1, .cell none) :: (L + 1 + 1, .cell (some (.int n))) :: (L + 1, .cell (some (.lst (ds.map V.int)))) :: (pre ++ (71, .tab siteD) :: post)) tmp h₁ := R
  -- the def
  ((with_reducible refine wpAny_execs_cons ?_))
  refine r_def rfl rfl rfl ?_
  rw [qual_is EO rfl]
  replace R : Rep K₀ ((71, .tab siteD) :: (L, .ns []) :: (L + 1 + 1 + 1, .cell none) :: (L + 1 + 1, .cell (some (.int n))) :: (L + 1, .cell (some (.lst (ds.map V.int)))) :: (pre ++ post)) tmp h₁ := Rep.up (pre := [(L, .ns []), (L + 1 + 1 + 1, .cell none), (L + 1 + 1, .cell (some (.int n))), (L + 1, .cell (some (.lst (ds.map V.int))))] ++ pre) (post := post) R
  refine' r_mkDef EO S hC R ?hs ?hu ?hcl ?_
  case hs => exact List.mem_cons_self
  case hu => intro s hs _ _; simp only [siteD, List.mem_cons, List.not_mem_nil, or_false] at hs; subst hs; rfl
  case hcl => exact rfl
  clear R; intro f h' tk pm doc c' ctv R
  replace R := Rep.up3 R
  refine' r_storeC1 EO R ?hx ?hc (v := .raw (.ref f)) Bear.raw ?_
  case hx => rfl
  case hc => rfl
  clear R; intro h' R
  replace R := Rep.up3 R
  ((with_reducible refine wpAny_execs_cons ?_); (with_reducible refine wpAny_Return_some ?_); (with_reducible refine wpAny_IfExp ?_); (refine wpAny_isTrue_value ?_); (refine' r_cell EO R ?zhc ?zhm ?_ ?zhx ?zhd ?zhn; (case zhx => (first | exact Or.inl rfl | exact Or.inr rfl)); (case zhc => first | assumption | exact rfl); (case zhm => (repeat (with_reducible first | assumption | exact List.mem_cons_self | refine List.mem_cons_of_mem _ ?_))); (case zhd => decide); (case zhn => decide); clear R; intro _ R))
  show wpAny _ _ (truthy (.ref _)) _ _ _
  refine' r_truthyL R ?hm ?hl ?_
  case hm => exact LAt.ofTmp List.mem_cons_self
  case hl => rw [List.length_map]; exact om316 hlen
  intro _
  have fin : ∀ {mf : Mo} {h₂ : Heap} {tm : List (V × Nat)}, (∀ p ∈ tmp, p ∈ tm) → Rep K₀ ((L, .ns []) :: (L + 1 + 1 + 1, .cell (some (.raw (.ref f))))   :: (f, mf) :: (71, .tab siteD) :: (L + 1 + 1, .cell (some (.int n))) :: (L + 1, .cell (some (.lst (ds.map V.int)))) :: (pre ++ post)) tm h₂ → Rep K₀ (pre ++ (71, .tab siteD) :: post) tmp h₂ :=
    fun ht R => Rep.down (R.drop ht).dropLed.dropLed.dropLed.swap.dropLed.swap.dropLed
  by_cases hz : ds = []
  · refine PySem.W.ite_neg (by subst hz; decide) ?_
    ((with_reducible refine q_cint ?_))
    refine q_cast (by subst hz; rfl) (h _ _ _ (fin ?_ R))
    exact fun _ hp => .tail _ hp
  · refine PySem.W.ite_pos (by cases ds with | nil => exact absurd rfl hz | cons _ _ => rfl) ?_
    ((refine Call_ ?_); (refine' r_cellS EO R ?zhx ?zhc ?zhm ?zhf ?_ ?zhd ?zhn; (case zhx => (first | exact Or.inl rfl | exact Or.inr rfl)); (case zhc => first | assumption | exact rfl); (case zhm => (repeat (with_reducible first | assumption | exact List.mem_cons_self | refine List.mem_cons_of_mem _ ?_))); (case zhf => exact rfl); (case zhd => decide); (case zhn => decide); intro _); (refine' callWith_F ?zx ?_; (case zx => exact Rep.fnAt R (by (repeat (with_reducible first | assumption | exact List.mem_cons_self | refine List.mem_cons_of_mem _ ?_))))); (refine wpAny_items_cons ?_); (with_reducible refine q_cint ?_); (refine wpAny_items_cons ?_); (refine Call_ ?_); (refine' r_bi EO S R ?ze ?zhv ?_ ?zhn ?zhx ?zhd; (case zhx => exact rfl); (case ze => k_is); (case zhv => boot_fast); (case zhn => decide); (case zhd => decide)); (refine callWith_method1 ?_); (refine wpAny_items_cons ?_); (refine' r_cell EO R ?zhc ?zhm ?_ ?zhx ?zhd ?zhn; (case zhx => (first | exact Or.inl rfl | exact Or.inr rfl)); (case zhc => first | assumption | exact rfl); (case zhm => (repeat (with_reducible first | assumption | exact List.mem_cons_self | refine List.mem_cons_of_mem _ ?_))); (case zhd => decide); (case zhn => decide); clear R; intro _ R); (with_reducible refine wpAny_items_nil ?_))
    show wpAny _ _ (call (Value.builtin "len") [.ref _]) _ _ _
    refine' r_lenE R ?hm ?he ?hl ?_
    case hm => exact LAt.ofTmp List.mem_cons_self
    case he => exact List.length_map ..
    case hl => exact om316 hlen
    intro _ _
    ((with_reducible refine wpAny_items_nil ?_); (refine ⟨Rep.fnAt R (by (repeat (with_reducible first | assumption | exact List.mem_cons_self | refine List.mem_cons_of_mem _ ?_))), ?_⟩))
    have hpos : 0 < ds.length := List.length_pos_iff.mpr hz
    show wpAny _ _ (call (Value.ref f) [Value.int ((0 : Nat) : Int) _, Value.int (ds.length : Int) _]) _ _ _
    refine' spec_d2iIn K₀ S hn hn2 hds ?g0 ?e ?lA ?lN ?lI ds.length (show AOk A' ((k + 398 - ds.length) + ds.length + 1) from ?ao) R ?hf ?hA ?hN ?hI ?g1 ?g2 ?g3 ?_
    case g0 => exact om317 hlen hpos
    case hf => (repeat (with_reducible first | assumption | exact List.mem_cons_self | refine List.mem_cons_of_mem _ ?_))
    case lA => exact rfl
    case lN => exact rfl
    case lI => exact rfl
    case hA => (repeat (with_reducible first | assumption | exact List.mem_cons_self | refine List.mem_cons_of_mem _ ?_))
    case hN => (repeat (with_reducible first | assumption | exact List.mem_cons_self | refine List.mem_cons_of_mem _ ?_))
    case hI => (repeat (with_reducible first | assumption | exact List.mem_cons_self | refine List.mem_cons_of_mem _ ?_))
    case e => with_unfolding_all exact rfl
    case ao => exact AO.le (by exact om318 hlen hpos)
    case g1 => rfl
    case g2 => exact hpos
    case g3 => exact Nat.le_refl _
    clear R; intro h' tk t R
    skip
    refine q_cast (by simp) (h _ _ _ (fin ?_ R))
    exact fun _ hp => .tail _ (.tail _ hp)

end Mine

/-! S9 -/
namespace Mine

theorem undig_snoc {n : Nat} {qs : List Int} {q : Int} : undig n (qs ++ [q]).reverse = q + 2 ^ n * undig n qs.reverse := by
  rw [List.reverse_append]; rfl
theorem undig_dropGet {n i : Nat} {ds : List Int} {d : Int} (hd : ds[i]? = some d) : undig n (ds.drop i) = d + 2 ^ n * undig n (ds.drop (i + 1)) := by
  obtain ⟨h, e⟩ := List.getElem?_eq_some_iff.mp hd
  rw [List.drop_eq_getElem_cons h, e]; rfl
theorem digs_bd {n : Nat} : ∀ {k : Nat} {x : Int}, ∀ d ∈ digs n x k, 0 ≤ d ∧ d < 2 ^ n
  | 0, _, d, h => by cases h
  | k + 1, x, d, h => by
    simp only [digs] at h
    have hpos : (0 : Int) < 2 ^ n := Int.pow_pos (by decide)
    rcases List.mem_cons.mp h with rfl | h
    · exact ⟨Int.emod_nonneg _ (by exact om6 hpos), Int.emod_lt_of_pos _ hpos⟩
    · exact digs_bd d h
/-- one more digit of the quotient -/
theorem divpos_step {n : Nat} {r d b X Y : Int} (hb : 0 < b) (hr : 0 ≤ r) (hrb : r < b) (hd : 0 ≤ d) (hdn : d < 2 ^ n) (e : Y * b + r = X) :
    0 ≤ (r * 2 ^ n + d) / b ∧ (r * 2 ^ n + d) / b < 2 ^ n ∧ 0 ≤ (r * 2 ^ n + d) % b ∧ (r * 2 ^ n + d) % b < b ∧ ((r * 2 ^ n + d) / b + 2 ^ n * Y) * b + (r * 2 ^ n + d) % b = d + 2 ^ n * X := by
  have hpos : (0 : Int) < 2 ^ n := Int.pow_pos (by decide)
  have h0 : 0 ≤ r * 2 ^ n := Int.mul_nonneg hr (Int.le_of_lt hpos)
  refine ⟨Int.ediv_nonneg (by exact om319 hd h0) (Int.le_of_lt hb), Int.ediv_lt_of_lt_mul hb ?_, Int.emod_nonneg _ (by exact om6 hb), Int.emod_lt_of_pos _ hb, ?_⟩
  · have h1 : (r + 1) * 2 ^ n ≤ b * 2 ^ n := Int.mul_le_mul_of_nonneg_right (by exact om320 hrb e) (Int.le_of_lt hpos)
    rw [Int.add_mul] at h1
    rw [Int.mul_comm (2 ^ n) b]
    exact om321 hdn h1
  · have h1 := Int.emod_add_mul_ediv (r * 2 ^ n + d) b
    rw [← e, Int.add_mul, Int.mul_add, Int.mul_comm _ b, Int.mul_assoc, Int.mul_comm r]
    rw [Int.mul_comm r] at h1
    exact om322 h1
theorem r_lsh {h₀ : Heap} {t₀ : Nat} {prog : Program} {w : World} {A : Around} {E : Value → Shared → Prop} {s : Shared} {a c : Int} {n : Nat} {t u : Nat} {Q : Value → Shared → Prop} (e : a * 2 ^ n = c) (ha : a.natAbs < 2 ^ 100) (hn : n ≤ 1000) (h : ∀ tk t, Q (.int c t) (St s h₀ tk)) :
    wpAny (model prog w) A (binaryOp .LShift (.int a t) (.int (n : Int) u)) Q E (St s h₀ t₀) := by
  refine lshift_int (by exact om323 hn) ?_ (by rw [Int.toNat_natCast, e]; exact h _ _)
  have h1 : Builtin.Int.intBits a ≤ 100 := bits_le ha
  exact om324 hn h1
theorem spec_divpos {w : World} {A : Around} {E : Value → Shared → Prop} {s : Shared} {K₀ : Heap} {led : List (Nat × Mo)} {tmp : List (V × Nat)} {Q : Value → Shared → Prop} {k : Nat} {a b : Int} {ta tb : Nat}
    (AO : AOk A (k + 401)) (S : Stat (hd.heap_39 w.params) K₀) (hC : CodeHd K₀ 68 64) (hC2 : CodeHd K₀ 75 71) (R : Rep K₀ led tmp s.heap) (hT : (64, Mo.tab siteA) ∈ led) (hT2 : (71, Mo.tab siteD) ∈ led)
    (h0 : 0 ≤ a) (ha : a < 2 ^ 300) (hb : 0 < b) (hb2 : b < 2 ^ 100)
    (h : ∀ h' tk t, Rep K₀ led ((.tup [.int (a / b), .int (a % b)], t) :: tmp) h' → Q (.ref t) (St s h' tk)) :
    wpAny (model PySem.Challenge.rw_uk0010_01.row.prog w) A (call (.ref 83) [.int a ta, .int b tb]) Q E s := by
  revert AO S R h
  k_fill
  intro AO S R h
  refine' r_enter (l := [("b", .int b), ("a", .int a)]) AO S R ?ho ?hcd ?hbind ?hcell ?hloc ?hrep ?_ ?c1 ?c2 ?c3
  ((case ho => k_is); (case hcd => k_is); (case hbind => first | exact BindsTo.of_eq rfl | exact binds_K (Rep.stat R S).x rfl (by k_is) rfl rfl rfl); (case hcell => decide); (case hloc => exact locs rfl); (case c1 => rfl); (case c2 => rfl); (case c3 => rfl))
  case hrep => intro B RB; exact (show Binds tmp _ _ by ((try dsimp only [List.reverse, List.reverseAux]); repeat (first | exact Binds.nil | (refine Binds.cons ?_ ?_; (with_reducible first | exact Bear.int | exact Bear.float | exact Bear.str | exact Bear.bool | exact Bear.none | (refine' Bear.tup ?zb3; (case zb3 => (repeat (with_reducible first | exact List.mem_cons_self | refine List.mem_cons_of_mem _ ?_)))) | (refine' Bear.lst ?zb3; (case zb3 => (repeat (with_reducible first | exact List.mem_cons_self | refine List.mem_cons_of_mem _ ?_)))) | exact Bear.raw))))) B RB.tmp
  clear R AO
  intro L h₁ tk env A' AO EO R
  obtain ⟨n, hn⟩ : ∃ n : Nat, n = Builtin.Int.intBits b := ⟨_, rfl⟩
  have hn1 : 1 ≤ n := by
    rcases Nat.eq_zero_or_pos n with e | e
    · have h1 := lt_bits b
      rw [← hn, e] at h1
      simp at h1; exact om325 hb hb2 h1
    · exact e
  have hn2 : n ≤ 100 := by
    rw [hn]
    refine bits_le ?_
    have : (b.natAbs : Int) < ((2 ^ 100 : Nat) : Int) := by rw [Int.natAbs_of_nonneg (Int.le_of_lt hb)]; exact_mod_cast hb2
    exact_mod_cast this
  ((with_reducible refine wpAny_execs_cons ?_); (refine wpAny_Assign_Name ?_); (refine MethodCall_ ?_); (refine' r_locS EO R ?zhv ?zhf ?_ ?zhx ?zhd; (case zhx => exact rfl); (case zhv => exact rfl); (case zhf => exact rfl); (case zhd => decide); intro _); (with_reducible refine getMethod_int_bit_length ?_); (with_reducible refine callWith_method0 ?_); (with_reducible refine q_bitlen ?_); (refine' r_store EO R ?zhx ?zhv ?_; (case zhx => exact rfl); (case zhv => (with_reducible first | exact Bear.int | exact Bear.float | exact Bear.str | exact Bear.bool | exact Bear.none | (refine' Bear.tup ?zb3; (case zb3 => (repeat (with_reducible first | exact List.mem_cons_self | refine List.mem_cons_of_mem _ ?_)))) | (refine' Bear.lst ?zb3; (case zb3 => (repeat (with_reducible first | exact List.mem_cons_self | refine List.mem_cons_of_mem _ ?_)))) | exact Bear.raw)); clear R; intro h' _ R; (try (first | show wpAny _ _ _ _ _ (St s h' _) | show wpAny _ _ _ _ _ (St s _ _) | show codeAny _ _ _ _ (St s _ _) | show ite _ (wpAny _ _ _ _ _ (St s _ _)) (wpAny _ _ _ _ _ (St s _ _))))); (with_reducible refine wpAny_execs_cons ?_); (refine wpAny_Assign_Name ?_); (refine Call_ ?_); (refine' r_glob EO S R ?ze ?_ ?zhx ?zhd; (case zhx => exact rfl); (case ze => k_is); (case zhd => decide)); (refine' callWith_K ?zx ?zk ?_; (case zx => exact S.x); (case zk => k_is)); (refine wpAny_items_cons ?_); (refine' r_locS EO R ?zhv ?zhf ?_ ?zhx ?zhd; (case zhx => exact rfl); (case zhv => exact rfl); (case zhf => exact rfl); (case zhd => decide); intro _); (refine wpAny_items_cons ?_); (refine' r_locS EO R ?zhv ?zhf ?_ ?zhx ?zhd; (case zhx => exact rfl); (case zhv => exact rfl); (case zhf => exact rfl); (case zhd => decide); intro _); (with_reducible refine wpAny_items_nil ?_); (refine ⟨(Rep.stat R S).x, ?_⟩))
  show wpAny _ _ (call (.ref 69) [.int a _, .int (Builtin.Int.intBits b : Int) _]) _ _ _
  refine' spec_i2d AO S hC R ?m1 ?g1 ?g2 h0 ha ?_
  case m1 => (repeat (with_reducible first | assumption | exact List.mem_cons_self | refine List.mem_cons_of_mem _ ?_))
  case g1 => exact om326 hn hn1 hn2
  case g2 => exact om327 hn hn1 hn2
  clear R; intro h' tk td R
  have hnd : ndig a n ≤ 300 := by
    have h1 : Builtin.Int.intBits a ≤ 300 := bits_le (by
      have : (a.natAbs : Int) < ((2 ^ 300 : Nat) : Int) := by rw [Int.natAbs_of_nonneg h0]; exact_mod_cast ha
      exact_mod_cast this)
    unfold ndig
    refine Nat.le_of_lt_succ (Nat.div_lt_of_lt_mul ?_)
    have h3 : n * (300 + 1) = 300 * n + n := by exact om290
    exact om328 hn hn1 hn2 h1
  have hba : b.natAbs < 2 ^ 100 := by
    have : (b.natAbs : Int) < ((2 ^ 100 : Nat) : Int) := by rw [Int.natAbs_of_nonneg (Int.le_of_lt hb)]; exact_mod_cast hb2
    exact_mod_cast this
  have hlt := ndig_lt h0 hn1
  obtain ⟨ds, hds⟩ : ∃ ds, ds = digs n a (ndig a n) := ⟨_, rfl⟩
  have hdl : ds.length = ndig a n := by rw [hds]; exact digs_length ..
  have hdb : ∀ d ∈ ds, 0 ≤ d ∧ d < 2 ^ n := by rw [hds]; exact digs_bd
  have hdu : undig n ds = a := by rw [hds]; exact undig_digs n _ a h0 hlt
  rw [← hn, ← hds] at R
  ((refine' r_store EO R ?zhx ?zhv ?_; (case zhx => exact rfl); (case zhv => (with_reducible first | exact Bear.int | exact Bear.float | exact Bear.str | exact Bear.bool | exact Bear.none | (refine' Bear.tup ?zb3; (case zb3 => (repeat (with_reducible first | exact List.mem_cons_self | refine List.mem_cons_of_mem _ ?_)))) | (refine' Bear.lst ?zb3; (case zb3 => (repeat (with_reducible first | exact List.mem_cons_self | refine List.mem_cons_of_mem _ ?_)))) | exact Bear.raw)); clear R; intro h' _ R; (try (first | show wpAny _ _ _ _ _ (St s h' _) | show wpAny _ _ _ _ _ (St s _ _) | show codeAny _ _ _ _ (St s _ _) | show ite _ (wpAny _ _ _ _ _ (St s _ _)) (wpAny _ _ _ _ _ (St s _ _))))); (refine' r_asgE EO AO R ?_ ?zhx; (case zhx => exact rfl); ((repeat (refine And.intro ?zc ?_; (case zc => (first | assumption | (with_unfolding_all decide +kernel) | omega)))); clear R; intro h' _ R; (try (first | show wpAny _ _ _ _ _ (St s h' _) | show wpAny _ _ _ _ _ (St s _ _) | show codeAny _ _ _ _ (St s _ _) | show ite _ (wpAny _ _ _ _ _ (St s _ _)) (wpAny _ _ _ _ _ (St s _ _)))))); (with_reducible refine wpAny_execs_cons ?_); (refine wpAny_Assign_Name ?_); (with_reducible refine List_ ?_); (with_reducible refine wpAny_items_nil ?_))
  refine' r_newListPl R ?hv ?_ ?hz
  case hv => (repeat (first | exact Bears.nil | (apply Bears.cons; (with_reducible first | exact Bear.int | exact Bear.float | exact Bear.str | exact Bear.bool | exact Bear.none | (refine' Bear.tup ?zb3; (case zb3 => (repeat (with_reducible first | exact List.mem_cons_self | refine List.mem_cons_of_mem _ ?_)))) | (refine' Bear.lst ?zb3; (case zb3 => (repeat (with_reducible first | exact List.mem_cons_self | refine List.mem_cons_of_mem _ ?_)))) | exact Bear.raw))))
  case hz => exact of_decide_eq_true (by rfl)
  clear R; intro ql h' R
  ((refine' r_store EO R ?zhx ?zhv ?_; (case zhx => exact rfl); (case zhv => (with_reducible first | exact Bear.int | exact Bear.float | exact Bear.str | exact Bear.bool | exact Bear.none | (refine' Bear.tup ?zb3; (case zb3 => (repeat (with_reducible first | exact List.mem_cons_self | refine List.mem_cons_of_mem _ ?_)))) | (refine' Bear.lst ?zb3; (case zb3 => (repeat (with_reducible first | exact List.mem_cons_self | refine List.mem_cons_of_mem _ ?_)))) | exact Bear.raw)); clear R; intro h' _ R; (try (first | show wpAny _ _ _ _ _ (St s h' _) | show wpAny _ _ _ _ _ (St s _ _) | show codeAny _ _ _ _ (St s _ _) | show ite _ (wpAny _ _ _ _ _ (St s _ _)) (wpAny _ _ _ _ _ (St s _ _)))))); (try dsimp only); ((with_reducible refine wpAny_execs_cons ?_))
  refine wpAny_For ?_
  ((refine Call_ ?_); (refine' r_bi EO S R ?ze ?zhv ?_ ?zhn ?zhx ?zhd; (case zhx => exact rfl); (case ze => k_is); (case zhv => boot_fast); (case zhn => decide); (case zhd => decide)); (refine Pv.callWith_type1 ?_); (refine wpAny_items_cons ?_); (refine' r_loc EO R ?zhv ?_ ?zhx ?zhd; (case zhx => exact rfl); (case zhv => exact rfl); (case zhd => decide); clear R; intro _ R); (with_reducible refine wpAny_items_nil ?_))
  show wpAny _ _ (call (Value.type "reversed") [.ref _]) _ _ _
  refine' r_reversed R ?hm ?_
  case hm => (repeat (with_reducible first | assumption | exact List.mem_cons_self | refine List.mem_cons_of_mem _ ?_))
  clear R; intro I h' R
  refine' r_pyIterRev R (List.mem_cons_of_mem _ List.mem_cons_self) _ rfl ?_
  rename_i td'
  replace R := Rep.loc [("r", V.int 0), ("b", V.int b), ("n", V.int (n : Int)), ("q_digits", V.raw (.ref ql))] R ⟨rfl, rfl, rfl, rfl, trivial⟩
  refine' r_forLoop (fun i l led' => ∃ (qs : List Int) (r : Int), l = [(("r" : Str), V.int r), ("b", V.int b), ("n", V.int (n : Int)), ("q_digits", V.raw (.ref ql))] ∧ led' = (ql, Mo.pl (qs.map V.int)) :: led ∧ undig n qs.reverse * b + r = undig n (ds.drop (ds.length - i)) ∧ 0 ≤ r ∧ r < b ∧ qs.length = i ∧ ∀ q ∈ qs, 0 ≤ q ∧ q < 2 ^ n)
    (Iter.rev AO) EO ?htp ?hx ?turn ⟨[], 0, rfl, rfl, ?j1, ?j2, ?j3, rfl, ?j4⟩ R ?_
  case htp => intro p hp; simp only [List.mem_cons, List.not_mem_nil, or_false] at hp; subst hp; (repeat (with_reducible first | assumption | exact List.mem_cons_self | refine List.mem_cons_of_mem _ ?_))
  case hx => rfl
  case j1 => simp [undig]
  case j2 => exact om110
  case j3 => exact hb
  case j4 => intro q hq; cases hq
  case turn =>
    clear R
    rintro i v l led' t s hi ⟨qs, r, rfl, rfl, hinv, hr0, hrb, hql, hqb⟩ R
    have hil : i < ds.length := by
      have := List.getElem?_eq_some_iff.mp hi; simpa using this.1
    obtain ⟨d, hdd⟩ : ∃ d, ds[ds.length - 1 - i]? = some d := ⟨_, List.getElem?_eq_getElem (by exact om329 hql hil)⟩
    have hv : v = V.int d := by
      rw [List.getElem?_reverse (by simpa using hil), List.length_map, List.getElem?_map, hdd] at hi
      exact (Option.some.inj hi).symm
    subst hv
    have hd2 := hdb d (List.mem_of_getElem? hdd)
    have hstep := divpos_step hb hr0 hrb hd2.1 hd2.2 hinv
    obtain ⟨z, hz⟩ : ∃ z : Int, z = r * 2 ^ n := ⟨_, rfl⟩
    have hr100 : r.natAbs < 2 ^ 100 := by exact om330 hb hb2 hr0 hrb
    have hzb : Builtin.Int.intBits (z + d) ≤ 300 := by
      refine bits_le ?_
      have h1 : (2 : Int) ^ n ≤ 2 ^ 100 := by
        have := Nat.pow_le_pow_right (n := 2) (by decide) hn2
        exact_mod_cast this
      have h2 : r * 2 ^ n ≤ r * 2 ^ 100 := Int.mul_le_mul_of_nonneg_left h1 hr0
      have h3 : 0 ≤ r * 2 ^ n := Int.mul_nonneg hr0 (by exact om331 hstep)
      rw [← hz] at h2 h3
      have hr2 : r < 2 ^ 100 := by exact om332 hb hb2 hrb
      exact om333 hb hb2 hr0 hrb hd2 hstep hz h1 h2 h3 hr2
    ((with_reducible refine wpAny_execs_cons ?_); (refine Assign_Tuple ?_); (refine Call_ ?_); (refine' r_glob EO S R ?ze ?_ ?zhx ?zhd; (case zhx => exact rfl); (case ze => k_is); (case zhd => decide)); (refine' callWith_K ?zx ?zk ?_; (case zx => exact S.x); (case zk => k_is)); (refine wpAny_items_cons ?_); (with_reducible refine wpAny_BinOp ?_); (with_reducible refine wpAny_BinOp ?_); (refine' r_locS EO R ?zhv ?zhf ?_ ?zhx ?zhd; (case zhx => exact rfl); (case zhv => exact rfl); (case zhf => exact rfl); (case zhd => decide); intro _); (refine' r_locS EO R ?zhv ?zhf ?_ ?zhx ?zhd; (case zhx => exact rfl); (case zhv => exact rfl); (case zhf => exact rfl); (case zhd => decide); intro _))
    refine r_lsh hz.symm hr100 (by exact om334 hn hn1 hn2) ?_
    intro _ _
    ((refine' r_locS EO R ?zhv ?zhf ?_ ?zhx ?zhd; (case zhx => exact rfl); (case zhv => exact rfl); (case zhf => exact rfl); (case zhd => decide); intro _); (with_reducible refine q_addi ?_); (refine wpAny_items_cons ?_); (refine' r_locS EO R ?zhv ?zhf ?_ ?zhx ?zhd; (case zhx => exact rfl); (case zhv => exact rfl); (case zhf => exact rfl); (case zhd => decide); intro _); (refine wpAny_items_cons ?_); (refine' r_locS EO R ?zhv ?zhf ?_ ?zhx ?zhd; (case zhx => exact rfl); (case zhv => exact rfl); (case zhf => exact rfl); (case zhd => decide); intro _); (with_reducible refine wpAny_items_nil ?_); (refine ⟨(Rep.stat R S).x, ?_⟩))
    show wpAny _ _ (call (.ref 55) [.int (z + d) _, .int b _, .int (n : Int) _]) _ _ _
    refine' spec_div2n1n (AO.le (show 1 ≤ k + 400 by exact om335)) S R ?g1 ?g2 hba ?_
    case g1 => exact om336 hb hb2
    case g2 => exact om337 hn hn1 hn2 hzb
    clear R; intro h' tk t R
    ((refine' r_asgTup2 AO R ?zhm rfl ?_; (case zhm => (repeat (with_reducible first | assumption | exact List.mem_cons_self | refine List.mem_cons_of_mem _ ?_))); clear R; intro h' _ _ R; (try (first | show wpAny _ _ _ _ _ (St s h' _) | show wpAny _ _ _ _ _ (St s _ _) | show codeAny _ _ _ _ (St s _ _) | show ite _ (wpAny _ _ _ _ _ (St s _ _)) (wpAny _ _ _ _ _ (St s _ _))))); (refine wpAny_assign_Name ?_); (refine' r_store EO R ?zhx ?zhv ?_; (case zhx => exact rfl); (case zhv => (with_reducible first | exact Bear.int | exact Bear.float | exact Bear.str | exact Bear.bool | exact Bear.none | (refine' Bear.tup ?zb3; (case zb3 => (repeat (with_reducible first | exact List.mem_cons_self | refine List.mem_cons_of_mem _ ?_)))) | (refine' Bear.lst ?zb3; (case zb3 => (repeat (with_reducible first | exact List.mem_cons_self | refine List.mem_cons_of_mem _ ?_)))) | exact Bear.raw)); clear R; intro h' _ R; (try (first | show wpAny _ _ _ _ _ (St s h' _) | show wpAny _ _ _ _ _ (St s _ _) | show codeAny _ _ _ _ (St s _ _) | show ite _ (wpAny _ _ _ _ _ (St s _ _)) (wpAny _ _ _ _ _ (St s _ _))))); (refine wpAny_assign_Name ?_); (refine' r_store EO R ?zhx ?zhv ?_; (case zhx => exact rfl); (case zhv => (with_reducible first | exact Bear.int | exact Bear.float | exact Bear.str | exact Bear.bool | exact Bear.none | (refine' Bear.tup ?zb3; (case zb3 => (repeat (with_reducible first | exact List.mem_cons_self | refine List.mem_cons_of_mem _ ?_)))) | (refine' Bear.lst ?zb3; (case zb3 => (repeat (with_reducible first | exact List.mem_cons_self | refine List.mem_cons_of_mem _ ?_)))) | exact Bear.raw)); clear R; intro h' _ R; (try (first | show wpAny _ _ _ _ _ (St s h' _) | show wpAny _ _ _ _ _ (St s _ _) | show codeAny _ _ _ _ (St s _ _) | show ite _ (wpAny _ _ _ _ _ (St s _ _)) (wpAny _ _ _ _ _ (St s _ _))))); (with_reducible refine wpAny_execs_cons ?_); (refine r_expr EO ?_); (refine MethodCall_ ?_); (refine' r_locS EO R ?zhv ?zhf ?_ ?zhx ?zhd; (case zhx => exact rfl); (case zhv => exact rfl); (case zhf => exact rfl); (case zhd => decide); intro _); (refine' r_methodPl R ?zhm PySem.F.slot_list_append PySem.F.type_list_append ?_; (case zhm => (repeat (with_reducible first | assumption | exact List.mem_cons_self | refine List.mem_cons_of_mem _ ?_)))); (refine callWith_method1 ?_); (refine wpAny_items_cons ?_); (refine' r_locS EO R ?zhv ?zhf ?_ ?zhx ?zhd; (case zhx => exact rfl); (case zhv => exact rfl); (case zhf => exact rfl); (case zhd => decide); intro _); (with_reducible refine wpAny_items_nil ?_))
    show wpAny _ _ (call (.builtin "list.append") [.ref ql, .int _ _]) _ _ _
    replace R := Rep.up2 R
    refine' r_append R ?g1 Bear.int ?_
    case g1 => rw [List.length_map]; exact om338 hnd hdl hql hil
    clear R; intro h' R
    replace R := Rep.dn2 R
    have hz0 : 0 ≤ z := by rw [hz]; exact Int.mul_nonneg hr0 (Int.le_of_lt (Int.pow_pos (by decide)))
    have ef : (z + d).fdiv b = (z + d) / b := Int.fdiv_eq_ediv_of_nonneg _ (Int.le_of_lt hb)
    have em : (z + d).fmod b = (z + d) % b := Int.fmod_eq_emod_of_nonneg _ (Int.le_of_lt hb)
    rw [ef, em] at R
    rw [← hz] at hstep
    replace R := Rep.loc [("r", V.int ((z + d) % b)), ("b", V.int b), ("n", V.int (n : Int)), ("q_digits", V.raw (.ref ql))] R ⟨rfl, rfl, rfl, rfl, trivial⟩
    ((with_reducible refine wpAny_execs_nil ?_))
    refine ⟨rfl, _, _, _, _, ⟨qs ++ [(z + d) / b], (z + d) % b, rfl, ?f1, ?f2, hstep.2.2.1, hstep.2.2.2.1, ?f3, ?f4⟩, Rep.drop R ?f5, rfl⟩
    case f1 => rw [List.map_append]; rfl
    case f2 =>
      rw [undig_snoc, hstep.2.2.2.2]
      have e1 : ds.length - (i + 1) = ds.length - 1 - i := by exact om339 hil
      have e2 : ds.length - i = ds.length - 1 - i + 1 := by exact om340 hil
      rw [e1, e2, undig_dropGet hdd]
    case f3 => rw [List.length_append, hql]; rfl
    case f4 =>
      intro q hq
      rcases List.mem_append.mp hq with hq | hq
      · exact hqb q hq
      · rw [List.mem_singleton.mp hq]; exact ⟨hstep.1, hstep.2.1⟩
    case f5 => intro p hp; (repeat (with_reducible first | assumption | exact List.mem_cons_self | refine List.mem_cons_of_mem _ ?_))
  clear R
  rintro l led' h' tk ⟨qs, r, rfl, rfl, hinv, hr0, hrb, hql, hqb⟩ R
  ((with_reducible refine wpAny_execs_cons ?_); (refine r_expr EO ?_); (refine MethodCall_ ?_); (refine' r_locS EO R ?zhv ?zhf ?_ ?zhx ?zhd; (case zhx => exact rfl); (case zhv => exact rfl); (case zhf => exact rfl); (case zhd => decide); intro _); (refine' r_methodPl R ?zhm PySem.F.slot_list_reverse PySem.F.type_list_reverse ?_; (case zhm => (repeat (with_reducible first | assumption | exact List.mem_cons_self | refine List.mem_cons_of_mem _ ?_)))); (with_reducible refine callWith_method0 ?_))
  show wpAny _ _ (call (.builtin "list.reverse") [.ref ql]) _ _ _
  replace R := Rep.swap R
  refine' r_reverse R ?g1 ?_
  case g1 => rw [List.length_map]; rw [List.length_reverse, List.length_map] at hql; exact om341 hnd hdl hql
  clear R; intro h' R
  rw [← List.map_reverse] at R
  replace R := Rep.freezePl R
  rw [List.length_reverse, List.length_map] at hql
  ((with_reducible refine wpAny_execs_cons ?_); (refine wpAny_Assign_Name ?_); (refine Call_ ?_); (refine' r_glob EO S R ?ze ?_ ?zhx ?zhd; (case zhx => exact rfl); (case ze => k_is); (case zhd => decide)); (refine' callWith_K ?zx ?zk ?_; (case zx => exact S.x); (case zk => k_is)); (refine wpAny_items_cons ?_); (refine' r_locS EO R ?zhv ?zhf ?_ ?zhx ?zhd; (case zhx => exact rfl); (case zhv => exact rfl); (case zhf => exact rfl); (case zhd => decide); intro _); (refine wpAny_items_cons ?_); (refine' r_locS EO R ?zhv ?zhf ?_ ?zhx ?zhd; (case zhx => exact rfl); (case zhv => exact rfl); (case zhf => exact rfl); (case zhd => decide); intro _); (with_reducible refine wpAny_items_nil ?_); (refine ⟨(Rep.stat R S).x, ?_⟩))
  show wpAny _ _ (call (.ref 76) [.ref ql, .int (n : Int) _]) _ _ _
  refine' spec_d2i AO S hC2 R ?m1 hn1 hn2 ?g2 ?g3 List.mem_cons_self ?_
  case m1 => exact List.mem_cons_of_mem _ hT2
  case g2 => intro q hq; exact hqb q (List.mem_reverse.mp hq)
  case g3 => rw [List.length_reverse]; exact om342 hnd hdl hql
  clear R; intro h' tk t R
  ((refine' r_store EO R ?zhx ?zhv ?_; (case zhx => exact rfl); (case zhv => (with_reducible first | exact Bear.int | exact Bear.float | exact Bear.str | exact Bear.bool | exact Bear.none | (refine' Bear.tup ?zb3; (case zb3 => (repeat (with_reducible first | exact List.mem_cons_self | refine List.mem_cons_of_mem _ ?_)))) | (refine' Bear.lst ?zb3; (case zb3 => (repeat (with_reducible first | exact List.mem_cons_self | refine List.mem_cons_of_mem _ ?_)))) | exact Bear.raw)); clear R; intro h' _ R; (try (first | show wpAny _ _ _ _ _ (St s h' _) | show wpAny _ _ _ _ _ (St s _ _) | show codeAny _ _ _ _ (St s _ _) | show ite _ (wpAny _ _ _ _ _ (St s _ _)) (wpAny _ _ _ _ _ (St s _ _))))); (with_reducible refine wpAny_execs_cons ?_); (with_reducible refine wpAny_Return_some ?_); (refine' r_tupE EO AO R ?_ ?zhs; (case zhs => exact of_decide_eq_true rfl); ((repeat (refine And.intro ?zc ?_; (case zc => (first | assumption | (with_unfolding_all decide +kernel) | omega)))); clear R; intro h' _ _ R; (try (first | show wpAny _ _ _ _ _ (St s h' _) | show wpAny _ _ _ _ _ (St s _ _) | show codeAny _ _ _ _ (St s _ _) | show ite _ (wpAny _ _ _ _ _ (St s _ _)) (wpAny _ _ _ _ _ (St s _ _)))))))
  rw [List.length_reverse, List.length_map, Nat.sub_self, List.drop_zero, hdu] at hinv
  have eq1 : undig n qs.reverse = a / b := by
    rw [← hinv, Int.add_comm, Int.add_mul_ediv_right _ _ (by exact om336 hb hb2), Int.ediv_eq_zero_of_lt hr0 hrb]; exact om343
  have eq2 : r = a % b := by
    rw [← hinv, Int.add_comm, Int.add_mul_emod_self_right, Int.emod_eq_of_lt hr0 hrb]
  rw [eq1, eq2] at R
  refine h _ _ _ (Rep.drop R.dropLed ?f)
  case f => intro p hp; rcases List.mem_cons.mp hp with rfl | hp; exact .head _; (repeat (with_reducible first | assumption | exact List.mem_cons_self | refine List.mem_cons_of_mem _ ?_))

end Mine

/-! S10 -/
namespace Mine

theorem neg_div {a b : Int} (hb : 0 < b) : a / b = -1 - (-1 - a) / b ∧ a % b = b + (-1 - (-1 - a) % b) := by
  have h1 := Int.emod_add_mul_ediv (-1 - a) b
  have h2 := Int.emod_nonneg (-1 - a) (show b ≠ 0 by exact om6 hb)
  have h3 := Int.emod_lt_of_pos (-1 - a) hb
  have h4 : b * (-1 - (-1 - a) / b) = -b - b * ((-1 - a) / b) := by rw [Int.mul_sub]; exact om7
  have key := (Int.ediv_emod_unique (a := a) (b := b) (r := b + (-1 - (-1 - a) % b)) (q := -1 - (-1 - a) / b) hb).mpr ⟨by rw [h4]; exact om8 h1, by exact om9 h1 h3 h4, by exact om10 h1 h2⟩
  exact key
theorem spec_divmod0 {w : World} {A : Around} {E : Value → Shared → Prop} {s : Shared} {K₀ : Heap} {led : List (Nat × Mo)} {tmp : List (V × Nat)} {Q : Value → Shared → Prop} {k : Nat} {a b : Int} {ta tb : Nat}
    (AO : AOk A (k + 402)) (S : Stat (hd.heap_39 w.params) K₀) (hC : CodeHd K₀ 68 64) (hC2 : CodeHd K₀ 75 71) (R : Rep K₀ led tmp s.heap) (hT : (64, Mo.tab siteA) ∈ led) (hT2 : (71, Mo.tab siteD) ∈ led)
    (h0 : 0 ≤ a) (ha : a < 2 ^ 300) (hb : 0 < b) (hb2 : b < 2 ^ 100)
    (h : ∀ h' tk t, Rep K₀ led ((.tup [.int (a / b), .int (a % b)], t) :: tmp) h' → Q (.ref t) (St s h' tk)) :
    wpAny (model PySem.Challenge.rw_uk0010_01.row.prog w) A (call (.ref 90) [.int a ta, .int b tb]) Q E s := by
  revert AO S R h
  k_fill
  intro AO S R h
  refine' r_enter (l := [("b", .int b), ("a", .int a)]) AO S R ?ho ?hcd ?hbind ?hcell ?hloc ?hrep ?_ ?c1 ?c2 ?c3
  ((case ho => k_is); (case hcd => k_is); (case hbind => first | exact BindsTo.of_eq rfl | exact binds_K (Rep.stat R S).x rfl (by k_is) rfl rfl rfl); (case hcell => decide); (case hloc => exact locs rfl); (case c1 => rfl); (case c2 => rfl); (case c3 => rfl))
  case hrep => intro B RB; exact (show Binds tmp _ _ by ((try dsimp only [List.reverse, List.reverseAux]); repeat (first | exact Binds.nil | (refine Binds.cons ?_ ?_; (with_reducible first | exact Bear.int | exact Bear.float | exact Bear.str | exact Bear.bool | exact Bear.none | (refine' Bear.tup ?zb3; (case zb3 => (repeat (with_reducible first | exact List.mem_cons_self | refine List.mem_cons_of_mem _ ?_)))) | (refine' Bear.lst ?zb3; (case zb3 => (repeat (with_reducible first | exact List.mem_cons_self | refine List.mem_cons_of_mem _ ?_)))) | exact Bear.raw))))) B RB.tmp
  clear R AO
  intro L h₁ tk env A' AO EO R
  ((with_reducible refine wpAny_execs_cons ?_); (with_reducible refine wpAny_If ?_); (with_reducible refine wpAny_isTrue_Compare1 ?_); (refine' r_locS EO R ?zhv ?zhf ?_ ?zhx ?zhd; (case zhx => exact rfl); (case zhv => exact rfl); (case zhf => exact rfl); (case zhd => decide); intro _); (with_reducible refine q_cint ?_); (with_reducible refine P.eq_int ?_); (with_reducible refine wpAny_truthy_bool ?_); (refine PySem.W.ite_neg (by (first | (with_reducible exact Bool.false_ne_true) | (simp only [decide_eq_true_eq, beq_iff_eq, bne_iff_ne, ne_eq, Bool.false_eq_true, not_false_eq_true]; first | done | assumption | exact om11 hb hb2) | omega)) ?_); (with_reducible refine wpAny_execs_cons ?_); (with_reducible refine wpAny_If ?_); (with_reducible refine wpAny_isTrue_Compare1 ?_); (refine' r_locS EO R ?zhv ?zhf ?_ ?zhx ?zhd; (case zhx => exact rfl); (case zhv => exact rfl); (case zhf => exact rfl); (case zhd => decide); intro _); (with_reducible refine q_cint ?_); (with_reducible refine P.lt_int ?_); (with_reducible refine wpAny_truthy_bool ?_); (refine PySem.W.ite_neg (by (first | (with_reducible exact Bool.false_ne_true) | (simp only [decide_eq_true_eq, beq_iff_eq, bne_iff_ne, ne_eq, Bool.false_eq_true, not_false_eq_true]; first | done | assumption | exact om12 hb hb2) | omega)) ?_); (with_reducible refine wpAny_execs_cons ?_); (with_reducible refine wpAny_If ?_); (with_reducible refine wpAny_isTrue_Compare1 ?_); (refine' r_locS EO R ?zhv ?zhf ?_ ?zhx ?zhd; (case zhx => exact rfl); (case zhv => exact rfl); (case zhf => exact rfl); (case zhd => decide); intro _); (with_reducible refine q_cint ?_); (with_reducible refine P.lt_int ?_); (with_reducible refine wpAny_truthy_bool ?_); (refine PySem.W.ite_neg (by (first | (with_reducible exact Bool.false_ne_true) | (simp only [decide_eq_true_eq, beq_iff_eq, bne_iff_ne, ne_eq, Bool.false_eq_true, not_false_eq_true]; first | done | assumption | exact om13 h0 ha) | omega)) ?_); (with_reducible refine wpAny_execs_cons ?_); (with_reducible refine wpAny_Return_some ?_); (refine Call_ ?_); (refine' r_glob EO S R ?ze ?_ ?zhx ?zhd; (case zhx => exact rfl); (case ze => k_is); (case zhd => decide)); (refine' callWith_K ?zx ?zk ?_; (case zx => exact S.x); (case zk => k_is)); (refine wpAny_items_cons ?_); (refine' r_locS EO R ?zhv ?zhf ?_ ?zhx ?zhd; (case zhx => exact rfl); (case zhv => exact rfl); (case zhf => exact rfl); (case zhd => decide); intro _); (refine wpAny_items_cons ?_); (refine' r_locS EO R ?zhv ?zhf ?_ ?zhx ?zhd; (case zhx => exact rfl); (case zhv => exact rfl); (case zhf => exact rfl); (case zhd => decide); intro _); (with_reducible refine wpAny_items_nil ?_); (refine ⟨(Rep.stat R S).x, ?_⟩))
  show wpAny _ _ (call (.ref 83) [.int a _, .int b _]) _ _ _
  refine' spec_divpos AO S hC hC2 R ?m1 ?m2 h0 ha hb hb2 ?_
  case m1 => exact .tail _ hT
  case m2 => exact .tail _ hT2
  clear R; intro h' tk t R
  refine h _ _ _ (Rep.drop R.dropLed ?f)
  case f => (intro p hp; simp only [List.mem_cons] at hp ⊢; (first | exact hp | (rcases hp with rfl | hp <;> simp [*])))
theorem spec_divmod {w : World} {A : Around} {E : Value → Shared → Prop} {s : Shared} {K₀ : Heap} {led : List (Nat × Mo)} {tmp : List (V × Nat)} {Q : Value → Shared → Prop} {k : Nat} {a b : Int} {ta tb : Nat}
    (AO : AOk A (k + 403)) (S : Stat (hd.heap_39 w.params) K₀) (hC : CodeHd K₀ 68 64) (hC2 : CodeHd K₀ 75 71) (R : Rep K₀ led tmp s.heap) (hT : (64, Mo.tab siteA) ∈ led) (hT2 : (71, Mo.tab siteD) ∈ led)
    (ha0 : -(2 ^ 299) ≤ a) (ha : a < 2 ^ 299) (hb : 0 < b) (hb2 : b < 2 ^ 100)
    (h : ∀ h' tk t, Rep K₀ led ((.tup [.int (a / b), .int (a % b)], t) :: tmp) h' → Q (.ref t) (St s h' tk)) :
    wpAny (model PySem.Challenge.rw_uk0010_01.row.prog w) A (call (.ref 90) [.int a ta, .int b tb]) Q E s := by
  by_cases h0 : 0 ≤ a
  · exact spec_divmod0 (k := k) (AO.le (by exact om14)) S hC hC2 R hT hT2 h0 (by exact om15 ha0 ha h0) hb hb2 h
  revert AO S R h
  k_fill
  intro AO S R h
  refine' r_enter (l := [("b", .int b), ("a", .int a)]) AO S R ?ho ?hcd ?hbind ?hcell ?hloc ?hrep ?_ ?c1 ?c2 ?c3
  ((case ho => k_is); (case hcd => k_is); (case hbind => first | exact BindsTo.of_eq rfl | exact binds_K (Rep.stat R S).x rfl (by k_is) rfl rfl rfl); (case hcell => decide); (case hloc => exact locs rfl); (case c1 => rfl); (case c2 => rfl); (case c3 => rfl))
  case hrep => intro B RB; exact (show Binds tmp _ _ by ((try dsimp only [List.reverse, List.reverseAux]); repeat (first | exact Binds.nil | (refine Binds.cons ?_ ?_; (with_reducible first | exact Bear.int | exact Bear.float | exact Bear.str | exact Bear.bool | exact Bear.none | (refine' Bear.tup ?zb3; (case zb3 => (repeat (with_reducible first | exact List.mem_cons_self | refine List.mem_cons_of_mem _ ?_)))) | (refine' Bear.lst ?zb3; (case zb3 => (repeat (with_reducible first | exact List.mem_cons_self | refine List.mem_cons_of_mem _ ?_)))) | exact Bear.raw))))) B RB.tmp
  clear R AO
  intro L h₁ tk env A' AO EO R
  have ivE : Builtin.bitNot a = -1 - a := by unfold Builtin.bitNot; exact om16
  have ivE2 : Builtin.bitNot ((-1 - a) / b) = -1 - (-1 - a) / b := by unfold Builtin.bitNot; exact om16
  ((with_reducible refine wpAny_execs_cons ?_); (with_reducible refine wpAny_If ?_); (with_reducible refine wpAny_isTrue_Compare1 ?_); (refine' r_locS EO R ?zhv ?zhf ?_ ?zhx ?zhd; (case zhx => exact rfl); (case zhv => exact rfl); (case zhf => exact rfl); (case zhd => decide); intro _); (with_reducible refine q_cint ?_); (with_reducible refine P.eq_int ?_); (with_reducible refine wpAny_truthy_bool ?_); (refine PySem.W.ite_neg (by (first | (with_reducible exact Bool.false_ne_true) | (simp only [decide_eq_true_eq, beq_iff_eq, bne_iff_ne, ne_eq, Bool.false_eq_true, not_false_eq_true]; first | done | assumption | exact om11 hb hb2) | omega)) ?_); (with_reducible refine wpAny_execs_cons ?_); (with_reducible refine wpAny_If ?_); (with_reducible refine wpAny_isTrue_Compare1 ?_); (refine' r_locS EO R ?zhv ?zhf ?_ ?zhx ?zhd; (case zhx => exact rfl); (case zhv => exact rfl); (case zhf => exact rfl); (case zhd => decide); intro _); (with_reducible refine q_cint ?_); (with_reducible refine P.lt_int ?_); (with_reducible refine wpAny_truthy_bool ?_); (refine PySem.W.ite_neg (by (first | (with_reducible exact Bool.false_ne_true) | (simp only [decide_eq_true_eq, beq_iff_eq, bne_iff_ne, ne_eq, Bool.false_eq_true, not_false_eq_true]; first | done | assumption | exact om12 hb hb2) | omega)) ?_); (with_reducible refine wpAny_execs_cons ?_); (with_reducible refine wpAny_If ?_); (with_reducible refine wpAny_isTrue_Compare1 ?_); (refine' r_locS EO R ?zhv ?zhf ?_ ?zhx ?zhd; (case zhx => exact rfl); (case zhv => exact rfl); (case zhf => exact rfl); (case zhd => decide); intro _); (with_reducible refine q_cint ?_); (with_reducible refine P.lt_int ?_); (with_reducible refine wpAny_truthy_bool ?_); (refine PySem.W.ite_pos (by (first | rfl | (simp only [decide_eq_true_eq, beq_iff_eq, bne_iff_ne, ne_eq]; first | assumption | exact om17 ha0 ha h0 ivE) | omega)) ?_); (with_reducible refine wpAny_execs_cons ?_); (refine Assign_Tuple ?_); (refine Call_ ?_); (refine' r_glob EO S R ?ze ?_ ?zhx ?zhd; (case zhx => exact rfl); (case ze => k_is); (case zhd => decide)); (refine' callWith_K ?zx ?zk ?_; (case zx => exact S.x); (case zk => k_is)); (refine wpAny_items_cons ?_); (with_reducible refine wpAny_UnaryOp ?_); (refine' r_locS EO R ?zhv ?zhf ?_ ?zhx ?zhd; (case zhx => exact rfl); (case zhv => exact rfl); (case zhf => exact rfl); (case zhd => decide); intro _); (refine' r_inv ?zhe ?_; (case zhe => with_reducible first | exact ivE | exact ivE2 | exact rfl); intro _ _); (refine wpAny_items_cons ?_); (refine' r_locS EO R ?zhv ?zhf ?_ ?zhx ?zhd; (case zhx => exact rfl); (case zhv => exact rfl); (case zhf => exact rfl); (case zhd => decide); intro _); (with_reducible refine wpAny_items_nil ?_); (refine ⟨(Rep.stat R S).x, ?_⟩))
  show wpAny _ _ (call (.ref 90) [.int (-1 - a) _, .int b _]) _ _ _
  refine' spec_divmod0 AO S hC hC2 R ?m1 ?m2 ?g1 ?g2 hb hb2 ?_
  case m1 => exact .tail _ hT
  case m2 => exact .tail _ hT2
  case g1 => exact om18 ha0 ha h0 ivE
  case g2 => exact om19 ha0 ha h0 ivE
  clear R; intro h' tk t R
  ((refine' r_asgTup2 AO R ?zhm rfl ?_; (case zhm => (repeat (with_reducible first | assumption | exact List.mem_cons_self | refine List.mem_cons_of_mem _ ?_))); clear R; intro h' _ _ R; (try (first | show wpAny _ _ _ _ _ (St s h' _) | show wpAny _ _ _ _ _ (St s _ _) | show codeAny _ _ _ _ (St s _ _) | show ite _ (wpAny _ _ _ _ _ (St s _ _)) (wpAny _ _ _ _ _ (St s _ _))))); (refine wpAny_assign_Name ?_); (refine' r_store EO R ?zhx ?zhv ?_; (case zhx => exact rfl); (case zhv => (with_reducible first | exact Bear.int | exact Bear.float | exact Bear.str | exact Bear.bool | exact Bear.none | (refine' Bear.tup ?zb3; (case zb3 => (repeat (with_reducible first | exact List.mem_cons_self | refine List.mem_cons_of_mem _ ?_)))) | (refine' Bear.lst ?zb3; (case zb3 => (repeat (with_reducible first | exact List.mem_cons_self | refine List.mem_cons_of_mem _ ?_)))) | exact Bear.raw)); clear R; intro h' _ R; (try (first | show wpAny _ _ _ _ _ (St s h' _) | show wpAny _ _ _ _ _ (St s _ _) | show codeAny _ _ _ _ (St s _ _) | show ite _ (wpAny _ _ _ _ _ (St s _ _)) (wpAny _ _ _ _ _ (St s _ _))))); (refine wpAny_assign_Name ?_); (refine' r_store EO R ?zhx ?zhv ?_; (case zhx => exact rfl); (case zhv => (with_reducible first | exact Bear.int | exact Bear.float | exact Bear.str | exact Bear.bool | exact Bear.none | (refine' Bear.tup ?zb3; (case zb3 => (repeat (with_reducible first | exact List.mem_cons_self | refine List.mem_cons_of_mem _ ?_)))) | (refine' Bear.lst ?zb3; (case zb3 => (repeat (with_reducible first | exact List.mem_cons_self | refine List.mem_cons_of_mem _ ?_)))) | exact Bear.raw)); clear R; intro h' _ R; (try (first | show wpAny _ _ _ _ _ (St s h' _) | show wpAny _ _ _ _ _ (St s _ _) | show codeAny _ _ _ _ (St s _ _) | show ite _ (wpAny _ _ _ _ _ (St s _ _)) (wpAny _ _ _ _ _ (St s _ _))))); (with_reducible refine wpAny_execs_cons ?_); (with_reducible refine wpAny_Return_some ?_); (with_reducible refine Tuple_ ?_); (refine wpAny_items_cons ?_); (with_reducible refine wpAny_UnaryOp ?_); (refine' r_locS EO R ?zhv ?zhf ?_ ?zhx ?zhd; (case zhx => exact rfl); (case zhv => exact rfl); (case zhf => exact rfl); (case zhd => decide); intro _); (refine' r_inv ?zhe ?_; (case zhe => with_reducible first | exact ivE | exact ivE2 | exact rfl); intro _ _); (refine wpAny_items_cons ?_); (with_reducible refine wpAny_BinOp ?_); (refine' r_locS EO R ?zhv ?zhf ?_ ?zhx ?zhd; (case zhx => exact rfl); (case zhv => exact rfl); (case zhf => exact rfl); (case zhd => decide); intro _); (with_reducible refine wpAny_UnaryOp ?_); (refine' r_locS EO R ?zhv ?zhf ?_ ?zhx ?zhd; (case zhx => exact rfl); (case zhv => exact rfl); (case zhf => exact rfl); (case zhd => decide); intro _); (refine' r_inv ?zhe ?_; (case zhe => with_reducible first | exact ivE | exact ivE2 | exact rfl); intro _ _); (with_reducible refine q_addi ?_); (with_reducible refine wpAny_items_nil ?_); (refine' r_newTuple R ?zhv ?_ ?zhs; (case zhv => (repeat (first | exact Bears.nil | (apply Bears.cons; (with_reducible first | exact Bear.int | exact Bear.float | exact Bear.str | exact Bear.bool | exact Bear.none | (refine' Bear.tup ?zb3; (case zb3 => (repeat (with_reducible first | exact List.mem_cons_self | refine List.mem_cons_of_mem _ ?_)))) | (refine' Bear.lst ?zb3; (case zb3 => (repeat (with_reducible first | exact List.mem_cons_self | refine List.mem_cons_of_mem _ ?_)))) | exact Bear.raw))))); (case zhs => exact of_decide_eq_true (by rfl)); clear R; intro _ h' R; (try (first | show wpAny _ _ _ _ _ (St s h' _) | show wpAny _ _ _ _ _ (St s _ _) | show codeAny _ _ _ _ (St s _ _) | show ite _ (wpAny _ _ _ _ _ (St s _ _)) (wpAny _ _ _ _ _ (St s _ _))))))
  have hn := neg_div (a := a) hb
  have e2 : b + Builtin.bitNot ((-1 - a) % b) = a % b := by unfold Builtin.bitNot; exact om20 hn
  rw [← hn.1, e2] at R
  refine h _ _ _ (Rep.drop R.dropLed ?f)
  case f => intro p hp; rcases List.mem_cons.mp hp with rfl | hp; exact .head _; (repeat (with_reducible first | assumption | exact List.mem_cons_self | refine List.mem_cons_of_mem _ ?_))

end Mine

/-! S11 -/
namespace Mine

/-- a list of these items, still or growing -/
noncomputable def InL (led : List (Nat × Mo)) (tmp : List (V × Nat)) (a : Nat) (vs : List V) : Prop := (V.lst vs, a) ∈ tmp ∨ (a, Mo.pl vs) ∈ led
theorem InL.lat {K₀ : Heap} {led : List (Nat × Mo)} {tmp : List (V × Nat)} {a : Nat} {vs : List V} : InL led tmp a vs → LAt K₀ led tmp a vs
  | .inl h => LAt.ofTmp h
  | .inr h => LAt.ofPl h
theorem InL.more {led led' : List (Nat × Mo)} {tmp tmp' : List (V × Nat)} {a : Nat} {vs : List V} (h1 : ∀ p ∈ led, p ∈ led') (h2 : ∀ p ∈ tmp, p ∈ tmp') : InL led tmp a vs → InL led' tmp' a vs
  | .inl h => .inl (h2 _ h)
  | .inr h => .inr (h1 _ h)
noncomputable abbrev keyPar (ps : Pos) : Arguments := { posonlyargs := [], args := [{ arg := "one", annotation := none, pos := ps }], vararg := none, kwonlyargs := [], kw_defaults := [], kwarg := none, defaults := [] }
noncomputable abbrev keyBody (p1 p2 p3 : Pos) : Expr := .Subscript (.Name "one" p1) (.Constant (.int 1) 0 p2) p3
noncomputable abbrev keySc : Scope := { kind := .function, names := [("one", .local)], isGenerator := false, isCoroutine := false, more := [] }
/-- f gives a pair's second -/
noncomputable def KeyFn (w : World) (f : Nat) (fd : FuncData) : Prop := ∀ {A : Around} {E : Value → Shared → Prop} {s : Shared} {K₀ : Heap} {led : List (Nat × Mo)} {tmp : List (V × Nat)} {Q : Value → Shared → Prop} {n : Nat} {e x : Int} {t : Nat},
  AOk A (n + 1) → Stat (hd.heap_39 w.params) K₀ → Rep K₀ led tmp s.heap → (f, Mo.fn fd) ∈ led → (V.tup [.int e, .int x], t) ∈ tmp →
  (∀ h' tk t', Rep K₀ led tmp h' → Q (.int x t') (St s h' tk)) → wpAny (model PySem.Challenge.rw_uk0010_01.row.prog w) A (call (.ref f) [.ref t]) Q E s
theorem spec_key {w : World} {f : Nat} {name q : Str} {ps p1 p2 p3 : Pos} {pm cdv ct : Value} : KeyFn w f (kla_fn name q (keyPar ps) (keyBody p1 p2 p3) keySc [] pm cdv ct) := by
  intro A E s K₀ led tmp Q n e x t AO S R hf hm h
  refine' r_enterL (l := [("one", .tup [.int e, .int x])]) (binds := [("one", .ref t)]) AO S R hf ?hbind ?hcell ?hloc ?hrep ?_ ?c1 ?c2 ?c3
  case hbind => exact rfl
  case hcell => decide
  case hloc => exact locs rfl
  case hrep => exact Binds.cons (Bear.tup hm) Binds.nil
  case c1 => rfl
  case c2 => rfl
  case c3 => rfl
  clear R AO
  intro L h₁ tk env A' AO EO R
  ((refine Subscript_ ?_); (refine' r_loc EO R ?zhv ?_ ?zhx ?zhd; (case zhx => exact rfl); (case zhv => exact rfl); (case zhd => decide); clear R; intro _ R); (with_reducible refine q_cint ?_); (refine' r_itemT R ?zhm ?zi1 ?zi2 ?zhv ?_ ?zhs; (case zhm => (repeat (with_reducible first | assumption | exact List.mem_cons_self | refine List.mem_cons_of_mem _ ?_))); (case zhs => with_unfolding_all rfl); (case zhv => first | with_reducible assumption | exact rfl); (case zi1 => exact om21); (case zi2 => exact om22); clear R; intro _ R))
  exact h _ _ _ R.pop.pop.dropLed
noncomputable def bisR (ks : List Int) (x : Int) : Nat → Nat → Nat → Nat
  | 0, lo, _ => lo
  | f + 1, lo, hi => if lo < hi then (if x < ks.getD ((lo + hi) / 2) 0 then bisR ks x f lo ((lo + hi) / 2) else bisR ks x f ((lo + hi) / 2 + 1) hi) else lo
noncomputable def bisL (ks : List Int) (x : Int) : Nat → Nat → Nat → Nat
  | 0, lo, _ => lo
  | f + 1, lo, hi => if lo < hi then (if ks.getD ((lo + hi) / 2) 0 < x then bisL ks x f ((lo + hi) / 2 + 1) hi else bisL ks x f lo ((lo + hi) / 2)) else lo
theorem bisR_le {ks : List Int} {x : Int} : ∀ {f lo hi : Nat}, lo ≤ hi → bisR ks x f lo hi ≤ hi
  | 0, _, _, h => h
  | f + 1, lo, hi, h => by
    simp only [bisR]
    split
    · split
      · exact Nat.le_trans (bisR_le (by exact om23 (by assumption))) (by exact om24 (by assumption))
      · exact bisR_le (by exact om25 (by assumption))
    · exact h
theorem bisL_le {ks : List Int} {x : Int} : ∀ {f lo hi : Nat}, lo ≤ hi → bisL ks x f lo hi ≤ hi
  | 0, _, _, h => h
  | f + 1, lo, hi, h => by
    simp only [bisL]
    split
    · split
      · exact bisL_le (by exact om25 (by assumption))
      · exact Nat.le_trans (bisL_le (by exact om23 (by assumption))) (by exact om24 (by assumption))
    · exact h
/-- pairs, as the text holds them -/
noncomputable def prs (ps : List (Int × Int)) : List V := ps.map fun p => V.tup [.int p.1, .int p.2]
noncomputable abbrev keys (ps : List (Int × Int)) : List Int := ps.map (·.2)
theorem prs_length (ps : List (Int × Int)) : (prs ps).length = ps.length := List.length_map _
theorem prs_get {ps : List (Int × Int)} {i : Nat} (h : i < ps.length) : ∃ e, (prs ps)[i]? = some (V.tup [.int e, .int ((keys ps).getD i 0)]) := by
  refine ⟨ps[i].1, ?_⟩
  rw [prs, List.getElem?_map, List.getElem?_eq_getElem h]
  simp [keys, List.getD, List.getElem?_map, h]

theorem spec_bisR4 {w : World} {A : Around} {E : Value → Shared → Prop} {s : Shared} {K₀ : Heap} {led : List (Nat × Mo)} {tmp : List (V × Nat)} {Q : Value → Shared → Prop} {k : Nat} {ps : List (Int × Int)} {x : Int} {a f tx t0 : Nat} {fd : FuncData}
    (AO : AOk A (k + 2)) (S : Stat (hd.heap_39 w.params) K₀) (R : Rep K₀ led tmp s.heap) (hm : InL led tmp a (prs ps)) (hl : ps.length ≤ 1000) (hf : (f, Mo.fn fd) ∈ led) (KF : KeyFn w f fd)
    (h : ∀ h' tk t, Rep K₀ led tmp h' → Q (.int (bisR (keys ps) x ps.length 0 ps.length : Nat) t) (St s h' tk)) :
    wpAny (model PySem.Challenge.rw_uk0010_01.row.prog w) A (call (.ref 108) [.ref a, .int x tx, .int 0 t0, .none] [("key", .ref f)]) Q E s := by
  revert AO S R h
  k_fill
  intro AO S R h
  refine' r_enter (l := [("key", .raw (.ref f)), ("hi", .none), ("lo", .int 0), ("x", .int x), ("a", .raw (.ref a))]) AO S R ?ho ?hcd ?hbind ?hcell ?hloc ?hrep ?_ ?c1 ?c2 ?c3
  ((case ho => k_is); (case hcd => k_is); (case hbind => first | exact BindsTo.of_eq rfl | exact binds_K (Rep.stat R S).x rfl (by k_is) rfl rfl rfl); (case hcell => decide); (case hloc => exact locs rfl); (case c1 => rfl); (case c2 => rfl); (case c3 => rfl))
  case hrep => intro B RB; exact (show Binds tmp _ _ by ((try dsimp only [List.reverse, List.reverseAux]); repeat (first | exact Binds.nil | (refine Binds.cons ?_ ?_; (with_reducible first | exact Bear.int | exact Bear.float | exact Bear.str | exact Bear.bool | exact Bear.none | (refine' Bear.tup ?zb3; (case zb3 => (repeat (with_reducible first | exact List.mem_cons_self | refine List.mem_cons_of_mem _ ?_)))) | (refine' Bear.lst ?zb3; (case zb3 => (repeat (with_reducible first | exact List.mem_cons_self | refine List.mem_cons_of_mem _ ?_)))) | exact Bear.raw))))) B RB.tmp
  clear R AO
  intro L h₁ tk env A' AO EO R
  ((with_reducible refine wpAny_execs_cons ?_); (with_reducible refine wpAny_If ?_); (with_reducible refine wpAny_isTrue_Compare1 ?_); (refine' r_locS EO R ?zhv ?zhf ?_ ?zhx ?zhd; (case zhx => exact rfl); (case zhv => exact rfl); (case zhf => exact rfl); (case zhd => decide); intro _); (with_reducible refine q_cint ?_); (with_reducible refine P.lt_int ?_); (with_reducible refine wpAny_truthy_bool ?_); (refine PySem.W.ite_neg (by (first | (with_reducible exact Bool.false_ne_true) | (simp only [decide_eq_true_eq, beq_iff_eq, bne_iff_ne, ne_eq, Bool.false_eq_true, not_false_eq_true]; first | done | assumption | exact om26) | omega)) ?_); (with_reducible refine wpAny_execs_nil ?_); (with_reducible refine wpAny_execs_cons ?_); (with_reducible refine wpAny_If ?_); (with_reducible refine wpAny_isTrue_Compare1 ?_); (refine' r_locS EO R ?zhv ?zhf ?_ ?zhx ?zhd; (case zhx => exact rfl); (case zhv => exact rfl); (case zhf => exact rfl); (case zhd => decide); intro _); (with_reducible refine wpAny_Constant_none ?_); (refine is_none_none ?_); (with_reducible refine wpAny_truthy_bool ?_); (refine PySem.W.ite_pos (by (first | rfl | (simp only [decide_eq_true_eq, beq_iff_eq, bne_iff_ne, ne_eq]; first | assumption | omega) | omega)) ?_); (with_reducible refine wpAny_execs_cons ?_); (refine wpAny_Assign_Name ?_); (refine Call_ ?_); (refine' r_bi EO S R ?ze ?zhv ?_ ?zhn ?zhx ?zhd; (case zhx => exact rfl); (case ze => k_is); (case zhv => boot_fast); (case zhn => decide); (case zhd => decide)); (refine callWith_method1 ?_); (refine wpAny_items_cons ?_); (refine' r_locS EO R ?zhv ?zhf ?_ ?zhx ?zhd; (case zhx => exact rfl); (case zhv => exact rfl); (case zhf => exact rfl); (case zhd => decide); intro _); (with_reducible refine wpAny_items_nil ?_))
  show wpAny _ _ (call (.builtin "len") [.ref a]) _ _ _
  refine' r_lenE R (hm.more ?s1 ?s2).lat (prs_length ps) ?hl ?_
  case s1 => intro p hp; exact .tail _ hp
  case s2 => intro p hp; exact hp
  case hl => exact om27 hl
  intro _ _
  ((refine' r_store EO R ?zhx ?zhv ?_; (case zhx => exact rfl); (case zhv => (with_reducible first | exact Bear.int | exact Bear.float | exact Bear.str | exact Bear.bool | exact Bear.none | (refine' Bear.tup ?zb3; (case zb3 => (repeat (with_reducible first | exact List.mem_cons_self | refine List.mem_cons_of_mem _ ?_)))) | (refine' Bear.lst ?zb3; (case zb3 => (repeat (with_reducible first | exact List.mem_cons_self | refine List.mem_cons_of_mem _ ?_)))) | exact Bear.raw)); clear R; intro h' _ R; (try (first | show wpAny _ _ _ _ _ (St s h' _) | show wpAny _ _ _ _ _ (St s _ _) | show codeAny _ _ _ _ (St s _ _) | show ite _ (wpAny _ _ _ _ _ (St s _ _)) (wpAny _ _ _ _ _ (St s _ _))))); (with_reducible refine wpAny_execs_nil ?_); (with_reducible refine wpAny_execs_cons ?_); (with_reducible refine wpAny_If ?_); (with_reducible refine wpAny_isTrue_Compare1 ?_); (refine' r_locS EO R ?zhv ?zhf ?_ ?zhx ?zhd; (case zhx => exact rfl); (case zhv => exact rfl); (case zhf => exact rfl); (case zhd => decide); intro _); (with_reducible refine wpAny_Constant_none ?_); (refine is_ref_none ?_); (with_reducible refine wpAny_truthy_bool ?_); (refine PySem.W.ite_neg (by (first | (with_reducible exact Bool.false_ne_true) | (simp only [decide_eq_true_eq, beq_iff_eq, bne_iff_ne, ne_eq, Bool.false_eq_true, not_false_eq_true]; first | done | assumption | omega) | omega)) ?_); (with_reducible refine wpAny_execs_cons ?_); (refine wpAny_While ?_))
  replace R := Rep.loc [("lo", V.int ((0 : Nat) : Int)), ("hi", V.int (ps.length : Int)), ("key", V.raw (.ref f)), ("x", V.int x), ("a", V.raw (.ref a))] R ⟨rfl, rfl, rfl, rfl, rfl, trivial⟩
  refine codeAny_whileLoop (fun n s' => ∃ (lo hi : Nat) (h' : Heap) (tk : Nat), bisR (keys ps) x n lo hi = bisR (keys ps) x ps.length 0 ps.length ∧ lo ≤ hi ∧ hi ≤ ps.length ∧ hi - lo ≤ n ∧
    Rep K₀ ((L, Mo.ns [("lo", V.int (lo : Int)), ("hi", V.int (hi : Int)), ("key", V.raw (.ref f)), ("x", V.int x), ("a", V.raw (.ref a))]) :: led) tmp h' ∧ s' = (St s h' tk)) ?turn ps.length ⟨0, ps.length, _, _, rfl, Nat.zero_le _, Nat.le_refl _, by exact om28 hl, R, rfl⟩
  clear R
  rintro n s' ⟨lo, hi, h', tk, e, h1, h2, h3, R, rfl⟩
  by_cases hlt : lo < hi
  · obtain ⟨m, rfl⟩ : ∃ m, n = m + 1 := ⟨n - 1, by exact om29 h3 hlt⟩
    simp only [bisR, hlt, if_true] at e
    obtain ⟨mid, hmid⟩ : ∃ mid, mid = (lo + hi) / 2 := ⟨_, rfl⟩
    rw [← hmid] at e
    have dvE : ((lo : Int) + (hi : Int)).fdiv 2 = (mid : Int) := by
      rw [Int.fdiv_eq_ediv_of_nonneg _ (by decide)]; exact om30 hmid
    obtain ⟨e0, hg⟩ := prs_get (ps := ps) (i := mid) (by exact om31 h2 hlt hmid dvE)
    ((with_reducible refine wpAny_isTrue_Compare1 ?_); (refine' r_locS EO R ?zhv ?zhf ?_ ?zhx ?zhd; (case zhx => exact rfl); (case zhv => exact rfl); (case zhf => exact rfl); (case zhd => decide); intro _); (refine' r_locS EO R ?zhv ?zhf ?_ ?zhx ?zhd; (case zhx => exact rfl); (case zhv => exact rfl); (case zhf => exact rfl); (case zhd => decide); intro _); (with_reducible refine P.lt_int ?_); (with_reducible refine wpAny_truthy_bool ?_); (refine PySem.W.ite_pos (by (first | rfl | (simp only [decide_eq_true_eq, beq_iff_eq, bne_iff_ne, ne_eq]; first | assumption | exact om32 hlt) | omega)) ?_); (with_reducible refine wpAny_execs_cons ?_); (refine wpAny_Assign_Name ?_); (with_reducible refine wpAny_BinOp ?_); (refine r_ev EO AO R ?_; ((repeat (refine And.intro ?zc ?_; (case zc => (first | assumption | (with_unfolding_all decide +kernel) | omega)))); intro _ _)); (with_reducible refine q_cint ?_); (refine' r_divE ?zhe ?zhb ?zhp ?_; (case zhe => with_reducible exact dvE); (case zhb => (first | exact om33 | assumption | decide)); (case zhp => (first | exact om34 | assumption | decide)); intro _ _); (refine' r_store EO R ?zhx ?zhv ?_; (case zhx => exact rfl); (case zhv => (with_reducible first | exact Bear.int | exact Bear.float | exact Bear.str | exact Bear.bool | exact Bear.none | (refine' Bear.tup ?zb3; (case zb3 => (repeat (with_reducible first | exact List.mem_cons_self | refine List.mem_cons_of_mem _ ?_)))) | (refine' Bear.lst ?zb3; (case zb3 => (repeat (with_reducible first | exact List.mem_cons_self | refine List.mem_cons_of_mem _ ?_)))) | exact Bear.raw)); clear R; intro h' _ R; (try (first | show wpAny _ _ _ _ _ (St s h' _) | show wpAny _ _ _ _ _ (St s _ _) | show codeAny _ _ _ _ (St s _ _) | show ite _ (wpAny _ _ _ _ _ (St s _ _)) (wpAny _ _ _ _ _ (St s _ _))))); (with_reducible refine wpAny_execs_cons ?_); (with_reducible refine wpAny_If ?_); (with_reducible refine wpAny_isTrue_Compare1 ?_); (refine' r_locS EO R ?zhv ?zhf ?_ ?zhx ?zhd; (case zhx => exact rfl); (case zhv => exact rfl); (case zhf => exact rfl); (case zhd => decide); intro _); (refine Call_ ?_); (refine' r_locS EO R ?zhv ?zhf ?_ ?zhx ?zhd; (case zhx => exact rfl); (case zhv => exact rfl); (case zhf => exact rfl); (case zhd => decide); intro _); (refine' callWith_F ?zx ?_; (case zx => exact Rep.fnAt R (by (repeat (with_reducible first | assumption | exact List.mem_cons_self | refine List.mem_cons_of_mem _ ?_))))); (refine wpAny_items_cons ?_); (refine Subscript_ ?_); (refine' r_locS EO R ?zhv ?zhf ?_ ?zhx ?zhd; (case zhx => exact rfl); (case zhv => exact rfl); (case zhf => exact rfl); (case zhd => decide); intro _); (refine' r_locS EO R ?zhv ?zhf ?_ ?zhx ?zhd; (case zhx => exact rfl); (case zhv => exact rfl); (case zhf => exact rfl); (case zhd => decide); intro _))
    show wpAny _ _ (subscriptTail _ _ (.ref a) (.int (mid : Int) _)) _ _ _
    refine' r_item R (hm.more ?s1 ?s2).lat ?i1 ?i2 (by rw [Int.toNat_natCast]; exact hg) ?_
    case s1 => intro p hp; exact .tail _ hp
    case s2 => intro p hp; (repeat (with_reducible first | assumption | exact List.mem_cons_self | refine List.mem_cons_of_mem _ ?_))
    case i1 => exact om35 hmid dvE
    case i2 => exact om36 hl h2 hlt hmid dvE
    clear R; intro t R
    ((with_reducible refine wpAny_items_nil ?_); (refine ⟨Rep.fnAt R (by (repeat (with_reducible first | assumption | exact List.mem_cons_self | refine List.mem_cons_of_mem _ ?_))), ?_⟩))
    show wpAny _ _ (call (.ref f) [.ref _]) _ _ _
    refine' KF AO S R ?hf List.mem_cons_self ?_
    case hf => exact .tail _ hf
    clear R; intro h' tk t' R
    ((with_reducible refine P.lt_int ?_); (with_reducible refine wpAny_truthy_bool ?_))
    by_cases hc : x < (keys ps).getD mid 0
    · rw [if_pos hc] at e
      ((refine PySem.W.ite_pos (by (first | rfl | (simp only [decide_eq_true_eq, beq_iff_eq, bne_iff_ne, ne_eq]; first | assumption | omega) | omega)) ?_); (refine' r_asgE EO AO R ?_ ?zhx; (case zhx => exact rfl); ((repeat (refine And.intro ?zc ?_; (case zc => (first | assumption | (with_unfolding_all decide +kernel) | omega)))); clear R; intro h' _ R; (try (first | show wpAny _ _ _ _ _ (St s h' _) | show wpAny _ _ _ _ _ (St s _ _) | show codeAny _ _ _ _ (St s _ _) | show ite _ (wpAny _ _ _ _ _ (St s _ _)) (wpAny _ _ _ _ _ (St s _ _)))))); (with_reducible refine wpAny_execs_nil ?_); (with_reducible refine wpAny_execs_nil ?_))
      exact ⟨m, Nat.lt_succ_self _, lo, mid, _, _, e, by exact om37 hlt hmid dvE, by exact om38 h2 hlt hmid dvE, by exact om39 hl h2 hlt h3 hmid dvE, Rep.drop (Rep.loc _ R ⟨rfl, rfl, rfl, rfl, rfl, trivial⟩) fun p hp => .tail _ hp, rfl⟩
    · rw [if_neg hc] at e
      ((refine PySem.W.ite_neg (by (first | (with_reducible exact Bool.false_ne_true) | (simp only [decide_eq_true_eq, beq_iff_eq, bne_iff_ne, ne_eq, Bool.false_eq_true, not_false_eq_true]; first | done | assumption | omega) | omega)) ?_); (refine' r_asgE EO AO R ?_ ?zhx; (case zhx => exact rfl); ((repeat (refine And.intro ?zc ?_; (case zc => (first | assumption | (with_unfolding_all decide +kernel) | omega)))); clear R; intro h' _ R; (try (first | show wpAny _ _ _ _ _ (St s h' _) | show wpAny _ _ _ _ _ (St s _ _) | show codeAny _ _ _ _ (St s _ _) | show ite _ (wpAny _ _ _ _ _ (St s _ _)) (wpAny _ _ _ _ _ (St s _ _)))))); (with_reducible refine wpAny_execs_nil ?_); (with_reducible refine wpAny_execs_nil ?_))
      exact ⟨m, Nat.lt_succ_self _, mid + 1, hi, _, _, e, by exact om40 hlt hmid dvE, by exact om41 h2, by exact om42 hl h2 hlt h3 hmid dvE, Rep.drop (Rep.loc _ R ⟨rfl, rfl, rfl, rfl, rfl, trivial⟩) fun p hp => .tail _ hp, rfl⟩
  · have e2 : bisR (keys ps) x n lo hi = lo := by
      cases n with
      | zero => rfl
      | succ n => simp only [bisR, hlt, if_false]
    rw [e2] at e
    ((with_reducible refine wpAny_isTrue_Compare1 ?_); (refine' r_locS EO R ?zhv ?zhf ?_ ?zhx ?zhd; (case zhx => exact rfl); (case zhv => exact rfl); (case zhf => exact rfl); (case zhd => decide); intro _); (refine' r_locS EO R ?zhv ?zhf ?_ ?zhx ?zhd; (case zhx => exact rfl); (case zhv => exact rfl); (case zhf => exact rfl); (case zhd => decide); intro _); (with_reducible refine P.lt_int ?_); (with_reducible refine wpAny_truthy_bool ?_); (refine PySem.W.ite_neg (by (first | (with_reducible exact Bool.false_ne_true) | (simp only [decide_eq_true_eq, beq_iff_eq, bne_iff_ne, ne_eq, Bool.false_eq_true, not_false_eq_true]; first | done | assumption | exact om43 e h1 hlt) | omega)) ?_); (with_reducible refine wpAny_execs_nil ?_); (with_reducible refine wpAny_execs_nil ?_); (with_reducible refine wpAny_execs_cons ?_); (with_reducible refine wpAny_Return_some ?_); (refine' r_locS EO R ?zhv ?zhf ?_ ?zhx ?zhd; (case zhx => exact rfl); (case zhv => exact rfl); (case zhf => exact rfl); (case zhd => decide); intro _))
    subst e
    exact h _ _ _ R.dropLed


theorem spec_bisL {w : World} {A : Around} {E : Value → Shared → Prop} {s : Shared} {K₀ : Heap} {led : List (Nat × Mo)} {tmp : List (V × Nat)} {Q : Value → Shared → Prop} {k : Nat} {ps : List (Int × Int)} {x : Int} {a f tx : Nat} {fd : FuncData}
    (AO : AOk A (k + 2)) (S : Stat (hd.heap_39 w.params) K₀) (R : Rep K₀ led tmp s.heap) (hm : InL led tmp a (prs ps)) (hl : ps.length ≤ 1000) (hf : (f, Mo.fn fd) ∈ led) (KF : KeyFn w f fd)
    (h : ∀ h' tk t, Rep K₀ led tmp h' → Q (.int (bisL (keys ps) x ps.length 0 ps.length : Nat) t) (St s h' tk)) :
    wpAny (model PySem.Challenge.rw_uk0010_01.row.prog w) A (call (.ref 126) [.ref a, .int x tx] [("key", .ref f)]) Q E s := by
  revert AO S R h
  k_fill
  intro AO S R h
  refine' r_enter (l := [("key", .raw (.ref f)), ("hi", .none), ("lo", .int 0), ("x", .int x), ("a", .raw (.ref a))]) AO S R ?ho ?hcd ?hbind ?hcell ?hloc ?hrep ?_ ?c1 ?c2 ?c3
  ((case ho => k_is); (case hcd => k_is); (case hbind => first | exact BindsTo.of_eq rfl | exact binds_K (Rep.stat R S).x rfl (by k_is) rfl rfl rfl); (case hcell => decide); (case hloc => exact locs rfl); (case c1 => rfl); (case c2 => rfl); (case c3 => rfl))
  case hrep => intro B RB; exact (show Binds tmp _ _ by ((try dsimp only [List.reverse, List.reverseAux]); repeat (first | exact Binds.nil | (refine Binds.cons ?_ ?_; (with_reducible first | exact Bear.int | exact Bear.float | exact Bear.str | exact Bear.bool | exact Bear.none | (refine' Bear.tup ?zb3; (case zb3 => (repeat (with_reducible first | exact List.mem_cons_self | refine List.mem_cons_of_mem _ ?_)))) | (refine' Bear.lst ?zb3; (case zb3 => (repeat (with_reducible first | exact List.mem_cons_self | refine List.mem_cons_of_mem _ ?_)))) | exact Bear.raw))))) B RB.tmp
  clear R AO
  intro L h₁ tk env A' AO EO R
  ((with_reducible refine wpAny_execs_cons ?_); (with_reducible refine wpAny_If ?_); (with_reducible refine wpAny_isTrue_Compare1 ?_); (refine' r_locS EO R ?zhv ?zhf ?_ ?zhx ?zhd; (case zhx => exact rfl); (case zhv => exact rfl); (case zhf => exact rfl); (case zhd => decide); intro _); (with_reducible refine q_cint ?_); (with_reducible refine P.lt_int ?_); (with_reducible refine wpAny_truthy_bool ?_); (refine PySem.W.ite_neg (by (first | (with_reducible exact Bool.false_ne_true) | (simp only [decide_eq_true_eq, beq_iff_eq, bne_iff_ne, ne_eq, Bool.false_eq_true, not_false_eq_true]; first | done | assumption | exact om26) | omega)) ?_); (with_reducible refine wpAny_execs_nil ?_); (with_reducible refine wpAny_execs_cons ?_); (with_reducible refine wpAny_If ?_); (with_reducible refine wpAny_isTrue_Compare1 ?_); (refine' r_locS EO R ?zhv ?zhf ?_ ?zhx ?zhd; (case zhx => exact rfl); (case zhv => exact rfl); (case zhf => exact rfl); (case zhd => decide); intro _); (with_reducible refine wpAny_Constant_none ?_); (refine is_none_none ?_); (with_reducible refine wpAny_truthy_bool ?_); (refine PySem.W.ite_pos (by (first | rfl | (simp only [decide_eq_true_eq, beq_iff_eq, bne_iff_ne, ne_eq]; first | assumption | omega) | omega)) ?_); (with_reducible refine wpAny_execs_cons ?_); (refine wpAny_Assign_Name ?_); (refine Call_ ?_); (refine' r_bi EO S R ?ze ?zhv ?_ ?zhn ?zhx ?zhd; (case zhx => exact rfl); (case ze => k_is); (case zhv => boot_fast); (case zhn => decide); (case zhd => decide)); (refine callWith_method1 ?_); (refine wpAny_items_cons ?_); (refine' r_locS EO R ?zhv ?zhf ?_ ?zhx ?zhd; (case zhx => exact rfl); (case zhv => exact rfl); (case zhf => exact rfl); (case zhd => decide); intro _); (with_reducible refine wpAny_items_nil ?_))
  show wpAny _ _ (call (.builtin "len") [.ref a]) _ _ _
  refine' r_lenE R (hm.more ?s1 ?s2).lat (prs_length ps) ?hl ?_
  case s1 => intro p hp; exact .tail _ hp
  case s2 => intro p hp; exact hp
  case hl => exact om27 hl
  intro _ _
  ((refine' r_store EO R ?zhx ?zhv ?_; (case zhx => exact rfl); (case zhv => (with_reducible first | exact Bear.int | exact Bear.float | exact Bear.str | exact Bear.bool | exact Bear.none | (refine' Bear.tup ?zb3; (case zb3 => (repeat (with_reducible first | exact List.mem_cons_self | refine List.mem_cons_of_mem _ ?_)))) | (refine' Bear.lst ?zb3; (case zb3 => (repeat (with_reducible first | exact List.mem_cons_self | refine List.mem_cons_of_mem _ ?_)))) | exact Bear.raw)); clear R; intro h' _ R; (try (first | show wpAny _ _ _ _ _ (St s h' _) | show wpAny _ _ _ _ _ (St s _ _) | show codeAny _ _ _ _ (St s _ _) | show ite _ (wpAny _ _ _ _ _ (St s _ _)) (wpAny _ _ _ _ _ (St s _ _))))); (with_reducible refine wpAny_execs_nil ?_); (with_reducible refine wpAny_execs_cons ?_); (with_reducible refine wpAny_If ?_); (with_reducible refine wpAny_isTrue_Compare1 ?_); (refine' r_locS EO R ?zhv ?zhf ?_ ?zhx ?zhd; (case zhx => exact rfl); (case zhv => exact rfl); (case zhf => exact rfl); (case zhd => decide); intro _); (with_reducible refine wpAny_Constant_none ?_); (refine is_ref_none ?_); (with_reducible refine wpAny_truthy_bool ?_); (refine PySem.W.ite_neg (by (first | (with_reducible exact Bool.false_ne_true) | (simp only [decide_eq_true_eq, beq_iff_eq, bne_iff_ne, ne_eq, Bool.false_eq_true, not_false_eq_true]; first | done | assumption | omega) | omega)) ?_); (with_reducible refine wpAny_execs_cons ?_); (refine wpAny_While ?_))
  replace R := Rep.loc [("lo", V.int ((0 : Nat) : Int)), ("hi", V.int (ps.length : Int)), ("key", V.raw (.ref f)), ("x", V.int x), ("a", V.raw (.ref a))] R ⟨rfl, rfl, rfl, rfl, rfl, trivial⟩
  refine codeAny_whileLoop (fun n s' => ∃ (lo hi : Nat) (h' : Heap) (tk : Nat), bisL (keys ps) x n lo hi = bisL (keys ps) x ps.length 0 ps.length ∧ lo ≤ hi ∧ hi ≤ ps.length ∧ hi - lo ≤ n ∧
    Rep K₀ ((L, Mo.ns [("lo", V.int (lo : Int)), ("hi", V.int (hi : Int)), ("key", V.raw (.ref f)), ("x", V.int x), ("a", V.raw (.ref a))]) :: led) tmp h' ∧ s' = (St s h' tk)) ?turn ps.length ⟨0, ps.length, _, _, rfl, Nat.zero_le _, Nat.le_refl _, by exact om28 hl, R, rfl⟩
  clear R
  rintro n s' ⟨lo, hi, h', tk, e, h1, h2, h3, R, rfl⟩
  by_cases hlt : lo < hi
  · obtain ⟨m, rfl⟩ : ∃ m, n = m + 1 := ⟨n - 1, by exact om29 h3 hlt⟩
    simp only [bisL, hlt, if_true] at e
    obtain ⟨mid, hmid⟩ : ∃ mid, mid = (lo + hi) / 2 := ⟨_, rfl⟩
    rw [← hmid] at e
    have dvE : ((lo : Int) + (hi : Int)).fdiv 2 = (mid : Int) := by
      rw [Int.fdiv_eq_ediv_of_nonneg _ (by decide)]; exact om30 hmid
    obtain ⟨e0, hg⟩ := prs_get (ps := ps) (i := mid) (by exact om31 h2 hlt hmid dvE)
    ((with_reducible refine wpAny_isTrue_Compare1 ?_); (refine' r_locS EO R ?zhv ?zhf ?_ ?zhx ?zhd; (case zhx => exact rfl); (case zhv => exact rfl); (case zhf => exact rfl); (case zhd => decide); intro _); (refine' r_locS EO R ?zhv ?zhf ?_ ?zhx ?zhd; (case zhx => exact rfl); (case zhv => exact rfl); (case zhf => exact rfl); (case zhd => decide); intro _); (with_reducible refine P.lt_int ?_); (with_reducible refine wpAny_truthy_bool ?_); (refine PySem.W.ite_pos (by (first | rfl | (simp only [decide_eq_true_eq, beq_iff_eq, bne_iff_ne, ne_eq]; first | assumption | exact om32 hlt) | omega)) ?_); (with_reducible refine wpAny_execs_cons ?_); (refine wpAny_Assign_Name ?_); (with_reducible refine wpAny_BinOp ?_); (refine r_ev EO AO R ?_; ((repeat (refine And.intro ?zc ?_; (case zc => (first | assumption | (with_unfolding_all decide +kernel) | omega)))); intro _ _)); (with_reducible refine q_cint ?_); (refine' r_divE ?zhe ?zhb ?zhp ?_; (case zhe => with_reducible exact dvE); (case zhb => (first | exact om33 | assumption | decide)); (case zhp => (first | exact om34 | assumption | decide)); intro _ _); (refine' r_store EO R ?zhx ?zhv ?_; (case zhx => exact rfl); (case zhv => (with_reducible first | exact Bear.int | exact Bear.float | exact Bear.str | exact Bear.bool | exact Bear.none | (refine' Bear.tup ?zb3; (case zb3 => (repeat (with_reducible first | exact List.mem_cons_self | refine List.mem_cons_of_mem _ ?_)))) | (refine' Bear.lst ?zb3; (case zb3 => (repeat (with_reducible first | exact List.mem_cons_self | refine List.mem_cons_of_mem _ ?_)))) | exact Bear.raw)); clear R; intro h' _ R; (try (first | show wpAny _ _ _ _ _ (St s h' _) | show wpAny _ _ _ _ _ (St s _ _) | show codeAny _ _ _ _ (St s _ _) | show ite _ (wpAny _ _ _ _ _ (St s _ _)) (wpAny _ _ _ _ _ (St s _ _))))); (with_reducible refine wpAny_execs_cons ?_); (with_reducible refine wpAny_If ?_); (with_reducible refine wpAny_isTrue_Compare1 ?_); (refine Call_ ?_); (refine' r_locS EO R ?zhv ?zhf ?_ ?zhx ?zhd; (case zhx => exact rfl); (case zhv => exact rfl); (case zhf => exact rfl); (case zhd => decide); intro _); (refine' callWith_F ?zx ?_; (case zx => exact Rep.fnAt R (by (repeat (with_reducible first | assumption | exact List.mem_cons_self | refine List.mem_cons_of_mem _ ?_))))); (refine wpAny_items_cons ?_); (refine Subscript_ ?_); (refine' r_locS EO R ?zhv ?zhf ?_ ?zhx ?zhd; (case zhx => exact rfl); (case zhv => exact rfl); (case zhf => exact rfl); (case zhd => decide); intro _); (refine' r_locS EO R ?zhv ?zhf ?_ ?zhx ?zhd; (case zhx => exact rfl); (case zhv => exact rfl); (case zhf => exact rfl); (case zhd => decide); intro _))
    show wpAny _ _ (subscriptTail _ _ (.ref a) (.int (mid : Int) _)) _ _ _
    refine' r_item R (hm.more ?s1 ?s2).lat ?i1 ?i2 (by rw [Int.toNat_natCast]; exact hg) ?_
    case s1 => intro p hp; exact .tail _ hp
    case s2 => intro p hp; (repeat (with_reducible first | assumption | exact List.mem_cons_self | refine List.mem_cons_of_mem _ ?_))
    case i1 => exact om35 hmid dvE
    case i2 => exact om36 hl h2 hlt hmid dvE
    clear R; intro t R
    ((with_reducible refine wpAny_items_nil ?_); (refine ⟨Rep.fnAt R (by (repeat (with_reducible first | assumption | exact List.mem_cons_self | refine List.mem_cons_of_mem _ ?_))), ?_⟩))
    show wpAny _ _ (call (.ref f) [.ref _]) _ _ _
    refine' KF AO S R ?hf List.mem_cons_self ?_
    case hf => exact .tail _ hf
    clear R; intro h' tk t' R
    ((refine' r_locS EO R ?zhv ?zhf ?_ ?zhx ?zhd; (case zhx => exact rfl); (case zhv => exact rfl); (case zhf => exact rfl); (case zhd => decide); intro _); (with_reducible refine P.lt_int ?_); (with_reducible refine wpAny_truthy_bool ?_))
    by_cases hc : (keys ps).getD mid 0 < x
    · rw [if_pos hc] at e
      ((refine PySem.W.ite_pos (by (first | rfl | (simp only [decide_eq_true_eq, beq_iff_eq, bne_iff_ne, ne_eq]; first | assumption | omega) | omega)) ?_); (refine' r_asgE EO AO R ?_ ?zhx; (case zhx => exact rfl); ((repeat (refine And.intro ?zc ?_; (case zc => (first | assumption | (with_unfolding_all decide +kernel) | omega)))); clear R; intro h' _ R; (try (first | show wpAny _ _ _ _ _ (St s h' _) | show wpAny _ _ _ _ _ (St s _ _) | show codeAny _ _ _ _ (St s _ _) | show ite _ (wpAny _ _ _ _ _ (St s _ _)) (wpAny _ _ _ _ _ (St s _ _)))))); (with_reducible refine wpAny_execs_nil ?_); (with_reducible refine wpAny_execs_nil ?_))
      exact ⟨m, Nat.lt_succ_self _, mid + 1, hi, _, _, e, by exact om40 hlt hmid dvE, by exact om41 h2, by exact om42 hl h2 hlt h3 hmid dvE, Rep.drop (Rep.loc _ R ⟨rfl, rfl, rfl, rfl, rfl, trivial⟩) fun p hp => .tail _ hp, rfl⟩
    · rw [if_neg hc] at e
      ((refine PySem.W.ite_neg (by (first | (with_reducible exact Bool.false_ne_true) | (simp only [decide_eq_true_eq, beq_iff_eq, bne_iff_ne, ne_eq, Bool.false_eq_true, not_false_eq_true]; first | done | assumption | omega) | omega)) ?_); (refine' r_asgE EO AO R ?_ ?zhx; (case zhx => exact rfl); ((repeat (refine And.intro ?zc ?_; (case zc => (first | assumption | (with_unfolding_all decide +kernel) | omega)))); clear R; intro h' _ R; (try (first | show wpAny _ _ _ _ _ (St s h' _) | show wpAny _ _ _ _ _ (St s _ _) | show codeAny _ _ _ _ (St s _ _) | show ite _ (wpAny _ _ _ _ _ (St s _ _)) (wpAny _ _ _ _ _ (St s _ _)))))); (with_reducible refine wpAny_execs_nil ?_); (with_reducible refine wpAny_execs_nil ?_))
      exact ⟨m, Nat.lt_succ_self _, lo, mid, _, _, e, by exact om37 hlt hmid dvE, by exact om38 h2 hlt hmid dvE, by exact om39 hl h2 hlt h3 hmid dvE, Rep.drop (Rep.loc _ R ⟨rfl, rfl, rfl, rfl, rfl, trivial⟩) fun p hp => .tail _ hp, rfl⟩
  · have e2 : bisL (keys ps) x n lo hi = lo := by
      cases n with
      | zero => rfl
      | succ n => simp only [bisL, hlt, if_false]
    rw [e2] at e
    ((with_reducible refine wpAny_isTrue_Compare1 ?_); (refine' r_locS EO R ?zhv ?zhf ?_ ?zhx ?zhd; (case zhx => exact rfl); (case zhv => exact rfl); (case zhf => exact rfl); (case zhd => decide); intro _); (refine' r_locS EO R ?zhv ?zhf ?_ ?zhx ?zhd; (case zhx => exact rfl); (case zhv => exact rfl); (case zhf => exact rfl); (case zhd => decide); intro _); (with_reducible refine P.lt_int ?_); (with_reducible refine wpAny_truthy_bool ?_); (refine PySem.W.ite_neg (by (first | (with_reducible exact Bool.false_ne_true) | (simp only [decide_eq_true_eq, beq_iff_eq, bne_iff_ne, ne_eq, Bool.false_eq_true, not_false_eq_true]; first | done | assumption | exact om43 e h1 hlt) | omega)) ?_); (with_reducible refine wpAny_execs_nil ?_); (with_reducible refine wpAny_execs_nil ?_); (with_reducible refine wpAny_execs_cons ?_); (with_reducible refine wpAny_Return_some ?_); (refine' r_locS EO R ?zhv ?zhf ?_ ?zhx ?zhd; (case zhx => exact rfl); (case zhv => exact rfl); (case zhf => exact rfl); (case zhd => decide); intro _))
    subst e
    exact h _ _ _ R.dropLed

theorem spec_bisL4 {w : World} {A : Around} {E : Value → Shared → Prop} {s : Shared} {K₀ : Heap} {led : List (Nat × Mo)} {tmp : List (V × Nat)} {Q : Value → Shared → Prop} {k : Nat} {ps : List (Int × Int)} {x : Int} {a f tx t0 : Nat} {fd : FuncData}
    (AO : AOk A (k + 2)) (S : Stat (hd.heap_39 w.params) K₀) (R : Rep K₀ led tmp s.heap) (hm : InL led tmp a (prs ps)) (hl : ps.length ≤ 1000) (hf : (f, Mo.fn fd) ∈ led) (KF : KeyFn w f fd)
    (h : ∀ h' tk t, Rep K₀ led tmp h' → Q (.int (bisL (keys ps) x ps.length 0 ps.length : Nat) t) (St s h' tk)) :
    wpAny (model PySem.Challenge.rw_uk0010_01.row.prog w) A (call (.ref 126) [.ref a, .int x tx, .int 0 t0, .none] [("key", .ref f)]) Q E s := by
  revert AO S R h
  k_fill
  intro AO S R h
  refine' r_enter (l := [("key", .raw (.ref f)), ("hi", .none), ("lo", .int 0), ("x", .int x), ("a", .raw (.ref a))]) AO S R ?ho ?hcd ?hbind ?hcell ?hloc ?hrep ?_ ?c1 ?c2 ?c3
  ((case ho => k_is); (case hcd => k_is); (case hbind => first | exact BindsTo.of_eq rfl | exact binds_K (Rep.stat R S).x rfl (by k_is) rfl rfl rfl); (case hcell => decide); (case hloc => exact locs rfl); (case c1 => rfl); (case c2 => rfl); (case c3 => rfl))
  case hrep => intro B RB; exact (show Binds tmp _ _ by ((try dsimp only [List.reverse, List.reverseAux]); repeat (first | exact Binds.nil | (refine Binds.cons ?_ ?_; (with_reducible first | exact Bear.int | exact Bear.float | exact Bear.str | exact Bear.bool | exact Bear.none | (refine' Bear.tup ?zb3; (case zb3 => (repeat (with_reducible first | exact List.mem_cons_self | refine List.mem_cons_of_mem _ ?_)))) | (refine' Bear.lst ?zb3; (case zb3 => (repeat (with_reducible first | exact List.mem_cons_self | refine List.mem_cons_of_mem _ ?_)))) | exact Bear.raw))))) B RB.tmp
  clear R AO
  intro L h₁ tk env A' AO EO R
  ((with_reducible refine wpAny_execs_cons ?_); (with_reducible refine wpAny_If ?_); (with_reducible refine wpAny_isTrue_Compare1 ?_); (refine' r_locS EO R ?zhv ?zhf ?_ ?zhx ?zhd; (case zhx => exact rfl); (case zhv => exact rfl); (case zhf => exact rfl); (case zhd => decide); intro _); (with_reducible refine q_cint ?_); (with_reducible refine P.lt_int ?_); (with_reducible refine wpAny_truthy_bool ?_); (refine PySem.W.ite_neg (by (first | (with_reducible exact Bool.false_ne_true) | (simp only [decide_eq_true_eq, beq_iff_eq, bne_iff_ne, ne_eq, Bool.false_eq_true, not_false_eq_true]; first | done | assumption | exact om26) | omega)) ?_); (with_reducible refine wpAny_execs_nil ?_); (with_reducible refine wpAny_execs_cons ?_); (with_reducible refine wpAny_If ?_); (with_reducible refine wpAny_isTrue_Compare1 ?_); (refine' r_locS EO R ?zhv ?zhf ?_ ?zhx ?zhd; (case zhx => exact rfl); (case zhv => exact rfl); (case zhf => exact rfl); (case zhd => decide); intro _); (with_reducible refine wpAny_Constant_none ?_); (refine is_none_none ?_); (with_reducible refine wpAny_truthy_bool ?_); (refine PySem.W.ite_pos (by (first | rfl | (simp only [decide_eq_true_eq, beq_iff_eq, bne_iff_ne, ne_eq]; first | assumption | omega) | omega)) ?_); (with_reducible refine wpAny_execs_cons ?_); (refine wpAny_Assign_Name ?_); (refine Call_ ?_); (refine' r_bi EO S R ?ze ?zhv ?_ ?zhn ?zhx ?zhd; (case zhx => exact rfl); (case ze => k_is); (case zhv => boot_fast); (case zhn => decide); (case zhd => decide)); (refine callWith_method1 ?_); (refine wpAny_items_cons ?_); (refine' r_locS EO R ?zhv ?zhf ?_ ?zhx ?zhd; (case zhx => exact rfl); (case zhv => exact rfl); (case zhf => exact rfl); (case zhd => decide); intro _); (with_reducible refine wpAny_items_nil ?_))
  show wpAny _ _ (call (.builtin "len") [.ref a]) _ _ _
  refine' r_lenE R (hm.more ?s1 ?s2).lat (prs_length ps) ?hl ?_
  case s1 => intro p hp; exact .tail _ hp
  case s2 => intro p hp; exact hp
  case hl => exact om27 hl
  intro _ _
  ((refine' r_store EO R ?zhx ?zhv ?_; (case zhx => exact rfl); (case zhv => (with_reducible first | exact Bear.int | exact Bear.float | exact Bear.str | exact Bear.bool | exact Bear.none | (refine' Bear.tup ?zb3; (case zb3 => (repeat (with_reducible first | exact List.mem_cons_self | refine List.mem_cons_of_mem _ ?_)))) | (refine' Bear.lst ?zb3; (case zb3 => (repeat (with_reducible first | exact List.mem_cons_self | refine List.mem_cons_of_mem _ ?_)))) | exact Bear.raw)); clear R; intro h' _ R; (try (first | show wpAny _ _ _ _ _ (St s h' _) | show wpAny _ _ _ _ _ (St s _ _) | show codeAny _ _ _ _ (St s _ _) | show ite _ (wpAny _ _ _ _ _ (St s _ _)) (wpAny _ _ _ _ _ (St s _ _))))); (with_reducible refine wpAny_execs_nil ?_); (with_reducible refine wpAny_execs_cons ?_); (with_reducible refine wpAny_If ?_); (with_reducible refine wpAny_isTrue_Compare1 ?_); (refine' r_locS EO R ?zhv ?zhf ?_ ?zhx ?zhd; (case zhx => exact rfl); (case zhv => exact rfl); (case zhf => exact rfl); (case zhd => decide); intro _); (with_reducible refine wpAny_Constant_none ?_); (refine is_ref_none ?_); (with_reducible refine wpAny_truthy_bool ?_); (refine PySem.W.ite_neg (by (first | (with_reducible exact Bool.false_ne_true) | (simp only [decide_eq_true_eq, beq_iff_eq, bne_iff_ne, ne_eq, Bool.false_eq_true, not_false_eq_true]; first | done | assumption | omega) | omega)) ?_); (with_reducible refine wpAny_execs_cons ?_); (refine wpAny_While ?_))
  replace R := Rep.loc [("lo", V.int ((0 : Nat) : Int)), ("hi", V.int (ps.length : Int)), ("key", V.raw (.ref f)), ("x", V.int x), ("a", V.raw (.ref a))] R ⟨rfl, rfl, rfl, rfl, rfl, trivial⟩
  refine codeAny_whileLoop (fun n s' => ∃ (lo hi : Nat) (h' : Heap) (tk : Nat), bisL (keys ps) x n lo hi = bisL (keys ps) x ps.length 0 ps.length ∧ lo ≤ hi ∧ hi ≤ ps.length ∧ hi - lo ≤ n ∧
    Rep K₀ ((L, Mo.ns [("lo", V.int (lo : Int)), ("hi", V.int (hi : Int)), ("key", V.raw (.ref f)), ("x", V.int x), ("a", V.raw (.ref a))]) :: led) tmp h' ∧ s' = (St s h' tk)) ?turn ps.length ⟨0, ps.length, _, _, rfl, Nat.zero_le _, Nat.le_refl _, by exact om28 hl, R, rfl⟩
  clear R
  rintro n s' ⟨lo, hi, h', tk, e, h1, h2, h3, R, rfl⟩
  by_cases hlt : lo < hi
  · obtain ⟨m, rfl⟩ : ∃ m, n = m + 1 := ⟨n - 1, by exact om29 h3 hlt⟩
    simp only [bisL, hlt, if_true] at e
    obtain ⟨mid, hmid⟩ : ∃ mid, mid = (lo + hi) / 2 := ⟨_, rfl⟩
    rw [← hmid] at e
    have dvE : ((lo : Int) + (hi : Int)).fdiv 2 = (mid : Int) := by
      rw [Int.fdiv_eq_ediv_of_nonneg _ (by decide)]; exact om30 hmid
    obtain ⟨e0, hg⟩ := prs_get (ps := ps) (i := mid) (by exact om31 h2 hlt hmid dvE)
    ((with_reducible refine wpAny_isTrue_Compare1 ?_); (refine' r_locS EO R ?zhv ?zhf ?_ ?zhx ?zhd; (case zhx => exact rfl); (case zhv => exact rfl); (case zhf => exact rfl); (case zhd => decide); intro _); (refine' r_locS EO R ?zhv ?zhf ?_ ?zhx ?zhd; (case zhx => exact rfl); (case zhv => exact rfl); (case zhf => exact rfl); (case zhd => decide); intro _); (with_reducible refine P.lt_int ?_); (with_reducible refine wpAny_truthy_bool ?_); (refine PySem.W.ite_pos (by (first | rfl | (simp only [decide_eq_true_eq, beq_iff_eq, bne_iff_ne, ne_eq]; first | assumption | exact om32 hlt) | omega)) ?_); (with_reducible refine wpAny_execs_cons ?_); (refine wpAny_Assign_Name ?_); (with_reducible refine wpAny_BinOp ?_); (refine r_ev EO AO R ?_; ((repeat (refine And.intro ?zc ?_; (case zc => (first | assumption | (with_unfolding_all decide +kernel) | omega)))); intro _ _)); (with_reducible refine q_cint ?_); (refine' r_divE ?zhe ?zhb ?zhp ?_; (case zhe => with_reducible exact dvE); (case zhb => (first | exact om33 | assumption | decide)); (case zhp => (first | exact om34 | assumption | decide)); intro _ _); (refine' r_store EO R ?zhx ?zhv ?_; (case zhx => exact rfl); (case zhv => (with_reducible first | exact Bear.int | exact Bear.float | exact Bear.str | exact Bear.bool | exact Bear.none | (refine' Bear.tup ?zb3; (case zb3 => (repeat (with_reducible first | exact List.mem_cons_self | refine List.mem_cons_of_mem _ ?_)))) | (refine' Bear.lst ?zb3; (case zb3 => (repeat (with_reducible first | exact List.mem_cons_self | refine List.mem_cons_of_mem _ ?_)))) | exact Bear.raw)); clear R; intro h' _ R; (try (first | show wpAny _ _ _ _ _ (St s h' _) | show wpAny _ _ _ _ _ (St s _ _) | show codeAny _ _ _ _ (St s _ _) | show ite _ (wpAny _ _ _ _ _ (St s _ _)) (wpAny _ _ _ _ _ (St s _ _))))); (with_reducible refine wpAny_execs_cons ?_); (with_reducible refine wpAny_If ?_); (with_reducible refine wpAny_isTrue_Compare1 ?_); (refine Call_ ?_); (refine' r_locS EO R ?zhv ?zhf ?_ ?zhx ?zhd; (case zhx => exact rfl); (case zhv => exact rfl); (case zhf => exact rfl); (case zhd => decide); intro _); (refine' callWith_F ?zx ?_; (case zx => exact Rep.fnAt R (by (repeat (with_reducible first | assumption | exact List.mem_cons_self | refine List.mem_cons_of_mem _ ?_))))); (refine wpAny_items_cons ?_); (refine Subscript_ ?_); (refine' r_locS EO R ?zhv ?zhf ?_ ?zhx ?zhd; (case zhx => exact rfl); (case zhv => exact rfl); (case zhf => exact rfl); (case zhd => decide); intro _); (refine' r_locS EO R ?zhv ?zhf ?_ ?zhx ?zhd; (case zhx => exact rfl); (case zhv => exact rfl); (case zhf => exact rfl); (case zhd => decide); intro _))
    show wpAny _ _ (subscriptTail _ _ (.ref a) (.int (mid : Int) _)) _ _ _
    refine' r_item R (hm.more ?s1 ?s2).lat ?i1 ?i2 (by rw [Int.toNat_natCast]; exact hg) ?_
    case s1 => intro p hp; exact .tail _ hp
    case s2 => intro p hp; (repeat (with_reducible first | assumption | exact List.mem_cons_self | refine List.mem_cons_of_mem _ ?_))
    case i1 => exact om35 hmid dvE
    case i2 => exact om36 hl h2 hlt hmid dvE
    clear R; intro t R
    ((with_reducible refine wpAny_items_nil ?_); (refine ⟨Rep.fnAt R (by (repeat (with_reducible first | assumption | exact List.mem_cons_self | refine List.mem_cons_of_mem _ ?_))), ?_⟩))
    show wpAny _ _ (call (.ref f) [.ref _]) _ _ _
    refine' KF AO S R ?hf List.mem_cons_self ?_
    case hf => exact .tail _ hf
    clear R; intro h' tk t' R
    ((refine' r_locS EO R ?zhv ?zhf ?_ ?zhx ?zhd; (case zhx => exact rfl); (case zhv => exact rfl); (case zhf => exact rfl); (case zhd => decide); intro _); (with_reducible refine P.lt_int ?_); (with_reducible refine wpAny_truthy_bool ?_))
    by_cases hc : (keys ps).getD mid 0 < x
    · rw [if_pos hc] at e
      ((refine PySem.W.ite_pos (by (first | rfl | (simp only [decide_eq_true_eq, beq_iff_eq, bne_iff_ne, ne_eq]; first | assumption | omega) | omega)) ?_); (refine' r_asgE EO AO R ?_ ?zhx; (case zhx => exact rfl); ((repeat (refine And.intro ?zc ?_; (case zc => (first | assumption | (with_unfolding_all decide +kernel) | omega)))); clear R; intro h' _ R; (try (first | show wpAny _ _ _ _ _ (St s h' _) | show wpAny _ _ _ _ _ (St s _ _) | show codeAny _ _ _ _ (St s _ _) | show ite _ (wpAny _ _ _ _ _ (St s _ _)) (wpAny _ _ _ _ _ (St s _ _)))))); (with_reducible refine wpAny_execs_nil ?_); (with_reducible refine wpAny_execs_nil ?_))
      exact ⟨m, Nat.lt_succ_self _, mid + 1, hi, _, _, e, by exact om40 hlt hmid dvE, by exact om41 h2, by exact om42 hl h2 hlt h3 hmid dvE, Rep.drop (Rep.loc _ R ⟨rfl, rfl, rfl, rfl, rfl, trivial⟩) fun p hp => .tail _ hp, rfl⟩
    · rw [if_neg hc] at e
      ((refine PySem.W.ite_neg (by (first | (with_reducible exact Bool.false_ne_true) | (simp only [decide_eq_true_eq, beq_iff_eq, bne_iff_ne, ne_eq, Bool.false_eq_true, not_false_eq_true]; first | done | assumption | omega) | omega)) ?_); (refine' r_asgE EO AO R ?_ ?zhx; (case zhx => exact rfl); ((repeat (refine And.intro ?zc ?_; (case zc => (first | assumption | (with_unfolding_all decide +kernel) | omega)))); clear R; intro h' _ R; (try (first | show wpAny _ _ _ _ _ (St s h' _) | show wpAny _ _ _ _ _ (St s _ _) | show codeAny _ _ _ _ (St s _ _) | show ite _ (wpAny _ _ _ _ _ (St s _ _)) (wpAny _ _ _ _ _ (St s _ _)))))); (with_reducible refine wpAny_execs_nil ?_); (with_reducible refine wpAny_execs_nil ?_))
      exact ⟨m, Nat.lt_succ_self _, lo, mid, _, _, e, by exact om37 hlt hmid dvE, by exact om38 h2 hlt hmid dvE, by exact om39 hl h2 hlt h3 hmid dvE, Rep.drop (Rep.loc _ R ⟨rfl, rfl, rfl, rfl, rfl, trivial⟩) fun p hp => .tail _ hp, rfl⟩
  · have e2 : bisL (keys ps) x n lo hi = lo := by
      cases n with
      | zero => rfl
      | succ n => simp only [bisL, hlt, if_false]
    rw [e2] at e
    ((with_reducible refine wpAny_isTrue_Compare1 ?_); (refine' r_locS EO R ?zhv ?zhf ?_ ?zhx ?zhd; (case zhx => exact rfl); (case zhv => exact rfl); (case zhf => exact rfl); (case zhd => decide); intro _); (refine' r_locS EO R ?zhv ?zhf ?_ ?zhx ?zhd; (case zhx => exact rfl); (case zhv => exact rfl); (case zhf => exact rfl); (case zhd => decide); intro _); (with_reducible refine P.lt_int ?_); (with_reducible refine wpAny_truthy_bool ?_); (refine PySem.W.ite_neg (by (first | (with_reducible exact Bool.false_ne_true) | (simp only [decide_eq_true_eq, beq_iff_eq, bne_iff_ne, ne_eq, Bool.false_eq_true, not_false_eq_true]; first | done | assumption | exact om43 e h1 hlt) | omega)) ?_); (with_reducible refine wpAny_execs_nil ?_); (with_reducible refine wpAny_execs_nil ?_); (with_reducible refine wpAny_execs_cons ?_); (with_reducible refine wpAny_Return_some ?_); (refine' r_locS EO R ?zhv ?zhf ?_ ?zhx ?zhd; (case zhx => exact rfl); (case zhv => exact rfl); (case zhf => exact rfl); (case zhd => decide); intro _))
    subst e
    exact h _ _ _ R.dropLed

end Mine

/-! S12 -/
namespace Mine

noncomputable def insR (ps : List (Int × Int)) (e x : Int) : List (Int × Int) := ps.take (bisR (keys ps) x ps.length 0 ps.length) ++ (e, x) :: ps.drop (bisR (keys ps) x ps.length 0 ps.length)
noncomputable def insL (ps : List (Int × Int)) (e x : Int) : List (Int × Int) := ps.take (bisL (keys ps) x ps.length 0 ps.length) ++ (e, x) :: ps.drop (bisL (keys ps) x ps.length 0 ps.length)
theorem prs_ins {ps : List (Int × Int)} {e x : Int} {i : Nat} : prs (ps.take i ++ (e, x) :: ps.drop i) = (prs ps).take i ++ V.tup [.int e, .int x] :: (prs ps).drop i := by
  simp only [prs, List.map_append, List.map_cons, List.map_take, List.map_drop]

theorem spec_insR {w : World} {A : Around} {E : Value → Shared → Prop} {s : Shared} {K₀ : Heap} {led : List (Nat × Mo)} {tmp : List (V × Nat)} {Q : Value → Shared → Prop} {k : Nat} {ps : List (Int × Int)} {e x : Int} {a f tx : Nat} {fd : FuncData}
    (AO : AOk A (k + 3)) (S : Stat (hd.heap_39 w.params) K₀) (R : Rep K₀ ((a, .pl (prs ps)) :: led) tmp s.heap) (hl : ps.length ≤ 1000) (hf : (f, Mo.fn fd) ∈ led) (KF : KeyFn w f fd) (hm : (V.tup [.int e, .int x], tx) ∈ tmp)
    (h : ∀ h' tk, Rep K₀ ((a, .pl (prs (insR ps e x))) :: led) tmp h' → Q .none (St s h' tk)) :
    wpAny (model PySem.Challenge.rw_uk0010_01.row.prog w) A (call (.ref 99) [.ref a, .ref tx] [("key", .ref f)]) Q E s := by
  revert AO S R h
  k_fill
  intro AO S R h
  refine' r_enter (l := [("key", .raw (.ref f)), ("hi", .none), ("lo", .int 0), ("x", .tup [.int e, .int x]), ("a", .raw (.ref a))]) AO S R ?ho ?hcd ?hbind ?hcell ?hloc ?hrep ?_ ?c1 ?c2 ?c3
  ((case ho => k_is); (case hcd => k_is); (case hbind => first | exact BindsTo.of_eq rfl | exact binds_K (Rep.stat R S).x rfl (by k_is) rfl rfl rfl); (case hcell => decide); (case hloc => exact locs rfl); (case c1 => rfl); (case c2 => rfl); (case c3 => rfl))
  case hrep => intro B RB; exact (show Binds tmp _ _ from Binds.cons Bear.raw (Binds.cons Bear.none (Binds.cons Bear.int (Binds.cons (Bear.tup hm) (Binds.cons Bear.raw Binds.nil))))) B RB.tmp
  clear R AO
  intro L h₁ tk env A' AO EO R
  ((with_reducible refine wpAny_execs_cons ?_); (with_reducible refine wpAny_If ?_); (with_reducible refine wpAny_isTrue_Compare1 ?_); (refine' r_locS EO R ?zhv ?zhf ?_ ?zhx ?zhd; (case zhx => exact rfl); (case zhv => exact rfl); (case zhf => exact rfl); (case zhd => decide); intro _); (with_reducible refine wpAny_Constant_none ?_); (refine is_ref_none ?_); (with_reducible refine wpAny_truthy_bool ?_); (refine PySem.W.ite_neg (by (first | (with_reducible exact Bool.false_ne_true) | (simp only [decide_eq_true_eq, beq_iff_eq, bne_iff_ne, ne_eq, Bool.false_eq_true, not_false_eq_true]; first | done | assumption | omega) | omega)) ?_); (with_reducible refine wpAny_execs_cons ?_); (refine wpAny_Assign_Name ?_); (refine r_callKw ?_); (refine' r_glob EO S R ?ze ?_ ?zhx ?zhd; (case zhx => exact rfl); (case ze => k_is); (case zhd => decide)); (refine' r_callWithKw S ?zk ?_; (case zk => k_is)); (refine wpAny_items_cons ?_); (refine' r_locS EO R ?zhv ?zhf ?_ ?zhx ?zhd; (case zhx => exact rfl); (case zhv => exact rfl); (case zhf => exact rfl); (case zhd => decide); intro _); (refine wpAny_items_cons ?_); (refine Call_ ?_); (refine' r_locS EO R ?zhv ?zhf ?_ ?zhx ?zhd; (case zhx => exact rfl); (case zhv => exact rfl); (case zhf => exact rfl); (case zhd => decide); intro _); (refine' callWith_F ?zx ?_; (case zx => exact Rep.fnAt R (by (repeat (with_reducible first | assumption | exact List.mem_cons_self | refine List.mem_cons_of_mem _ ?_))))); (refine wpAny_items_cons ?_); (refine' r_loc EO R ?zhv ?_ ?zhx ?zhd; (case zhx => exact rfl); (case zhv => exact rfl); (case zhd => decide); clear R; intro _ R); (with_reducible refine wpAny_items_nil ?_); (refine ⟨Rep.fnAt R (by (repeat (with_reducible first | assumption | exact List.mem_cons_self | refine List.mem_cons_of_mem _ ?_))), ?_⟩))
  show wpAny _ _ (call (.ref f) [.ref _]) _ _ _
  refine' KF AO S R ?hf List.mem_cons_self ?_
  case hf => exact .tail _ (.tail _ hf)
  clear R; intro h' tk t' R
  ((refine wpAny_items_cons ?_); (refine' r_locS EO R ?zhv ?zhf ?_ ?zhx ?zhd; (case zhx => exact rfl); (case zhv => exact rfl); (case zhf => exact rfl); (case zhd => decide); intro _); (refine wpAny_items_cons ?_); (refine' r_locS EO R ?zhv ?zhf ?_ ?zhx ?zhd; (case zhx => exact rfl); (case zhv => exact rfl); (case zhf => exact rfl); (case zhd => decide); intro _); (with_reducible refine wpAny_items_nil ?_); (refine' r_locS EO R ?zhv ?zhf ?_ ?zhx ?zhd; (case zhx => exact rfl); (case zhv => exact rfl); (case zhf => exact rfl); (case zhd => decide); intro _); (refine ⟨(Rep.stat R S).x, ?_⟩))
  show wpAny _ _ (call (Value.ref 108) [.ref a, .int x _, .int 0 _, .none] [("key", .ref f)]) _ _ _
  refine' spec_bisR4 AO S R (ps := ps) (.inr ?hA) hl ?hf KF ?_
  case hA => (repeat (with_reducible first | assumption | exact List.mem_cons_self | refine List.mem_cons_of_mem _ ?_))
  case hf => exact .tail _ (.tail _ hf)
  clear R; intro h' tk t' R
  ((refine' r_store EO R ?zhx ?zhv ?_; (case zhx => exact rfl); (case zhv => (with_reducible first | exact Bear.int | exact Bear.float | exact Bear.str | exact Bear.bool | exact Bear.none | (refine' Bear.tup ?zb3; (case zb3 => (repeat (with_reducible first | exact List.mem_cons_self | refine List.mem_cons_of_mem _ ?_)))) | (refine' Bear.lst ?zb3; (case zb3 => (repeat (with_reducible first | exact List.mem_cons_self | refine List.mem_cons_of_mem _ ?_)))) | exact Bear.raw)); clear R; intro h' _ R; (try (first | show wpAny _ _ _ _ _ (St s h' _) | show wpAny _ _ _ _ _ (St s _ _) | show codeAny _ _ _ _ (St s _ _) | show ite _ (wpAny _ _ _ _ _ (St s _ _)) (wpAny _ _ _ _ _ (St s _ _))))); (with_reducible refine wpAny_execs_nil ?_); (with_reducible refine wpAny_execs_cons ?_); (refine r_expr EO ?_); (refine MethodCall_ ?_); (refine' r_locS EO R ?zhv ?zhf ?_ ?zhx ?zhd; (case zhx => exact rfl); (case zhv => exact rfl); (case zhf => exact rfl); (case zhd => decide); intro _); (refine' r_methodPl R ?zhm PySem.F.slot_list_insert PySem.F.type_list_insert ?_; (case zhm => (repeat (with_reducible first | assumption | exact List.mem_cons_self | refine List.mem_cons_of_mem _ ?_)))); (refine callWith_method1 ?_); (refine wpAny_items_cons ?_); (refine' r_locS EO R ?zhv ?zhf ?_ ?zhx ?zhd; (case zhx => exact rfl); (case zhv => exact rfl); (case zhf => exact rfl); (case zhd => decide); intro _); (refine wpAny_items_cons ?_); (refine' r_loc EO R ?zhv ?_ ?zhx ?zhd; (case zhx => exact rfl); (case zhv => exact rfl); (case zhd => decide); clear R; intro _ R); (with_reducible refine wpAny_items_nil ?_))
  show wpAny _ _ (call (.builtin "list.insert") [.ref a, .int ((bisR (keys ps) x ps.length 0 ps.length : Nat) : Int) _, .ref _]) _ _ _
  have hb := bisR_le (ks := keys ps) (x := x) (f := ps.length) (Nat.zero_le ps.length)
  replace R := Rep.swap R
  refine' r_insert R ?g1 ?g2 ?g3 (Bear.tup List.mem_cons_self) ?_
  case g1 => rw [prs_length]; exact om44 hl
  case g2 => exact om45
  case g3 => rw [prs_length]; exact om46 hb
  clear R; intro h' R
  rw [Int.toNat_natCast, ← prs_ins] at R
  ((with_reducible refine wpAny_execs_nil ?_))
  exact h _ _ (Rep.drop (Rep.swap R).dropLed fun p hp => .tail _ (.tail _ hp))

theorem spec_insL {w : World} {A : Around} {E : Value → Shared → Prop} {s : Shared} {K₀ : Heap} {led : List (Nat × Mo)} {tmp : List (V × Nat)} {Q : Value → Shared → Prop} {k : Nat} {ps : List (Int × Int)} {e x : Int} {a f tx : Nat} {fd : FuncData}
    (AO : AOk A (k + 3)) (S : Stat (hd.heap_39 w.params) K₀) (R : Rep K₀ ((a, .pl (prs ps)) :: led) tmp s.heap) (hl : ps.length ≤ 1000) (hf : (f, Mo.fn fd) ∈ led) (KF : KeyFn w f fd) (hm : (V.tup [.int e, .int x], tx) ∈ tmp)
    (h : ∀ h' tk, Rep K₀ ((a, .pl (prs (insL ps e x))) :: led) tmp h' → Q .none (St s h' tk)) :
    wpAny (model PySem.Challenge.rw_uk0010_01.row.prog w) A (call (.ref 117) [.ref a, .ref tx] [("key", .ref f)]) Q E s := by
  revert AO S R h
  k_fill
  intro AO S R h
  refine' r_enter (l := [("key", .raw (.ref f)), ("hi", .none), ("lo", .int 0), ("x", .tup [.int e, .int x]), ("a", .raw (.ref a))]) AO S R ?ho ?hcd ?hbind ?hcell ?hloc ?hrep ?_ ?c1 ?c2 ?c3
  ((case ho => k_is); (case hcd => k_is); (case hbind => first | exact BindsTo.of_eq rfl | exact binds_K (Rep.stat R S).x rfl (by k_is) rfl rfl rfl); (case hcell => decide); (case hloc => exact locs rfl); (case c1 => rfl); (case c2 => rfl); (case c3 => rfl))
  case hrep => intro B RB; exact (show Binds tmp _ _ from Binds.cons Bear.raw (Binds.cons Bear.none (Binds.cons Bear.int (Binds.cons (Bear.tup hm) (Binds.cons Bear.raw Binds.nil))))) B RB.tmp
  clear R AO
  intro L h₁ tk env A' AO EO R
  ((with_reducible refine wpAny_execs_cons ?_); (with_reducible refine wpAny_If ?_); (with_reducible refine wpAny_isTrue_Compare1 ?_); (refine' r_locS EO R ?zhv ?zhf ?_ ?zhx ?zhd; (case zhx => exact rfl); (case zhv => exact rfl); (case zhf => exact rfl); (case zhd => decide); intro _); (with_reducible refine wpAny_Constant_none ?_); (refine is_ref_none ?_); (with_reducible refine wpAny_truthy_bool ?_); (refine PySem.W.ite_neg (by (first | (with_reducible exact Bool.false_ne_true) | (simp only [decide_eq_true_eq, beq_iff_eq, bne_iff_ne, ne_eq, Bool.false_eq_true, not_false_eq_true]; first | done | assumption | omega) | omega)) ?_); (with_reducible refine wpAny_execs_cons ?_); (refine wpAny_Assign_Name ?_); (refine r_callKw ?_); (refine' r_glob EO S R ?ze ?_ ?zhx ?zhd; (case zhx => exact rfl); (case ze => k_is); (case zhd => decide)); (refine' r_callWithKw S ?zk ?_; (case zk => k_is)); (refine wpAny_items_cons ?_); (refine' r_locS EO R ?zhv ?zhf ?_ ?zhx ?zhd; (case zhx => exact rfl); (case zhv => exact rfl); (case zhf => exact rfl); (case zhd => decide); intro _); (refine wpAny_items_cons ?_); (refine Call_ ?_); (refine' r_locS EO R ?zhv ?zhf ?_ ?zhx ?zhd; (case zhx => exact rfl); (case zhv => exact rfl); (case zhf => exact rfl); (case zhd => decide); intro _); (refine' callWith_F ?zx ?_; (case zx => exact Rep.fnAt R (by (repeat (with_reducible first | assumption | exact List.mem_cons_self | refine List.mem_cons_of_mem _ ?_))))); (refine wpAny_items_cons ?_); (refine' r_loc EO R ?zhv ?_ ?zhx ?zhd; (case zhx => exact rfl); (case zhv => exact rfl); (case zhd => decide); clear R; intro _ R); (with_reducible refine wpAny_items_nil ?_); (refine ⟨Rep.fnAt R (by (repeat (with_reducible first | assumption | exact List.mem_cons_self | refine List.mem_cons_of_mem _ ?_))), ?_⟩))
  show wpAny _ _ (call (.ref f) [.ref _]) _ _ _
  refine' KF AO S R ?hf List.mem_cons_self ?_
  case hf => exact .tail _ (.tail _ hf)
  clear R; intro h' tk t' R
  ((refine wpAny_items_cons ?_); (refine' r_locS EO R ?zhv ?zhf ?_ ?zhx ?zhd; (case zhx => exact rfl); (case zhv => exact rfl); (case zhf => exact rfl); (case zhd => decide); intro _); (refine wpAny_items_cons ?_); (refine' r_locS EO R ?zhv ?zhf ?_ ?zhx ?zhd; (case zhx => exact rfl); (case zhv => exact rfl); (case zhf => exact rfl); (case zhd => decide); intro _); (with_reducible refine wpAny_items_nil ?_); (refine' r_locS EO R ?zhv ?zhf ?_ ?zhx ?zhd; (case zhx => exact rfl); (case zhv => exact rfl); (case zhf => exact rfl); (case zhd => decide); intro _); (refine ⟨(Rep.stat R S).x, ?_⟩))
  show wpAny _ _ (call (Value.ref 126) [.ref a, .int x _, .int 0 _, .none] [("key", .ref f)]) _ _ _
  refine' spec_bisL4 AO S R (ps := ps) (.inr ?hA) hl ?hf KF ?_
  case hA => (repeat (with_reducible first | assumption | exact List.mem_cons_self | refine List.mem_cons_of_mem _ ?_))
  case hf => exact .tail _ (.tail _ hf)
  clear R; intro h' tk t' R
  ((refine' r_store EO R ?zhx ?zhv ?_; (case zhx => exact rfl); (case zhv => (with_reducible first | exact Bear.int | exact Bear.float | exact Bear.str | exact Bear.bool | exact Bear.none | (refine' Bear.tup ?zb3; (case zb3 => (repeat (with_reducible first | exact List.mem_cons_self | refine List.mem_cons_of_mem _ ?_)))) | (refine' Bear.lst ?zb3; (case zb3 => (repeat (with_reducible first | exact List.mem_cons_self | refine List.mem_cons_of_mem _ ?_)))) | exact Bear.raw)); clear R; intro h' _ R; (try (first | show wpAny _ _ _ _ _ (St s h' _) | show wpAny _ _ _ _ _ (St s _ _) | show codeAny _ _ _ _ (St s _ _) | show ite _ (wpAny _ _ _ _ _ (St s _ _)) (wpAny _ _ _ _ _ (St s _ _))))); (with_reducible refine wpAny_execs_nil ?_); (with_reducible refine wpAny_execs_cons ?_); (refine r_expr EO ?_); (refine MethodCall_ ?_); (refine' r_locS EO R ?zhv ?zhf ?_ ?zhx ?zhd; (case zhx => exact rfl); (case zhv => exact rfl); (case zhf => exact rfl); (case zhd => decide); intro _); (refine' r_methodPl R ?zhm PySem.F.slot_list_insert PySem.F.type_list_insert ?_; (case zhm => (repeat (with_reducible first | assumption | exact List.mem_cons_self | refine List.mem_cons_of_mem _ ?_)))); (refine callWith_method1 ?_); (refine wpAny_items_cons ?_); (refine' r_locS EO R ?zhv ?zhf ?_ ?zhx ?zhd; (case zhx => exact rfl); (case zhv => exact rfl); (case zhf => exact rfl); (case zhd => decide); intro _); (refine wpAny_items_cons ?_); (refine' r_loc EO R ?zhv ?_ ?zhx ?zhd; (case zhx => exact rfl); (case zhv => exact rfl); (case zhd => decide); clear R; intro _ R); (with_reducible refine wpAny_items_nil ?_))
  show wpAny _ _ (call (.builtin "list.insert") [.ref a, .int ((bisL (keys ps) x ps.length 0 ps.length : Nat) : Int) _, .ref _]) _ _ _
  have hb := bisL_le (ks := keys ps) (x := x) (f := ps.length) (Nat.zero_le ps.length)
  replace R := Rep.swap R
  refine' r_insert R ?g1 ?g2 ?g3 (Bear.tup List.mem_cons_self) ?_
  case g1 => rw [prs_length]; exact om44 hl
  case g2 => exact om45
  case g3 => rw [prs_length]; exact om46 hb
  clear R; intro h' R
  rw [Int.toNat_natCast, ← prs_ins] at R
  ((with_reducible refine wpAny_execs_nil ?_))
  exact h _ _ (Rep.drop (Rep.swap R).dropLed fun p hp => .tail _ (.tail _ hp))

end Mine

/-! S13 -/
namespace Mine

/-- the powers, with the steps -/
noncomputable def pw (p root : Int) : Nat → List (Int × Int) × Int
  | 0 => ([], 1)
  | i + 1 => (if (i : Int).fmod 3 = 0 then insL (pw p root i).1 i (pw p root i).2 else insR (pw p root i).1 i (pw p root i).2, ((pw p root i).2 * (root - (i : Int).fmod 2 * p)) % p)
noncomputable abbrev siteP : List (Pos × Str) := [(⟨226, 49, 226, 67⟩, "_law_powers.<locals>.<lambda>"), (⟨228, 48, 228, 66⟩, "_law_powers.<locals>.<lambda>")]
theorem insL_length {ps : List (Int × Int)} {e x : Int} : (insL ps e x).length = ps.length + 1 := by
  unfold insL
  rw [List.length_append, List.length_cons, List.length_take, List.length_drop]
  exact om47
theorem insR_length {ps : List (Int × Int)} {e x : Int} : (insR ps e x).length = ps.length + 1 := by
  unfold insR
  rw [List.length_append, List.length_cons, List.length_take, List.length_drop]
  exact om47
theorem pw_length {p root : Int} : ∀ i, (pw p root i).1.length = i
  | 0 => rfl
  | i + 1 => by
    simp only [pw]
    split
    · rw [insL_length, pw_length i]
    · rw [insR_length, pw_length i]
theorem pw_bd {p root : Int} (hp : 1 < p) : ∀ i, 0 ≤ (pw p root i).2 ∧ (pw p root i).2 < p
  | 0 => ⟨by show (0 : Int) ≤ 1; decide, hp⟩
  | i + 1 => by
    simp only [pw]
    exact ⟨Int.emod_nonneg _ (by exact om48 hp), Int.emod_lt_of_pos _ (by exact om49 hp)⟩

theorem mem_less {pre post : List (Nat × Mo)} {x q : Nat × Mo} (h : x ∈ pre ++ q :: post) (hne : x.1 ≠ q.1) : x ∈ pre ++ post := by
  rcases List.mem_append.mp h with h | h
  · exact List.mem_append.mpr (.inl h)
  · rcases List.mem_cons.mp h with rfl | h
    · exact absurd rfl hne
    · exact List.mem_append.mpr (.inr h)
theorem spec_powers {w : World} {A : Around} {E : Value → Shared → Prop} {s : Shared} {K₀ : Heap} {led : List (Nat × Mo)} {tmp : List (V × Nat)} {Q : Value → Shared → Prop} {k : Nat} {p : Nat} {root : Int} {tp tr : Nat}
    (AO : AOk A (k + 410)) (S : Stat (hd.heap_39 w.params) K₀) (hC : CodeHd K₀ 68 64) (hC2 : CodeHd K₀ 75 71) (hC3 : CodeHd K₀ 167 163) (R : Rep K₀ led tmp s.heap) (hT : (64, Mo.tab siteA) ∈ led) (hT2 : (71, Mo.tab siteD) ∈ led) (hT3 : (163, Mo.tab siteP) ∈ led)
    (hp : 2 ≤ p) (hp2 : p ≤ 100) (hr : 0 ≤ root) (hr2 : root ≤ 100)
    (h : ∀ h' tk t, Rep K₀ led ((.lst (prs (pw p root (p - 1)).1), t) :: tmp) h' → Q (.ref t) (St s h' tk)) :
    wpAny (model PySem.Challenge.rw_uk0010_01.row.prog w) A (call (.ref 168) [.int p tp, .int root tr]) Q E s := by
  revert AO S R h
  k_fill
  intro AO S R h
  refine' r_enter (l := [("root", .int root), ("p", .int p)]) AO S R ?ho ?hcd ?hbind ?hcell ?hloc ?hrep ?_ ?c1 ?c2 ?c3
  ((case ho => k_is); (case hcd => k_is); (case hbind => first | exact BindsTo.of_eq rfl | exact binds_K (Rep.stat R S).x rfl (by k_is) rfl rfl rfl); (case hcell => decide); (case hloc => exact locs rfl); (case c1 => rfl); (case c2 => rfl); (case c3 => rfl))
  case hrep => intro B RB; exact (show Binds tmp _ _ by ((try dsimp only [List.reverse, List.reverseAux]); repeat (first | exact Binds.nil | (refine Binds.cons ?_ ?_; (with_reducible first | exact Bear.int | exact Bear.float | exact Bear.str | exact Bear.bool | exact Bear.none | (refine' Bear.tup ?zb3; (case zb3 => (repeat (with_reducible first | exact List.mem_cons_self | refine List.mem_cons_of_mem _ ?_)))) | (refine' Bear.lst ?zb3; (case zb3 => (repeat (with_reducible first | exact List.mem_cons_self | refine List.mem_cons_of_mem _ ?_)))) | exact Bear.raw))))) B RB.tmp
  clear R AO
  intro L h₁ tk env A' AO EO R
  obtain ⟨pre, post, rfl⟩ := List.append_of_mem hT3
  clear hT3
  ((with_reducible refine wpAny_execs_cons ?_))
  refine' r_asgSwap EO (names := ["row", "power"]) ?hw ?_ ?hs
  case hw => rfl
  case hs => rfl
  have hT' := mem_less hT (by decide)
  have hT2' := mem_less hT2 (by decide)
  replace R := Rep.up (pre := (L, Mo.ns [("root", V.int root), ("p", V.int (p : Int))]) :: pre) R
  replace R : Rep K₀ ((163, Mo.tab siteP) :: (L, Mo.ns [("root", V.int root), ("p", V.int (p : Int))]) :: (pre ++ post)) tmp h₁ := R
  replace R := R.swap
  ((with_reducible refine Tuple_ ?_); (refine wpAny_items_cons ?_); (with_reducible refine List_ ?_); (with_reducible refine wpAny_items_nil ?_))
  refine' r_newListPl R ?hv ?_ ?hz
  case hv => (repeat (first | exact Bears.nil | (apply Bears.cons; (with_reducible first | exact Bear.int | exact Bear.float | exact Bear.str | exact Bear.bool | exact Bear.none | (refine' Bear.tup ?zb3; (case zb3 => (repeat (with_reducible first | exact List.mem_cons_self | refine List.mem_cons_of_mem _ ?_)))) | (refine' Bear.lst ?zb3; (case zb3 => (repeat (with_reducible first | exact List.mem_cons_self | refine List.mem_cons_of_mem _ ?_)))) | exact Bear.raw))))
  case hz => exact of_decide_eq_true (by rfl)
  clear R; intro rl h' R
  ((refine wpAny_items_cons ?_); (with_reducible refine q_cint ?_); (with_reducible refine wpAny_items_nil ?_); (refine' r_newTuple R ?zhv ?_ ?zhs; (case zhv => (repeat (first | exact Bears.nil | (apply Bears.cons; (with_reducible first | exact Bear.int | exact Bear.float | exact Bear.str | exact Bear.bool | exact Bear.none | (refine' Bear.tup ?zb3; (case zb3 => (repeat (with_reducible first | exact List.mem_cons_self | refine List.mem_cons_of_mem _ ?_)))) | (refine' Bear.lst ?zb3; (case zb3 => (repeat (with_reducible first | exact List.mem_cons_self | refine List.mem_cons_of_mem _ ?_)))) | exact Bear.raw))))); (case zhs => exact of_decide_eq_true (by rfl)); clear R; intro _ h' R; (try (first | show wpAny _ _ _ _ _ (St s h' _) | show wpAny _ _ _ _ _ (St s _ _) | show codeAny _ _ _ _ (St s _ _) | show ite _ (wpAny _ _ _ _ _ (St s _ _)) (wpAny _ _ _ _ _ (St s _ _))))))
  show wpAny _ _ (unpackItems (.ref _) 2 none) _ _ _
  refine' r_unpackItems2 AO R List.mem_cons_self ?_
  clear R; intro h' t1 t2 R
  refine r_bind2 ?_
  ((refine' r_store EO R ?zhx ?zhv ?_; (case zhx => exact rfl); (case zhv => (with_reducible first | exact Bear.int | exact Bear.float | exact Bear.str | exact Bear.bool | exact Bear.none | (refine' Bear.tup ?zb3; (case zb3 => (repeat (with_reducible first | exact List.mem_cons_self | refine List.mem_cons_of_mem _ ?_)))) | (refine' Bear.lst ?zb3; (case zb3 => (repeat (with_reducible first | exact List.mem_cons_self | refine List.mem_cons_of_mem _ ?_)))) | exact Bear.raw)); clear R; intro h' _ R; (try (first | show wpAny _ _ _ _ _ (St s h' _) | show wpAny _ _ _ _ _ (St s _ _) | show codeAny _ _ _ _ (St s _ _) | show ite _ (wpAny _ _ _ _ _ (St s _ _)) (wpAny _ _ _ _ _ (St s _ _))))); (refine' r_store EO R ?zhx ?zhv ?_; (case zhx => exact rfl); (case zhv => (with_reducible first | exact Bear.int | exact Bear.float | exact Bear.str | exact Bear.bool | exact Bear.none | (refine' Bear.tup ?zb3; (case zb3 => (repeat (with_reducible first | exact List.mem_cons_self | refine List.mem_cons_of_mem _ ?_)))) | (refine' Bear.lst ?zb3; (case zb3 => (repeat (with_reducible first | exact List.mem_cons_self | refine List.mem_cons_of_mem _ ?_)))) | exact Bear.raw)); clear R; intro h' _ R; (try (first | show wpAny _ _ _ _ _ (St s h' _) | show wpAny _ _ _ _ _ (St s _ _) | show codeAny _ _ _ _ (St s _ _) | show ite _ (wpAny _ _ _ _ _ (St s _ _)) (wpAny _ _ _ _ _ (St s _ _))))); (with_reducible refine wpAny_execs_cons ?_))
  refine wpAny_For ?_
  ((refine Call_ ?_); (refine' r_bi EO S R ?ze ?zhv ?_ ?zhn ?zhx ?zhd; (case zhx => exact rfl); (case ze => k_is); (case zhv => boot_fast); (case zhn => decide); (case zhd => decide)); (refine Pv.callWith_type1 ?_); (refine wpAny_items_cons ?_); (refine r_ev EO AO R ?_; ((repeat (refine And.intro ?zc ?_; (case zc => (first | assumption | (with_unfolding_all decide +kernel) | omega)))); intro _ _)); (with_reducible refine wpAny_items_nil ?_))
  show wpAny _ _ (call (.type "range") [.int ((p : Int) - 1) _]) _ _ _
  refine' r_range1 R ?_
  clear R; intro r h' tk t u v R
  refine' r_pyIterRange1 R (k := p - 1) ?g1 ?g2 ?g3 ?_
  case g1 => exact om50 hp hp2
  case g2 => decide
  case g3 => exact om51 hp hp2
  clear R; intro I h' R
  replace R := Rep.loc [("row", V.raw (.ref rl)), ("power", V.int 1), ("p", V.int (p : Int)), ("root", V.int root)] R ⟨rfl, rfl, rfl, rfl, trivial⟩
  refine' r_forLoop (fun i l led' => l = [(("row" : Str), V.raw (.ref rl)), ("power", V.int (pw p root i).2), ("p", V.int (p : Int)), ("root", V.int root)] ∧ led' = (rl, Mo.pl (prs (pw p root i).1)) :: (163, Mo.tab siteP) :: (pre ++ post))
    (Iter.range AO) EO ?htp ?hx ?turn ⟨rfl, rfl⟩ R ?_
  case htp => intro p hp; cases hp
  case hx => rfl
  case turn =>
    clear R
    rintro i v l led' t s hi ⟨rfl, rfl⟩ R
    obtain ⟨hik, rfl⟩ := rangeV_get hi
    have hi0 : (0 : Int) + (i : Int) = i := Int.zero_add _
    rw [hi0] at R
    have hbd := pw_bd (p := p) (root := root) (by exact om52 hp hp2) i
    have hlen := pw_length (p := p) (root := root) i
    have hf2 : 0 ≤ (i : Int).fmod 2 ∧ (i : Int).fmod 2 < 2 := ⟨by rw [Int.fmod_eq_emod_of_nonneg _ (by decide)]; exact om53 hlen, by rw [Int.fmod_eq_emod_of_nonneg _ (by decide)]; exact om54 hlen⟩
    have hmo1 : IntMulOk ((i : Int).fmod 2) (p : Int) := IntMulOk.of_right (bits_le (by exact om55 hp hp2))
    have hz : -100 ≤ root - (i : Int).fmod 2 * (p : Int) ∧ root - (i : Int).fmod 2 * (p : Int) ≤ 100 := by
      have h1 : (i : Int).fmod 2 = 0 ∨ (i : Int).fmod 2 = 1 := by exact om56 hf2
      rcases h1 with h1 | h1 <;> rw [h1] <;> omega
    have hmo2 : IntMulOk (pw (p : Int) root i).2 (root - (i : Int).fmod 2 * (p : Int)) := IntMulOk.of_right (bits_le (by exact om57 hz))
    have hmv : -(2 ^ 299) ≤ (pw (p : Int) root i).2 * (root - (i : Int).fmod 2 * (p : Int)) ∧ (pw (p : Int) root i).2 * (root - (i : Int).fmod 2 * (p : Int)) < 2 ^ 299 := by
      have a1 : (pw (p : Int) root i).2 * (root - (i : Int).fmod 2 * (p : Int)) ≤ (pw (p : Int) root i).2 * 100 := Int.mul_le_mul_of_nonneg_left hz.2 hbd.1
      have a2 : (pw (p : Int) root i).2 * (-100) ≤ (pw (p : Int) root i).2 * (root - (i : Int).fmod 2 * (p : Int)) := Int.mul_le_mul_of_nonneg_left hz.1 hbd.1
      constructor <;> omega
    by_cases h3 : (i : Int).fmod 3 = 0
    · ((with_reducible refine wpAny_execs_cons ?_); (with_reducible refine wpAny_If ?_); (refine wpAny_isTrue_value ?_); (with_reducible refine wpAny_BinOp ?_); (refine' r_locS EO R ?zhv ?zhf ?_ ?zhx ?zhd; (case zhx => exact rfl); (case zhv => exact rfl); (case zhf => exact rfl); (case zhd => decide); intro _); (with_reducible refine q_cint ?_); (refine' q_modi (b := _) ?zhb ?_; (case zhb => (first | exact om58 | assumption | decide))); (with_reducible refine P.truthy_int ?_); (refine PySem.W.ite_neg (by (first | (with_reducible exact Bool.false_ne_true) | (simp only [decide_eq_true_eq, beq_iff_eq, bne_iff_ne, ne_eq, Bool.false_eq_true, not_false_eq_true]; first | done | assumption | exact om59 h3) | omega)) ?_); (with_reducible refine wpAny_execs_cons ?_); (refine r_expr EO ?_); (refine r_callKw ?_); (refine' r_glob EO S R ?ze ?_ ?zhx ?zhd; (case zhx => exact rfl); (case ze => k_is); (case zhd => decide)); (refine' r_callWithKw S ?zk ?_; (case zk => k_is)); (refine wpAny_items_cons ?_); (refine' r_locS EO R ?zhv ?zhf ?_ ?zhx ?zhd; (case zhx => exact rfl); (case zhv => exact rfl); (case zhf => exact rfl); (case zhd => decide); intro _); (refine wpAny_items_cons ?_); (refine' r_tupE EO AO R ?_ ?zhs; (case zhs => exact of_decide_eq_true rfl); ((repeat (refine And.intro ?zc ?_; (case zc => (first | assumption | (with_unfolding_all decide +kernel) | omega)))); clear R; intro h' _ _ R; (try (first | show wpAny _ _ _ _ _ (St s h' _) | show wpAny _ _ _ _ _ (St s _ _) | show codeAny _ _ _ _ (St s _ _) | show ite _ (wpAny _ _ _ _ _ (St s _ _)) (wpAny _ _ _ _ _ (St s _ _)))))); (with_reducible refine wpAny_items_nil ?_))
      replace R := Rep.up3 R
      refine' r_lambda EO S hC3 R ?hs ?hu ?hcl ?_ ?hdef
      case hs => exact .tail _ (.head _)
      case hu => intro s hs _ _; simp only [siteP, List.mem_cons, List.not_mem_nil, or_false] at hs; rcases hs with rfl | rfl <;> rfl
      case hcl => exact rfl
      case hdef => exact rfl
      clear R; intro f h' tk pm c' ctv R
      refine ⟨(Rep.stat R S).x, ?_⟩
      show wpAny _ _ (call (.ref 117) [.ref rl, .ref _] [("key", .ref f)]) _ _ _
      replace R := Rep.up4 R
      refine' spec_insL (AO.le (show 3 ≤ k + 409 by exact om60)) S R ?g1 List.mem_cons_self spec_key List.mem_cons_self ?_
      case g1 => exact om61 hp hp2 hik hlen
      clear R; intro h' tk R
      replace R := Rep.up3 (Rep.up3 R.swap.dropLed)
      ((with_reducible refine wpAny_execs_nil ?_); (with_reducible refine wpAny_execs_cons ?_); (refine wpAny_Assign_Name ?_); (refine Subscript_ ?_); (refine Call_ ?_); (refine' r_glob EO S R ?ze ?_ ?zhx ?zhd; (case zhx => exact rfl); (case ze => k_is); (case zhd => decide)); (refine' callWith_K ?zx ?zk ?_; (case zx => exact S.x); (case zk => k_is)); (refine wpAny_items_cons ?_); (with_reducible refine wpAny_BinOp ?_); (refine' r_locS EO R ?zhv ?zhf ?_ ?zhx ?zhd; (case zhx => exact rfl); (case zhv => exact rfl); (case zhf => exact rfl); (case zhd => decide); intro _); (with_reducible refine wpAny_BinOp ?_); (refine' r_locS EO R ?zhv ?zhf ?_ ?zhx ?zhd; (case zhx => exact rfl); (case zhv => exact rfl); (case zhf => exact rfl); (case zhd => decide); intro _); (with_reducible refine wpAny_BinOp ?_); (with_reducible refine wpAny_BinOp ?_); (refine' r_locS EO R ?zhv ?zhf ?_ ?zhx ?zhd; (case zhx => exact rfl); (case zhv => exact rfl); (case zhf => exact rfl); (case zhd => decide); intro _); (with_reducible refine q_cint ?_); (refine' q_modi (b := _) ?zhb ?_; (case zhb => (first | exact om33 | assumption | decide))); (refine' r_locS EO R ?zhv ?zhf ?_ ?zhx ?zhd; (case zhx => exact rfl); (case zhv => exact rfl); (case zhf => exact rfl); (case zhd => decide); intro _); (refine' r_mul ?zhe ?zhm ?_; (case zhe => with_reducible first | exact muE | exact muE2 | exact rfl); (case zhm => first | assumption | mul_fits); intro _ _); (with_reducible refine q_subi ?_); (refine' r_mul ?zhe ?zhm ?_; (case zhe => with_reducible first | exact muE | exact muE2 | exact rfl); (case zhm => first | assumption | mul_fits); intro _ _); (refine wpAny_items_cons ?_); (refine' r_locS EO R ?zhv ?zhf ?_ ?zhx ?zhd; (case zhx => exact rfl); (case zhv => exact rfl); (case zhf => exact rfl); (case zhd => decide); intro _); (with_reducible refine wpAny_items_nil ?_); (refine ⟨(Rep.stat R S).x, ?_⟩))
      show wpAny _ _ (call (.ref 90) [.int ((pw (p : Int) root i).2 * (root - (i : Int).fmod 2 * (p : Int))) _, .int (p : Int) _]) _ _ _
      refine' spec_divmod (k := k) (AO.le (by exact om62)) S hC hC2 R ?m1 ?m2 ?g1 ?g2 ?g3 ?g4 ?_
      case m1 => iterate 4 (with_reducible refine List.mem_cons_of_mem _ ?_)
                 exact hT'
      case m2 => iterate 4 (with_reducible refine List.mem_cons_of_mem _ ?_)
                 exact hT2'
      case g1 => exact hmv.1
      case g2 => exact hmv.2
      case g3 => exact om63 hp hp2
      case g4 => exact om64 hp hp2
      clear R; intro h' tk t2 R
      ((with_reducible refine q_cint ?_); (refine' r_itemT R ?zhm ?zi1 ?zi2 ?zhv ?_ ?zhs; (case zhm => (repeat (with_reducible first | assumption | exact List.mem_cons_self | refine List.mem_cons_of_mem _ ?_))); (case zhs => with_unfolding_all rfl); (case zhv => first | with_reducible assumption | exact rfl); (case zi1 => exact om21); (case zi2 => exact om22); clear R; intro _ R); (refine' r_store EO R ?zhx ?zhv ?_; (case zhx => exact rfl); (case zhv => (with_reducible first | exact Bear.int | exact Bear.float | exact Bear.str | exact Bear.bool | exact Bear.none | (refine' Bear.tup ?zb3; (case zb3 => (repeat (with_reducible first | exact List.mem_cons_self | refine List.mem_cons_of_mem _ ?_)))) | (refine' Bear.lst ?zb3; (case zb3 => (repeat (with_reducible first | exact List.mem_cons_self | refine List.mem_cons_of_mem _ ?_)))) | exact Bear.raw)); clear R; intro h' _ R; (try (first | show wpAny _ _ _ _ _ (St s h' _) | show wpAny _ _ _ _ _ (St s _ _) | show codeAny _ _ _ _ (St s _ _) | show ite _ (wpAny _ _ _ _ _ (St s _ _)) (wpAny _ _ _ _ _ (St s _ _))))); (with_reducible refine wpAny_execs_nil ?_))
      refine ⟨rfl, _, _, _, _, ⟨rfl, rfl⟩, Rep.drop (Rep.loc _ (Rep.dn2 (Rep.fst (Rep.up2 R) ?e1)) ⟨rfl, ?e2, rfl, rfl, trivial⟩) ?f5, rfl⟩
      case e1 => rw [pw, if_pos h3]
      case e2 => rfl
      case f5 => intro p hp; (repeat (with_reducible first | assumption | exact List.mem_cons_self | refine List.mem_cons_of_mem _ ?_))
    · ((with_reducible refine wpAny_execs_cons ?_); (with_reducible refine wpAny_If ?_); (refine wpAny_isTrue_value ?_); (with_reducible refine wpAny_BinOp ?_); (refine' r_locS EO R ?zhv ?zhf ?_ ?zhx ?zhd; (case zhx => exact rfl); (case zhv => exact rfl); (case zhf => exact rfl); (case zhd => decide); intro _); (with_reducible refine q_cint ?_); (refine' q_modi (b := _) ?zhb ?_; (case zhb => (first | exact om58 | assumption | decide))); (with_reducible refine P.truthy_int ?_); (refine PySem.W.ite_pos (by (first | rfl | (simp only [decide_eq_true_eq, beq_iff_eq, bne_iff_ne, ne_eq]; first | assumption | omega) | omega)) ?_); (with_reducible refine wpAny_execs_cons ?_); (refine r_expr EO ?_); (refine r_callKw ?_); (refine' r_glob EO S R ?ze ?_ ?zhx ?zhd; (case zhx => exact rfl); (case ze => k_is); (case zhd => decide)); (refine' r_callWithKw S ?zk ?_; (case zk => k_is)); (refine wpAny_items_cons ?_); (refine' r_locS EO R ?zhv ?zhf ?_ ?zhx ?zhd; (case zhx => exact rfl); (case zhv => exact rfl); (case zhf => exact rfl); (case zhd => decide); intro _); (refine wpAny_items_cons ?_); (refine' r_tupE EO AO R ?_ ?zhs; (case zhs => exact of_decide_eq_true rfl); ((repeat (refine And.intro ?zc ?_; (case zc => (first | assumption | (with_unfolding_all decide +kernel) | omega)))); clear R; intro h' _ _ R; (try (first | show wpAny _ _ _ _ _ (St s h' _) | show wpAny _ _ _ _ _ (St s _ _) | show codeAny _ _ _ _ (St s _ _) | show ite _ (wpAny _ _ _ _ _ (St s _ _)) (wpAny _ _ _ _ _ (St s _ _)))))); (with_reducible refine wpAny_items_nil ?_))
      replace R := Rep.up3 R
      refine' r_lambda EO S hC3 R ?hs ?hu ?hcl ?_ ?hdef
      case hs => exact .head _
      case hu => intro s hs _ _; simp only [siteP, List.mem_cons, List.not_mem_nil, or_false] at hs; rcases hs with rfl | rfl <;> rfl
      case hcl => exact rfl
      case hdef => exact rfl
      clear R; intro f h' tk pm c' ctv R
      refine ⟨(Rep.stat R S).x, ?_⟩
      show wpAny _ _ (call (.ref 99) [.ref rl, .ref _] [("key", .ref f)]) _ _ _
      replace R := Rep.up4 R
      refine' spec_insR (AO.le (show 3 ≤ k + 409 by exact om60)) S R ?g1 List.mem_cons_self spec_key List.mem_cons_self ?_
      case g1 => exact om65 hp hp2 hik hlen h3
      clear R; intro h' tk R
      replace R := Rep.up3 (Rep.up3 R.swap.dropLed)
      ((with_reducible refine wpAny_execs_nil ?_); (with_reducible refine wpAny_execs_cons ?_); (refine wpAny_Assign_Name ?_); (refine Subscript_ ?_); (refine Call_ ?_); (refine' r_glob EO S R ?ze ?_ ?zhx ?zhd; (case zhx => exact rfl); (case ze => k_is); (case zhd => decide)); (refine' callWith_K ?zx ?zk ?_; (case zx => exact S.x); (case zk => k_is)); (refine wpAny_items_cons ?_); (with_reducible refine wpAny_BinOp ?_); (refine' r_locS EO R ?zhv ?zhf ?_ ?zhx ?zhd; (case zhx => exact rfl); (case zhv => exact rfl); (case zhf => exact rfl); (case zhd => decide); intro _); (with_reducible refine wpAny_BinOp ?_); (refine' r_locS EO R ?zhv ?zhf ?_ ?zhx ?zhd; (case zhx => exact rfl); (case zhv => exact rfl); (case zhf => exact rfl); (case zhd => decide); intro _); (with_reducible refine wpAny_BinOp ?_); (with_reducible refine wpAny_BinOp ?_); (refine' r_locS EO R ?zhv ?zhf ?_ ?zhx ?zhd; (case zhx => exact rfl); (case zhv => exact rfl); (case zhf => exact rfl); (case zhd => decide); intro _); (with_reducible refine q_cint ?_); (refine' q_modi (b := _) ?zhb ?_; (case zhb => (first | exact om33 | assumption | decide))); (refine' r_locS EO R ?zhv ?zhf ?_ ?zhx ?zhd; (case zhx => exact rfl); (case zhv => exact rfl); (case zhf => exact rfl); (case zhd => decide); intro _); (refine' r_mul ?zhe ?zhm ?_; (case zhe => with_reducible first | exact muE | exact muE2 | exact rfl); (case zhm => first | assumption | mul_fits); intro _ _); (with_reducible refine q_subi ?_); (refine' r_mul ?zhe ?zhm ?_; (case zhe => with_reducible first | exact muE | exact muE2 | exact rfl); (case zhm => first | assumption | mul_fits); intro _ _); (refine wpAny_items_cons ?_); (refine' r_locS EO R ?zhv ?zhf ?_ ?zhx ?zhd; (case zhx => exact rfl); (case zhv => exact rfl); (case zhf => exact rfl); (case zhd => decide); intro _); (with_reducible refine wpAny_items_nil ?_); (refine ⟨(Rep.stat R S).x, ?_⟩))
      show wpAny _ _ (call (.ref 90) [.int ((pw (p : Int) root i).2 * (root - (i : Int).fmod 2 * (p : Int))) _, .int (p : Int) _]) _ _ _
      refine' spec_divmod (k := k) (AO.le (by exact om62)) S hC hC2 R ?m1 ?m2 ?g1 ?g2 ?g3 ?g4 ?_
      case m1 => iterate 4 (with_reducible refine List.mem_cons_of_mem _ ?_)
                 exact hT'
      case m2 => iterate 4 (with_reducible refine List.mem_cons_of_mem _ ?_)
                 exact hT2'
      case g1 => exact hmv.1
      case g2 => exact hmv.2
      case g3 => exact om63 hp hp2
      case g4 => exact om64 hp hp2
      clear R; intro h' tk t2 R
      ((with_reducible refine q_cint ?_); (refine' r_itemT R ?zhm ?zi1 ?zi2 ?zhv ?_ ?zhs; (case zhm => (repeat (with_reducible first | assumption | exact List.mem_cons_self | refine List.mem_cons_of_mem _ ?_))); (case zhs => with_unfolding_all rfl); (case zhv => first | with_reducible assumption | exact rfl); (case zi1 => exact om21); (case zi2 => exact om22); clear R; intro _ R); (refine' r_store EO R ?zhx ?zhv ?_; (case zhx => exact rfl); (case zhv => (with_reducible first | exact Bear.int | exact Bear.float | exact Bear.str | exact Bear.bool | exact Bear.none | (refine' Bear.tup ?zb3; (case zb3 => (repeat (with_reducible first | exact List.mem_cons_self | refine List.mem_cons_of_mem _ ?_)))) | (refine' Bear.lst ?zb3; (case zb3 => (repeat (with_reducible first | exact List.mem_cons_self | refine List.mem_cons_of_mem _ ?_)))) | exact Bear.raw)); clear R; intro h' _ R; (try (first | show wpAny _ _ _ _ _ (St s h' _) | show wpAny _ _ _ _ _ (St s _ _) | show codeAny _ _ _ _ (St s _ _) | show ite _ (wpAny _ _ _ _ _ (St s _ _)) (wpAny _ _ _ _ _ (St s _ _))))); (with_reducible refine wpAny_execs_nil ?_))
      refine ⟨rfl, _, _, _, _, ⟨rfl, rfl⟩, Rep.drop (Rep.loc _ (Rep.dn2 (Rep.fst (Rep.up2 R) ?e1)) ⟨rfl, ?e2, rfl, rfl, trivial⟩) ?f5, rfl⟩
      case e1 => rw [pw, if_neg h3]
      case e2 => rfl
      case f5 => intro p hp; (repeat (with_reducible first | assumption | exact List.mem_cons_self | refine List.mem_cons_of_mem _ ?_))
  clear R
  rintro l led' h' tk ⟨rfl, rfl⟩ R
  ((with_reducible refine wpAny_execs_cons ?_); (with_reducible refine wpAny_Return_some ?_); (refine' r_locS EO R ?zhv ?zhf ?_ ?zhx ?zhd; (case zhx => exact rfl); (case zhv => exact rfl); (case zhf => exact rfl); (case zhd => decide); intro _))
  rw [rangeV_length] at R
  refine h _ _ rl (Rep.down (Rep.drop (Rep.freezePl R.dropLed) ?f))
  case f => intro p hp; rcases List.mem_cons.mp hp with rfl | hp; exact .head _; (repeat (with_reducible first | assumption | exact List.mem_cons_self | refine List.mem_cons_of_mem _ ?_))

end Mine

/-! V23 -/
namespace Mine
section
variable {prog : Program} {w : World} {A : Around} {E : Value → Shared → Prop} {s : Shared} {K : Frag} {K₀ : Heap} {led : List (Nat × Mo)} {tmp : List (V × Nat)}
  {env : Env} {scope : Scope} {L : Nat} {cl : List (Str × Addr)} {qual : Str} {code : Value} {n : Nat}
theorem Iter.tup (AO : AOk A n) {I a : Nat} {vs : List V} : Iter prog w A K₀ I vs [(.tup vs, a)] fun i => .it "tuple_iterator" #[.ref a, .int i 0] where
  item := fun i v led tmp s Q E hv R ht hQ => by
    obtain ⟨B, RB⟩ := R
    obtain ⟨items, hl, rl⟩ := (RB.tmp _ (ht _ (.head _))).isTup RB.base
    obtain ⟨t, e, r⟩ := rl.get hv
    refine wpAny_pyNext_tuple_item (i := i) (t := a) RB.led.1.2.2.1 hl (by simpa using e) fun h' hit hs => hQ h' s.toks t ?_
    refine Rep.upd (mo := .it "tuple_iterator" #[.ref a, .int i 0]) ⟨B, RB.keep, RB.base, ?_, RB.led⟩ (fun b o hb e => hs.extBut b o hb e) fun B' RB' => ?_
    · intro p hp
      rcases List.mem_cons.mp hp with rfl | hp
      · exact r
      · exact RB.tmp p hp
    · obtain ⟨o, e, c, d⟩ := hit
      exact ⟨o, e, c, by rw [d]⟩
  done := fun led tmp s Q E R ht hQ => by
    have R0 := R
    obtain ⟨B, RB⟩ := R
    obtain ⟨items, hl, rl⟩ := (RB.tmp _ (ht _ (.head _))).isTup RB.base
    refine wpAny_pyNext_tuple_end AO.handled (i := vs.length) (t := a) RB.led.1.2.2.1 hl ?_ fun h' hx => hQ h' s.toks (R0.lose hx)
    have := rl.length
    simp only [Array.length_toList] at this
    simp [this]
theorem r_pyIterTup {a : Nat} {vs : List V} {p : Nat × Mo} {Q : Value → Shared → Prop} (R : Rep K₀ (p :: led) tmp s.heap) (hm : (V.tup vs, a) ∈ tmp)
    (h : ∀ I h', Rep K₀ (p :: (I, .it "tuple_iterator" #[.ref a, .int ((0 : Nat) : Int) 0]) :: led) tmp h' → Q (.ref I) (St s h' s.toks)) :
    wpAny (model prog w) A (pyIter (.ref a)) Q E s := by
  have R0 := R
  obtain ⟨B, RB⟩ := R
  obtain ⟨items, hl, rl⟩ := (RB.tmp _ hm).isTup RB.base
  exact wpAny_pyIter_tuple hl (h _ _ (Rep.swap (R0.fresh (push_keeps _ _) (Rep.none_at_size _) fun B' RB' => ⟨_, Heap.get?_push_size _ rfl, rfl, rfl⟩)))
noncomputable abbrev TurnOf (prog : Program) (w : World) (A : Around) (K₀ : Heap) (led : List (Nat × Mo)) (tmp : List (V × Nat)) (env : Env) (scope : Scope) (qual : Str) (code : Value) (elt : Expr) (x : Str) (sc : Scope) (cl' : List (Str × Addr)) (I : Nat) (ob : Nat → Mo) (items outs : List V) : Prop :=
  ∀ C D i v u t (s : Shared) (E' : Value → Shared → Prop), items[i]? = some v → outs[i]? = some u → EnvOk (compEnvC sc cl' C env) (relS sc scope) C cl' qual code →
      Rep K₀ ((C, .ns [(x, v)]) :: (D, .pl (outs.take i)) :: (I, ob (i + 1)) :: led) ((v, t) :: tmp) s.heap →
      wpAny (model prog w) A (eval elt (compEnvC sc cl' C env)) (fun y s' => ∃ tm' h' tk, Bear tm' u y ∧ (∀ p ∈ tmp, p ∈ tm') ∧ Rep K₀ ((C, .ns [(x, v)]) :: (D, .pl (outs.take i)) :: (I, ob (i + 1)) :: led) tm' h' ∧ s' = (St s h' tk)) E' s
/-- [elt for x in a list] -/
theorem r_compL {a : Nat} {items outs : List V} {p : Nat × Mo} {elt iter : Expr} {x : Str} {px : Pos} {sc : Scope} {pos : Pos} {cl' : List (Str × Addr)} {RR : Value → Addr → Result → Shared → Prop}
    (AO : AOk A n) (EO : EnvOk env scope L cl qual code) (R : Rep K₀ (p :: led) tmp s.heap) (hm : (V.lst items, a) ∈ tmp) (hlen : outs.length = items.length) (hsz : items.length ≤ 1000)
    (hcell : ∀ y ∈ sc.names, y.2 ≠ .cell) (hkind : sc.kind = .function) (hx : (relS sc scope).names.lookup x = some .local)
    (turn : ∀ I, TurnOf prog w A K₀ (p :: led) tmp env scope qual code elt x sc cl' I (fun i => .it "list_iterator" #[.ref a, .int i 0]) items outs)
    (h : ∀ C D l h' tk, Rep K₀ ((C, .ns l) :: (D, .pl outs) :: p :: led) tmp h' → RR (.ref D) C (.ok .next) (St s h' tk)) :
    wpAny (model prog w) A (pyIter (.ref a)) (fun it s₂ => CompGo prog w A env elt x px iter sc pos cl' RR E it s₂) E s := by
  refine r_pyIterList R hm fun I h₁ R1 => ?_
  refine r_compBlock (ob := fun i : Nat => .it "list_iterator" #[.ref a, .int i 0]) (Iter.list AO) EO (Rep.swap R1) (fun q hq => by rw [List.mem_singleton.mp hq]; exact hm) (fun led' s Q E R hq => ?_) hlen hsz hcell hkind hx (turn I) h
  obtain ⟨B, RB⟩ := R
  exact wpAny_pyIter_listiter RB.led.1.2.2.1 hq
/-- [elt for x in a tuple] -/
theorem r_compT {a : Nat} {items outs : List V} {p : Nat × Mo} {elt iter : Expr} {x : Str} {px : Pos} {sc : Scope} {pos : Pos} {cl' : List (Str × Addr)} {RR : Value → Addr → Result → Shared → Prop}
    (AO : AOk A n) (EO : EnvOk env scope L cl qual code) (R : Rep K₀ (p :: led) tmp s.heap) (hm : (V.tup items, a) ∈ tmp) (hlen : outs.length = items.length) (hsz : items.length ≤ 1000)
    (hcell : ∀ y ∈ sc.names, y.2 ≠ .cell) (hkind : sc.kind = .function) (hx : (relS sc scope).names.lookup x = some .local)
    (turn : ∀ I, TurnOf prog w A K₀ (p :: led) tmp env scope qual code elt x sc cl' I (fun i => .it "tuple_iterator" #[.ref a, .int i 0]) items outs)
    (h : ∀ C D l h' tk, Rep K₀ ((C, .ns l) :: (D, .pl outs) :: p :: led) tmp h' → RR (.ref D) C (.ok .next) (St s h' tk)) :
    wpAny (model prog w) A (pyIter (.ref a)) (fun it s₂ => CompGo prog w A env elt x px iter sc pos cl' RR E it s₂) E s := by
  refine r_pyIterTup R hm fun I h₁ R1 => ?_
  refine r_compBlock (ob := fun i : Nat => .it "tuple_iterator" #[.ref a, .int i 0]) (Iter.tup AO) EO (Rep.swap R1) (fun q hq => by rw [List.mem_singleton.mp hq]; exact hm) (fun led' s Q E R hq => ?_) hlen hsz hcell hkind hx (turn I) h
  obtain ⟨B, RB⟩ := R
  exact wpAny_pyIter_tupleiter RB.led.1.2.2.1 hq
/-- [elt for x in range(a, a + k)] -/
theorem r_compR {r : Nat} {a b : Int} {k : Nat} {t u v : Nat} {outs : List V} {p : Nat × Mo} {elt iter : Expr} {x : Str} {px : Pos} {sc : Scope} {pos : Pos} {cl' : List (Str × Addr)} {RR : Value → Addr → Result → Shared → Prop}
    (AO : AOk A n) (EO : EnvOk env scope L cl qual code) (R : Rep K₀ (p :: (r, rangeMo a b 1 t u v) :: led) tmp s.heap) (hb : b = a + k) (ha : -(2 ^ 62) ≤ a) (hb2 : b < 2 ^ 62) (hlen : outs.length = k) (hsz : k ≤ 1000)
    (hcell : ∀ y ∈ sc.names, y.2 ≠ .cell) (hkind : sc.kind = .function) (hx : (relS sc scope).names.lookup x = some .local)
    (turn : ∀ I, TurnOf prog w A K₀ (p :: led) tmp env scope qual code elt x sc cl' I (fun i => rangeIt a k i) (rangeV a k) outs)
    (h : ∀ C D l h' tk, Rep K₀ ((C, .ns l) :: (D, .pl outs) :: p :: led) tmp h' → RR (.ref D) C (.ok .next) (St s h' tk)) :
    wpAny (model prog w) A (pyIter (.ref r)) (fun it s₂ => CompGo prog w A env elt x px iter sc pos cl' RR E it s₂) E s := by
  refine r_pyIterRange1 R hb ha hb2 fun I h₁ R1 => ?_
  refine r_compBlock (ob := fun i : Nat => rangeIt a k i) (Iter.range AO) EO (Rep.swap R1) (fun q hq => by cases hq) (fun led' s Q E R hq => ?_) (by rw [rangeV_length]; exact hlen) (by rw [rangeV_length]; exact hsz) hcell hkind hx (turn I) h
  obtain ⟨B, RB⟩ := R
  exact wpAny_pyIter_rangeiter (x := a + ((0 : Nat) : Int)) (left := (k : Int) - ((0 : Nat) : Int)) (step := 1) RB.led.1.2.2.1 hq
end
end Mine

/-! V24 -/
namespace Mine
theorem strL_toList (l : List Nat) : (strL l).cps.toList = l := rfl
section
variable {prog : Program} {w : World} {A : Around} {E : Value → Shared → Prop} {s : Shared} {K : Frag} {K₀ : Heap} {led : List (Nat × Mo)} {tmp : List (V × Nat)}
theorem r_strMulE {h₀ : Heap} {t₀ : Nat} {x : Str} {xl : List Nat} {i : Int} {t u : Tok} {Q : Value → Shared → Prop} (ex : x.cps.toList = xl) (hi : i ≤ 1000) (h0 : -1000 ≤ i) (hx : xl.length ≤ 1000)
    (h : ∀ tk t, Q (.str (strL (List.replicate i.toNat xl).flatten) t) (St s h₀ tk)) : wpAny (model prog w) A (binaryOp .Mult (.str x t) (.int i u)) Q E (St s h₀ t₀) := by
  subst ex
  exact r_strMul hi h0 (by rw [← Array.length_toList]; exact hx) h
theorem r_strAddE {h₀ : Heap} {t₀ : Nat} {x y : Str} {xl yl : List Nat} {t u : Tok} {Q : Value → Shared → Prop} (ex : x.cps.toList = xl) (ey : y.cps.toList = yl) (hx : xl.length + yl.length ≤ 1000000)
    (h : ∀ tk t, Q (.str (strL (xl ++ yl)) t) (St s h₀ tk)) : wpAny (model prog w) A (binaryOp .Add (.str x t) (.str y u)) Q E (St s h₀ t₀) := by
  subst ex ey
  exact r_strAdd (by rw [← Array.length_toList, ← Array.length_toList]; exact hx) h
theorem r_powE {h₀ : Heap} {t₀ : Nat} {a i c : Int} {t u : Tok} {Q : Value → Shared → Prop} (e : a ^ i.toNat = c) (h0 : 0 ≤ i) (hk : i ≤ 1000) (ha : a.natAbs < 2 ^ 64) (h : ∀ tk t, Q (.int c t) (St s h₀ tk)) :
    wpAny (model prog w) A (binaryOp .Pow (.int a t) (.int i u)) Q E (St s h₀ t₀) :=
  pow_int_small h0 (by exact om465 h0 hk) ha (by rw [e]; exact h _ _)
theorem r_neStrSame {x y : Str} {t u : Tok} {Q : Value → Shared → Prop} (e : x = y) (h : Q (.bool false) s) : wpAny (model prog w) A (compareOp .NotEq (.str x t) (.str y u)) Q E s := by
  subst e
  exact P.ne_str (by rw [bne_self_eq_false]; exact h)
theorem rep_len {k : Nat} {l : List Nat} : (List.replicate k l).flatten.length = k * l.length := by
  rw [List.length_flatten, List.map_replicate, List.sum_replicate_nat]
end
section
variable {prog : Program} {w : World} {A : Around} {E : Value → Shared → Prop} {s : Shared} {env : Env}
/-- x[a:b], by its parts -/
theorem r_slice {K₀ : Heap} {value : Expr} {p pos : Pos} {Q : Value → Shared → Prop} {ex : Expr}
    (h : wpAny (model prog w) A (eval value env) (fun o s₁ => wpAny (model prog w) A (eval ex env) (fun vu s₂ => ∃ (a b : Nat) (vs : List V) (led : List (Nat × Mo)) (tmp : List (V × Nat)) (t : Nat), o = .ref a ∧ vu = .int (b : Int) t ∧ b ≤ vs.length ∧ vs.length ≤ 1000 ∧ LAt K₀ led tmp a vs ∧ Rep K₀ led tmp s₂.heap ∧
      ∀ d h', Rep K₀ led ((.lst (vs.take b), d) :: tmp) h' → Q (.ref d) (St s₂ h' s₂.toks)) E s₁) E s)
    (he : evalPart (some ex) env = eval ex env := by rfl) (ht : ∀ o r, letTemporaryGo value o r = pure () := by intro _ _; rfl) :
    wpAny (model prog w) A (eval (.Subscript value (.Slice none (some ex) none p) pos) env) Q E s := by
  refine wpAny_Subscript_list_slice (wpAny_mono h (fun o s₁ h₁ => ?_) fun _ _ e => e) ht
  rw [evalPart_none, he]
  refine wpAny_pure (wpAny_mono h₁ (fun vu s₂ h₂ => ?_) fun _ _ e => e)
  obtain ⟨a, b, vs, led, tmp, t, rfl, rfl, hb, hl, hm, R, hQ⟩ := h₂
  have R0 := R
  obtain ⟨B, RB⟩ := R
  obtain ⟨items, hT, rl⟩ := hm B _ RB
  have e1 := rl.length
  rw [Array.length_toList] at e1
  refine ⟨a, items, none, some (b : Int), rfl, hT, by rw [e1]; exact Nat.le_trans hl (by decide), .none, .int _ _, ?_⟩
  rw [slicePick_upto items b (by exact om466 hb e1)]
  have R1 : Rep K₀ led tmp (s₂.heap.push { cls := .type "slice", data := .fields #[.none, .int (b : Int) t, .none] }) := R0.keeps (push_keeps _ _)
  have R2 := R1.frz (v := .lst (vs.take b)) (push_keeps _ _) (Rep.none_at_size _) (Heap.get?_push_size _ (o := { cls := .type "list", data := .seq (items.toList.take b).toArray }) rfl) fun B' RB' le => by
    obtain ⟨j, hj, rj⟩ := hm B' _ RB'
    have q : j = items := by
      obtain ⟨o, e, _, m, d⟩ := hj
      obtain ⟨o', e', _, m', d'⟩ := hT
      have e'' : (s₂.heap.push { cls := .type "slice", data := .fields #[.none, .int (b : Int) t, .none] }).get? a = some o' := Heap.get?_push_of_some _ e'
      rw [e''] at e; cases e; rw [d'] at d; cases d; rfl
    subst q
    simp only [RepT]
    exact ⟨_, _, _, Bs.put_self _ _ _, rfl, rfl, RepL.mono le _ (by simpa using RepL.take b rj)⟩
  rw [Heap.size_push] at R2
  exact hQ _ _ R2
end
end Mine

/-! V25 -/
namespace Mine
open PySem.Flt
theorem RepL.areInts {B : Bs} : ∀ {xs : List Int} {l : List Value}, RepL B (xs.map V.int) l → IntsAre l xs
  | [], l, h => by simp only [List.map_nil, RepL] at h; subst h; exact .nil
  | x :: xs, l, h => by
    simp only [List.map_cons, RepL] at h
    obtain ⟨t, r, rfl, _, b⟩ := h
    exact .cons x t (RepL.areInts b)
theorem RepL.ofInts {B : Bs} : ∀ {xs : List Int} {l : List Value}, IntsAre l xs → RepL B (xs.map V.int) l
  | _, _, .nil => RepL.nil B
  | _, _, .cons x t h => RepL.cons (v := .int x) (t := t) (by simp only [RepT]) (RepL.ofInts h)
theorem sum_upto (xs : List Int) : ∀ j, preSum (fun j => xs.getD j 0) j = (xs.take j).sum
  | 0 => by simp [preSum]
  | j + 1 => by
    rw [preSum, sum_upto xs j]
    by_cases h : j < xs.length
    · rw [List.take_succ_eq_append_getElem h, List.sum_append]
      simp [List.getD, h]
    · rw [List.take_of_length_le (by exact om467 h), List.take_of_length_le (by exact om468 h)]
      simp [List.getD, List.getElem?_eq_none (Nat.le_of_not_lt h)]
section
variable {prog : Program} {w : World} {A : Around} {E : Value → Shared → Prop} {s : Shared} {K : Frag} {K₀ : Heap} {led : List (Nat × Mo)} {tmp : List (V × Nat)}
  {env : Env} {scope : Scope} {L : Nat} {cl : List (Str × Addr)} {qual : Str} {code : Value} {n : Nat}
/-- max(a, b) of ints -/
theorem r_maxII {a b : Int} {t u : Tok} {Q : Value → Shared → Prop} (AO : AOk A n) (R : Rep K₀ led tmp s.heap) (h : ∀ h' tk t, Rep K₀ led tmp h' → Q (.int (max a b) t) (St s h' tk)) :
    wpAny (model prog w) A (call (.builtin "max") [.int a t, .int b u]) Q E s := by
  refine max_two_num AO.handled (.int _ _) (.int _ _) fun h' tk k => ?_
  have hx : ∃ z, (if ltV (.int a t) (.int b u) then Value.int b u else .int a t) = .int (max a b) z := by
    show ∃ z, (if decide (a < b) then Value.int b u else .int a t) = _
    by_cases hab : a < b
    · exact ⟨u, by rw [if_pos (by simpa using hab), Int.max_eq_right (by exact om469 hab)]⟩
    · exact ⟨t, by rw [if_neg (by simpa using hab), Int.max_eq_left (by exact om470 hab)]⟩
  obtain ⟨z, e⟩ := hx
  rw [e]
  exact h h' tk z (R.keeps k)
/-- sum(a list of ints) -/
theorem r_sumL {a : Nat} {xs : List Int} {Q : Value → Shared → Prop} (AO : AOk A n) (R : Rep K₀ led tmp s.heap) (hm : (V.lst (xs.map V.int), a) ∈ tmp)
    (h : ∀ h' tk t, Rep K₀ led tmp h' → Q (.int xs.sum t) (St s h' tk)) : wpAny (model prog w) A (call (.builtin "sum") [.ref a]) Q E s := by
  have R0 := R
  obtain ⟨B, RB⟩ := R
  obtain ⟨items, hl, rl⟩ := (RB.tmp _ hm).isList RB.base
  have e1 := rl.length
  rw [Array.length_toList, List.length_map] at e1
  obtain ⟨o, ho, _⟩ := id hl
  refine call_sum_walkG (wpAny_pyIter_list hl ?_)
  refine ⟨_, [_, a], [_], _, _, _, fun j => xs.getD j 0, rfl, Walks.list (A := A.in1) AO.handled _ a (Nat.ne_of_lt (Heap.lt_size ho)) items, ⟨⟨_, Heap.get?_push_size _ rfl, rfl, rfl⟩, hl.push _⟩, fun d hd => ?_, fun i v hv => ?_, fun h' tk t' hk => ?_⟩
  · rw [Heap.size_push]
    rcases List.mem_cons.mp hd with rfl | hd
    · exact Nat.lt_succ_self _
    · rw [List.mem_singleton.mp hd]; exact Nat.lt_succ_of_lt (Heap.lt_size ho)
  · have hi : i < items.toList.length := by
      rw [Array.length_toList]; exact (Array.getElem?_eq_some_iff.mp hv).1
    obtain ⟨t, e⟩ := rl.ints (i := i) hi
    refine ⟨t, ?_⟩
    rw [← e]
    have := (Array.getElem?_eq_some_iff.mp hv).2
    simpa using this.symm
  · rw [sum_upto, List.take_of_length_le (by exact om471 e1)]
    refine h h' tk t' (R0.keeps fun b o e => hk b o (fun hm => ?_) (Heap.get?_push_of_some _ e))
    have := Heap.lt_size e
    rw [List.mem_singleton.mp hm] at this
    exact Nat.lt_irrefl _ this
/-- list(range(a, a + k)) -/
theorem r_listRange {r : Nat} {a b : Int} {k : Nat} {t u v : Nat} {p : Nat × Mo} {Q : Value → Shared → Prop} (AO : AOk A n) (R : Rep K₀ (p :: (r, rangeMo a b 1 t u v) :: led) tmp s.heap) (hb : b = a + k) (ha : -(2 ^ 62) ≤ a) (hb2 : b < 2 ^ 62) (hk : k ≤ 1000)
    (h : ∀ d h' tk, Rep K₀ (p :: led) ((.lst (rangeV a k), d) :: tmp) h' → Q (.ref d) (St s h' tk)) :
    wpAny (model prog w) A (call (.type "list") [.ref r]) Q E s := by
  have R0 := Rep.dropIn (pre := [_]) R
  obtain ⟨B, RB⟩ := R
  have hr := (RB.led.mem (.tail _ (.head _))).2.2
  have e : Builtin.Range.rangeSize a b 1 = (k : Int) := by rw [rangeSize_one]; split <;> omega
  refine call_list_range AO.handled hr (small_one ha (by exact om472 hb hb2 hk e) (by exact om473 hb ha hk e) hb2) e (Nat.le_trans hk (by decide)) fun h' tk acc' c' hkk hS hacc => ?_
  refine h _ h' tk (R0.frz hkk (Rep.none_at_size _) hS fun B' RB' le => ?_)
  simp only [RepT]
  refine ⟨_, _, _, Bs.put_self _ _ _, rfl, rfl, ?_⟩
  have key : IntsAre acc'.toList ((List.range k).map fun (i : Nat) => a + (i : Int)) := by
    have gen : ∀ (l : List Value) (m : Nat) (j : Nat), l.length = m → (∀ i v, l[i]? = some v → ∃ t, v = Value.int (a + ((j + i : Nat) : Int)) t) → IntsAre l ((List.range m).map fun (i : Nat) => a + ((j + i : Nat) : Int)) := by
      intro l
      induction l with
      | nil => intro m j hm _; subst hm; exact .nil
      | cons v l ih =>
        intro m j hm hv
        obtain ⟨m', rfl⟩ : ∃ m', m = m' + 1 := ⟨l.length, by rw [← hm]; rfl⟩
        obtain ⟨t, rfl⟩ := hv 0 v rfl
        rw [List.range_succ_eq_map, List.map_cons, List.map_map]
        refine .cons _ t ?_
        have := ih m' (j + 1) (by simpa using hm) fun i v e => by
          obtain ⟨t, e'⟩ := hv (i + 1) v (by simpa using e)
          exact ⟨t, by rw [e', Nat.add_assoc, Nat.add_comm 1 i]⟩
        have ef : ((fun (i : Nat) => a + ((j + i : Nat) : Int)) ∘ Nat.succ) = fun (i : Nat) => a + ((j + 1 + i : Nat) : Int) := by
          funext i
          show a + ((j + (i + 1) : Nat) : Int) = a + ((j + 1 + i : Nat) : Int)
          rw [Nat.add_assoc, Nat.add_comm 1 i]
        rw [ef]
        exact this
    have g := gen acc'.toList k 0 (by rw [Array.length_toList]; exact hacc.1) fun i v e => by
      obtain ⟨t, e'⟩ := hacc.2 i v (by simpa using e)
      exact ⟨t, by rw [e', Int.mul_one]; simp⟩
    simpa using g
  have := RepL.ofInts (B := B'.put s.heap.objs.size { cls := .type "list", dict := none, data := .seq acc' c', slots := #[] }) key
  rw [List.map_map] at this
  exact this
/-- xs.count(k), xs a list just made -/
theorem r_count {a : Nat} {xs : List Int} {k : Int} {t : Tok} {Q : Value → Shared → Prop} (R : Rep K₀ led tmp s.heap) (hm : (a, Mo.pl (xs.map V.int)) ∈ led)
    (h : ∀ tk t, Q (.int (xs.count k : Nat) t) (St s s.heap tk)) : wpAny (model prog w) A (call (.builtin "list.count") [.ref a, .int k t]) Q E s := by
  obtain ⟨B, RB⟩ := R
  obtain ⟨_, _, items, c, e, rl⟩ := RB.led.mem hm
  exact count_list_ints (vs := items.toList) ⟨_, e, rfl, c, rfl⟩ rl.areInts (h _ _)
/-- xs[k::4] of ints: ints, no more than xs has -/
theorem r_sliceK {value ex sx : Expr} {p pos : Pos} {Q : Value → Shared → Prop}
    (h : wpAny (model prog w) A (eval value env) (fun o s₁ => wpAny (model prog w) A (eval ex env) (fun vl s₂ => wpAny (model prog w) A (eval sx env) (fun vs s₃ => ∃ (a : Nat) (i j : Int) (xs : List Int) (led : List (Nat × Mo)) (tmp : List (V × Nat)) (t u : Nat), o = .ref a ∧ vl = .int i t ∧ vs = .int j u ∧ j ≠ 0 ∧ xs.length ≤ 1000 ∧ (V.lst (xs.map V.int), a) ∈ tmp ∧ Rep K₀ led tmp s₃.heap ∧
      ∀ d h', Rep K₀ led ((.lst ((pickNums xs (some i) none (some j)).map V.int), d) :: tmp) h' → Q (.ref d) (St s₃ h' s₃.toks)) E s₂) E s₁) E s)
    (he : evalPart (some ex) env = eval ex env := by rfl) (he2 : evalPart (some sx) env = eval sx env := by rfl) (ht : ∀ o r, letTemporaryGo value o r = pure () := by intro _ _; rfl) :
    wpAny (model prog w) A (eval (.Subscript value (.Slice (some ex) none (some sx) p) pos) env) Q E s := by
  refine wpAny_Subscript_Slice_step (T := "list") list_getitem_lookup (wpAny_mono h (fun o s₁ h₁ => wpAny_Slice ?_) fun _ _ e => e) ht
  rw [he]
  refine wpAny_mono h₁ (fun vl s₂ h₂ => ?_) fun _ _ e => e
  rw [evalPart_none]
  refine wpAny_pure ?_
  rw [he2]
  refine wpAny_mono h₂ (fun vs s₃ h₃ => ?_) fun _ _ e => e
  obtain ⟨a, i, j, xs, led, tmp, t, u, rfl, rfl, rfl, hj, hl, hm, R, hQ⟩ := h₃
  have R0 := R
  obtain ⟨B, RB⟩ := R
  obtain ⟨items, hL, rl⟩ := (RB.tmp _ hm).isList RB.base
  have e1 := rl.length
  rw [Array.length_toList, List.length_map] at e1
  have hia := rl.areInts.pick (some i) none (some j)
  have hsz := slicePick_size_le items (some i) none (some j)
  rw [Array.toArray_toList] at hia
  refine ⟨(hL.push _).typeIs, wpAny_getItem_list_slice (hL.push _) (Heap.IsSliceOf.new ..) (.int _ _) .none (.int _ _) (by simpa using hj) ?_ (by rw [e1]; exact Nat.le_trans hl (by decide))⟩
  have R1 : Rep K₀ led tmp (s₃.heap.push { cls := .type "slice", data := .fields #[.int i t, .none, .int j u] }) := R0.keeps (push_keeps _ _)
  have hlen := hia.length
  refine hQ _ _ (R1.frz (push_keeps _ _) (Rep.none_at_size _) (Heap.get?_push_size _ rfl) fun B' RB' le => ?_)
  simp only [RepT]
  exact ⟨_, _, _, Bs.put_self _ _ _, rfl, rfl, RepL.ofInts hia⟩
theorem ints_of : ∀ xs : List Int, IntsAre (xs.map fun x => Value.int x 0) xs
  | [] => .nil
  | x :: xs => .cons x 0 (ints_of xs)
theorem pick_length (xs : List Int) (a b c : Option Int) : (pickNums xs a b c).length ≤ xs.length := by
  have h := ((ints_of xs).pick a b c).length
  have h2 := slicePick_size_le (xs.map fun x => Value.int x 0).toArray a b c
  rw [← h]
  refine Nat.le_trans (by rw [Array.length_toList]; exact h2) ?_
  simp
end
end Mine

/-! V26 -/
namespace Mine
open PySem.Flt
/-- turn the first two entries -/
theorem Rep.upd2 {K₀ : Heap} {led : List (Nat × Mo)} {tmp : List (V × Nat)} {h h' : Heap} {a b : Nat} {ma ma' mb mb' : Mo} (R : Rep K₀ ((a, ma) :: (b, mb) :: led) tmp h) (k : ∀ c o, c ≠ a → c ≠ b → h.get? c = some o → h'.get? c = some o)
    (hm : ∀ B, RepB K₀ B ((a, ma) :: (b, mb) :: led) tmp h → MoRep B h' a ma' ∧ MoRep B h' b mb') : Rep K₀ ((a, ma') :: (b, mb') :: led) tmp h' := by
  obtain ⟨B, RB⟩ := R
  have hm' := hm B RB
  obtain ⟨a1, b1, c1, ⟨d1, d2, d3, d4⟩, ⟨e1, e2, e3, e4⟩, f⟩ := RB
  refine ⟨B, fun x o e => k x o (fun q => by rw [q, d2] at e; cases e) (fun q => by rw [q, e2] at e; cases e) (a1 x o e), fun x o e => k x o (fun q => by rw [q, d1] at e; cases e) (fun q => by rw [q, e1] at e; cases e) (b1 x o e), c1, ⟨d1, d2, hm'.1, fun q hq => ?_⟩, ⟨e1, e2, hm'.2, e4⟩, ?_⟩
  · rcases List.mem_cons.mp hq with rfl | hq
    · exact d4 (b, mb) (.head _)
    · exact d4 q (.tail _ hq)
  exact f.at (fun p hp o e => k _ o (d4 p (.tail _ hp)) (e4 p hp) e) (fun _ _ e => e) fun p hp => (f.mem hp).1
/-- the object enumerate(..) -/
noncomputable abbrev enumMo (I : Nat) (i : Int) (old : Value) : Mo := .obj { cls := .type "enumerate", dict := none, data := .fields #[.none, .bool false, .ref I, rawInt i, .none, old], slots := #[] }
noncomputable abbrev enumOutMo (I : Nat) (i : Int) (x : Value) (T : Nat) : Mo := .obj { cls := .type "enumerate", dict := none, data := .fields #[rawInt T, .bool false, .ref I, rawInt i, .none, x], slots := #[] }
noncomputable abbrev listIt (a i : Nat) : Mo := .it "list_iterator" #[.ref a, .int (i : Int) 0]
section
variable {prog : Program} {w : World} {A : Around} {E : Value → Shared → Prop} {s : Shared} {K : Frag} {K₀ : Heap} {led : List (Nat × Mo)} {tmp : List (V × Nat)}
  {env : Env} {scope : Scope} {L : Nat} {cl : List (Str × Addr)} {qual : Str} {code : Value} {n : Nat}
/-- enumerate(a list) -/
theorem r_enum {a : Nat} {vs : List V} {p : Nat × Mo} {Q : Value → Shared → Prop} (R : Rep K₀ (p :: led) tmp s.heap) (hm : (V.lst vs, a) ∈ tmp)
    (h : ∀ e I h', Rep K₀ (p :: (e, enumMo I 0 .none) :: (I, listIt a 0) :: led) tmp h' → Q (.ref e) (St s h' s.toks)) :
    wpAny (model prog w) A (call (.type "enumerate") [.ref a]) Q E s := by
  have R0 := R
  obtain ⟨B, RB⟩ := R
  obtain ⟨items, hl, rl⟩ := (RB.tmp _ hm).isList RB.base
  refine call_enumerate_list hl fun h' he hit hsz hk => ?_
  -- two new objects
  have f0 : s.heap.get? (s.heap.objs.size + 1) = none := by
    cases q : s.heap.get? (s.heap.objs.size + 1) with
    | none => rfl
    | some o => exact absurd (Heap.lt_size q) (fun h => Nat.lt_irrefl _ (Nat.lt_of_succ_lt h))
  obtain ⟨oi, hoi, hci, hdi⟩ := id hit
  obtain ⟨B, RB⟩ := R0
  have hB : ∀ c, s.heap.get? c = none → B c = none := fun c hc => by
    cases q : B c with
    | none => rfl
    | some o => have := RB.base c o q; rw [hc] at this; cases this
  have hK : ∀ c, s.heap.get? c = none → K₀.get? c = none := fun c hc => by
    cases q : K₀.get? c with
    | none => rfl
    | some o => have := RB.keep c o q; rw [hc] at this; cases this
  have hL : ∀ q ∈ p :: led, q.1 < s.heap.objs.size := fun q hq => by
    obtain ⟨_, _, e3⟩ := RB.led.mem hq
    obtain ⟨y, e4⟩ := e3.here
    exact Heap.lt_size e4
  have RR : Rep K₀ ((s.heap.objs.size + 1, enumMo s.heap.objs.size 0 .none) :: (s.heap.objs.size, listIt a 0) :: p :: led) tmp h' := by
    refine ⟨B, fun c o e => hk c o (RB.keep c o e), fun c o e => hk c o (RB.base c o e), RB.tmp, ⟨hB _ f0, hK _ f0, he, fun q hq => ?_⟩, ⟨hB _ (Rep.none_at_size _), hK _ (Rep.none_at_size _), ⟨oi, hoi, hci, hdi⟩, fun q hq => ?_⟩, RB.led.at (fun q _ o e => hk _ o e) (fun _ _ e => e) fun q hq => (RB.led.mem hq).1⟩
    · rcases List.mem_cons.mp hq with rfl | hq
      · show s.heap.objs.size ≠ s.heap.objs.size + 1; exact om474
      · have := hL q hq; omega
    · have := hL q hq; exact om476 this
  exact h _ _ _ (Rep.up (pre := [_, _]) RR)
noncomputable abbrev CompGoT (prog : Program) (w : World) (A : Around) (env : Env) (elt tgt iter : Expr) (sc : Scope) (pos : Pos) (cl' : List (Str × Addr)) (RR : Value → Addr → Result → Shared → Prop) (E : Value → Shared → Prop) (it : Value) (s₂ : Shared) : Prop :=
  wpAny (model prog w) A (newList []) (fun acc s₃ => wpAny (model prog w) A (newFunctionEnv sc env.globals cl' [] env.qual none .none (some env)) (fun cenv s₄ =>
      codeAny (model prog w) A (.compStart (.ListComp elt [⟨tgt, iter, [], 0⟩] sc pos) 0 it acc { cenv with scope := relabel sc env }) (RR acc cenv.locals) s₄) E s₃) E s₂
/-- [elt for k, x in enumerate(a list of ints)] -/
theorem r_compE {a e I : Nat} {xs : List Int} {outs : List V} {elt iter : Expr} {kx fx : Str} {pk pf tp : Pos} {kk : Nat} {sc : Scope} {pos : Pos} {cl' : List (Str × Addr)} {RR : Value → Addr → Result → Shared → Prop}
    (AO : AOk A n) (EO : EnvOk env scope L cl qual code) (R : Rep K₀ ((e, enumMo I 0 .none) :: (I, listIt a 0) :: led) tmp s.heap) (hm : (V.lst (xs.map V.int), a) ∈ tmp) (hlen : outs.length = xs.length) (hsz : xs.length ≤ 1000)
    (hcell : ∀ y ∈ sc.names, y.2 ≠ .cell) (hkind : sc.kind = .function) (hk : (relS sc scope).names.lookup kx = some .local) (hf : (relS sc scope).names.lookup fx = some .local) (hne : ¬ kx = fx)
    (turn : ∀ C D (i : Nat) (old : Value) (x : Int) (u : V) (s : Shared) (E' : Value → Shared → Prop), xs[i]? = some x → outs[i]? = some u → EnvOk (compEnvC sc cl' C env) (relS sc scope) C cl' qual code →
      Rep K₀ ((C, .ns [(fx, .int x), (kx, .int (i : Int))]) :: (D, .pl (outs.take i)) :: (e, enumMo I ((i + 1 : Nat) : Int) old) :: (I, listIt a (i + 1)) :: led) tmp s.heap →
      wpAny (model prog w) A (eval elt (compEnvC sc cl' C env)) (fun y s' => ∃ tm' h' tk, Bear tm' u y ∧ (∀ p ∈ tmp, p ∈ tm') ∧ Rep K₀ ((C, .ns [(fx, .int x), (kx, .int (i : Int))]) :: (D, .pl (outs.take i)) :: (e, enumMo I ((i + 1 : Nat) : Int) old) :: (I, listIt a (i + 1)) :: led) tm' h' ∧ s' = (St s h' tk)) E' s)
    (h : ∀ C D l h' tk, Rep K₀ ((C, .ns l) :: (D, .pl outs) :: led) tmp h' → RR (.ref D) C (.ok .next) (St s h' tk)) :
    wpAny (model prog w) A (pyIter (.ref e)) (fun it s₂ => CompGoT prog w A env elt (.Tuple [.Name kx pk, .Name fx pf] kk tp) iter sc pos cl' RR E it s₂) E s := by
  have self : ∀ (led' : List (Nat × Mo)) (s : Shared) (Q : Value → Shared → Prop) E, Rep K₀ ((e, enumMo I 0 .none) :: led') tmp s.heap → Q (.ref e) s → wpAny (model prog w) A (pyIter (.ref e)) Q E s := fun led' s Q E R hq => by
    obtain ⟨B, RB⟩ := R
    exact wpAny_pyIter_enum RB.led.1.2.2.1 hq
  refine self _ _ _ _ R ?_
  refine wpAny_newList ?_ (by decide)
  have R1 : Rep K₀ ((s.heap.objs.size, .pl []) :: (e, enumMo I 0 .none) :: (I, listIt a 0) :: led) tmp (s.heap.push { cls := .type "list", data := .seq ([] : List Value).toArray }) :=
    R.fresh (push_keeps _ _) (Rep.none_at_size _) fun B RB => ⟨#[], 0, Heap.get?_push_size _ rfl, RepL.nil B⟩
  refine wpAny_newFunctionEnv hcell (by intro y hy; simp at hy) (fun h₁ hns₁ hsb₁ => ?_) hkind
  have R2 : Rep K₀ (((s.heap.push { cls := .type "list", data := .seq ([] : List Value).toArray }).objs.size, .ns []) :: (s.heap.objs.size, .pl []) :: (e, enumMo I 0 .none) :: (I, listIt a 0) :: led) tmp h₁ :=
    R1.fresh (fun b o e => hsb₁.extBut b o (Nat.ne_of_lt (Heap.lt_size e)) (Heap.get?_push_of_some _ e)) (Rep.none_at_size _) fun B RB => ⟨_, hns₁, fun x v e => by cases e⟩
  generalize (s.heap.push { cls := .type "list", data := .seq ([] : List Value).toArray }).objs.size = C at R2 ⊢
  generalize s.heap.objs.size = D at R2 ⊢
  have EO' := EO.comp (sc := sc) (cl' := cl') (C := C) hkind
  have loop : ∀ s₃ : Shared, (∃ tk, s₃ = (St s h₁ tk)) →
      codeAny (model prog w) A (.compLoop (.ListComp elt [⟨.Tuple [.Name kx pk, .Name fx pf] kk tp, iter, [], 0⟩] sc pos) 0 (.ref e) (.ref D) (compEnvC sc cl' C env)) (RR (.ref D) C) s₃ := by
    rintro s₃ ⟨tk, rfl⟩
    refine kcp_loop (fun k s' => ∃ i old l h' tk, k = xs.length - i ∧ i ≤ xs.length ∧ Rep K₀ ((C, .ns l) :: (D, .pl (outs.take i)) :: (e, enumMo I ((i : Nat) : Int) old) :: (I, listIt a i) :: led) tmp h' ∧ s' = (St s h' tk)) ?_ xs.length
      ⟨0, .none, [], h₁, tk, by exact om448 hlen hsz, by exact om449 hlen hsz, R2, rfl⟩
    rintro k s' ⟨i, old, l, h', tk', rfl, hi, R3, rfl⟩
    have R4 : Rep K₀ ((e, enumMo I ((i : Nat) : Int) old) :: (I, listIt a i) :: (C, .ns l) :: (D, .pl (outs.take i)) :: led) tmp h' := Rep.up3 (Rep.up3 R3)
    have R5 := R4
    obtain ⟨B, RB⟩ := R5
    have he : IsEnum h' e I ((i : Nat) : Int) old := RB.led.1.2.2.1
    have hit : h'.IsListIter I a i := RB.led.2.1.2.2.1
    have hei : e ≠ I := fun q => RB.led.1.2.2.2 _ (.head _) q.symm
    obtain ⟨items, hl, rl⟩ := (RB.tmp _ hm).isList RB.base
    have e1 := rl.length
    rw [Array.length_toList, List.length_map] at e1
    by_cases hlt : i < xs.length
    · obtain ⟨x, hx⟩ : ∃ x, xs[i]? = some x := ⟨_, List.getElem?_eq_getElem hlt⟩
      obtain ⟨u, hu⟩ : ∃ u, outs[i]? = some u := ⟨_, List.getElem?_eq_getElem (by exact om477 hlen e1 hlt)⟩
      obtain ⟨t, hxt, _⟩ := rl.get (i := i) (v := .int x) (by rw [List.getElem?_map, hx]; rfl)
      refine wpAny_pyNext_enum_item he hit hl (x := .int x t) (by simpa using hxt) hei fun h₂ heo hit₂ ht₂ hz₂ hk₂ => ?_
      have ei : ((i + 1 : Nat) : Int) = (i : Int) + 1 := by push_cast; rfl
      rw [← ei] at heo
      have hTe : e < h'.objs.size := Heap.lt_size he
      have R6 : Rep K₀ ((e, enumOutMo I ((i + 1 : Nat) : Int) (.int x t) h'.objs.size) :: (I, listIt a (i + 1)) :: (C, .ns l) :: (D, .pl (outs.take i)) :: led) tmp h₂ :=
        R4.upd2 (fun c o h1 h2 q => hk₂ c o h1 h2 q) fun B _ => ⟨heo, hit₂⟩
      refine wpAny_letOwnedTupleGo_enum heo fun h₃ he₃ hs₃ => ?_
      have ht₃ : h₃.IsTuple h'.objs.size #[.int i tk', .int x t] := ⟨_, (hs₃.2 _ (Nat.ne_of_gt hTe)).trans ht₂, rfl, _, rfl⟩
      have R7 : Rep K₀ ((e, enumMo I ((i + 1 : Nat) : Int) (.int x t)) :: (I, listIt a (i + 1)) :: (C, .ns l) :: (D, .pl (outs.take i)) :: led) tmp h₃ :=
        R6.upd (fun b o hb q => hs₃.extBut b o hb q) fun B _ => he₃
      refine wpAny_assign_Tuple AO.handled ht₃ rfl rfl fun h₄ hx₄ => ?_
      have R8 := R7.keeps (h' := h₄) fun b o q => hx₄ b o (Nat.ne_of_lt (Heap.lt_size q)) q
      have R9 := Rep.up3 (Rep.up3 R8)
      show wpAny _ A (assignInOrder [assign (.Name kx pk) _, assign (.Name fx pf) _] [.int (i : Int) tk', .int x t]) _ _ _
      have R10 : Rep K₀ ((C, .ns l) :: (D, .pl (outs.take i)) :: (e, enumMo I ((i + 1 : Nat) : Int) (.int x t)) :: (I, listIt a (i + 1)) :: led) tmp h₄ := R9
      refine assignInOrder_cons (wpAny_assign_Name (r_store EO' (v := .int (i : Int)) R10 hk Bear.int fun h₅ tk₅ R11 => ?_))
      refine assignInOrder_cons (wpAny_assign_Name (r_store EO' (v := .int x) R11 hf Bear.int fun h₆ tk₆ R12 => ?_))
      refine assignInOrder_nil ?_
      have R13 := Rep.loc [(fx, V.int x), (kx, V.int (i : Int))] R12 ⟨by simp [lk], by simp [lk, hne], trivial⟩
      refine wpAny_mono (turn C D i _ x u _ _ hx hu EO' R13) (fun y s₄ ⟨tm', h₇, tk₇, hb, hsub, R14, e4⟩ => ?_) fun _ _ q => q
      subst e4
      refine r_append (Rep.swap R14) (by rw [List.length_take]; exact om478 hlen hsz e1 hlt) hb fun h₈ R15 => ?_
      have e5 : outs.take i ++ [u] = outs.take (i + 1) := by rw [List.take_succ, hu]; rfl
      rw [e5] at R15
      exact ⟨xs.length - (i + 1), by exact om479 e1 hlt, i + 1, _, _, h₈, tk₇, rfl, by exact om480 e1 hlt, Rep.drop (Rep.swap R15) hsub, rfl⟩
    · have ex : i = xs.length := by exact om481 hi e1 hlt
      subst ex
      refine wpAny_pyNext_enum_end AO.handled he hit hl (by simp [e1]) fun h₂ hx₂ => ?_
      have R5 := (R4.swap.lose hx₂).dropLed
      rw [List.take_of_length_le (by exact om454 hlen)] at R5
      exact h C D _ _ _ R5
  exact codeAny_compStart_list (loop _ ⟨_, rfl⟩) (self _ _ _ _ (Rep.up2 R2) (loop _ ⟨_, rfl⟩))
theorem r_asgCompT {elt tgt iter : Expr} {y : Str} {py : Pos} {sc : Scope} {pos spos : Pos} {cl' : List (Str × Addr)} {Q : Flow → Shared → Prop} (EO : EnvOk env scope L cl qual code)
    (hsw : swapsWith (.ListComp elt [⟨tgt, iter, [], 0⟩] sc pos) (some (.Name y py)) spos.line { (default : Env) with scope := scope } = pure true)
    (hclos : closureFor sc { (default : Env) with cells := cl } = pure cl') (hkind : sc.kind = .function)
    (hnames : ∀ y ∈ sc.names, y.2 = .local → sc.names.lookup y.1 = some .local)
    (h : wpAny (model prog w) A (eval iter env) (fun xv s₁ => wpAny (model prog w) A (pyIter xv) (fun it s₂ => CompGoT prog w A env elt tgt iter sc pos cl' (fun acc C => compPost (model prog w) A E (some (assign (.Name y py) env)) (fun _ s' => Q .next s') acc C) E it s₂) E s₁) E s)
    (hs : ∀ x, foldedSetIterable iter env x = pure x := by intro _; rfl) :
    wpAny (model prog w) A (exec (.Assign [.Name y py] (.ListComp elt [⟨tgt, iter, [], 0⟩] sc pos) spos) env) Q E s := by
  rw [exec_Assign_Name_used _ _ _ _ ((swaps_is EO).trans hsw)]
  refine wpAny_bind (wpAny_standAt (wpAny_bind ?_))
  show wpAny _ A (do let _ ← comprehension (.ListComp elt [⟨tgt, iter, [], 0⟩] sc pos) sc env _ (newList []) false (eval iter env) (some (assign (.Name y py) env))) _ _ s
  exact wpAny_bind (wpAny_mono (wpAny_comprehension_free (use := some (assign (.Name y py) env)) (Q := fun _ s' => Q .next s') rfl hs ((closureFor_cells EO).trans hclos) hkind hnames h) (fun _ s' hq => wpAny_pure (wpAny_pure hq)) fun _ _ e => e)
end
end Mine

/-! V27 -/
namespace Mine
open PySem.Flt
section
variable {prog : Program} {w : World} {A : Around} {E : Value → Shared → Prop} {s : Shared} {K : Frag} {K₀ : Heap} {led : List (Nat × Mo)} {tmp : List (V × Nat)}
  {env : Env} {scope : Scope} {L : Nat} {cl : List (Str × Addr)} {qual : Str} {code : Value} {n : Nat}
/-- a, b = a list of two ints -/
theorem r_unpackList2 {t : Nat} {x y : Int} {Q : List Value → Shared → Prop} (AO : AOk A n) (R : Rep K₀ led tmp s.heap) (hm : (V.lst [.int x, .int y], t) ∈ tmp)
    (h : ∀ h' tk t1 t2, Rep K₀ led tmp h' → Q [.int x t1, .int y t2] (St s h' tk)) : wpAny (model prog w) A (unpackItems (.ref t) 2 none) Q E s := by
  have R0 := R
  obtain ⟨B, RB⟩ := R
  obtain ⟨items, hl, rl⟩ := (RB.tmp _ hm).isList RB.base
  unfold unpackItems
  refine wpAny_bind ?_
  unfold notIterableAtAll
  refine wpAny_bind (wpAny_specialOf hl.typeIs slot_list_iter.lookup ?_)
  refine wpAny_pure ?_
  simp only [Bool.false_eq_true, if_false]
  refine wpAny_bind (wpAny_holding (wpAny_pyIter_list hl ?_))
  have R1 : Rep K₀ ((s.heap.objs.size, listIt t 0) :: led) tmp (s.heap.push { cls := .type "list_iterator", data := .fields #[.ref t, .int 0 0] }) :=
    R0.fresh (push_keeps _ _) (Rep.none_at_size _) fun B' RB' => ⟨_, Heap.get?_push_size _ rfl, rfl, rfl⟩
  have W : Iter prog w A K₀ s.heap.objs.size [.int x, .int y] [(.lst [.int x, .int y], t)] fun i => listIt t i := Iter.list AO
  have ht : ∀ p ∈ [((V.lst [.int x, .int y], t) : V × Nat)], p ∈ tmp := fun p hp => by rw [List.mem_singleton.mp hp]; exact hm
  refine wpAny_bind (wpAny_holding ?_)
  show wpAny _ _ (pyNext (.ref s.heap.objs.size) >>= _) _ _ _
  refine wpAny_bind (W.item 0 (.int x) led tmp _ _ _ rfl R1 ht fun h₁ tk₁ t1 R2 => ?_)
  refine wpAny_bind (wpAny_holding ?_)
  show wpAny _ _ (pyNext (.ref s.heap.objs.size) >>= _) _ _ _
  refine wpAny_bind (W.item 1 (.int y) led tmp _ _ _ rfl R2.pop ht fun h₂ tk₂ t2 R3 => ?_)
  refine wpAny_bind (wpAny_holding ?_)
  show wpAny _ _ (pure []) _ _ _
  refine wpAny_pure (wpAny_pure (wpAny_pure ?_))
  rw [if_neg (by simp)]
  refine wpAny_bind (wpAny_holding (W.done led tmp _ _ _ R3.pop ht fun h₃ tk₃ R4 => ?_))
  simp only [Option.isSome_none, Bool.false_eq_true, if_false]
  exact wpAny_pure (h _ _ _ _ R4)
theorem r_asgList2 {t : Nat} {x y : Int} {e1 e2 : Expr} {k : Nat} {pos : Pos} {Q : Unit → Shared → Prop} (AO : AOk A n) (R : Rep K₀ led tmp s.heap) (hm : (V.lst [.int x, .int y], t) ∈ tmp)
    (hn : assignEach [e1, e2] env = [(false, assign e1 env), (false, assign e2 env)])
    (h : ∀ h' tk t1 t2, Rep K₀ led tmp h' → wpAny (model prog w) A (assign e1 env (.int x t1)) (fun _ s' => wpAny (model prog w) A (assign e2 env (.int y t2)) Q E s') E (St s h' tk)) :
    wpAny (model prog w) A (assign (.Tuple [e1, e2] k pos) env (.ref t)) Q E s := by
  rw [assign_Tuple]
  refine wpAny_bind (wpAny_standAt ?_)
  unfold unpack
  rw [hn]
  refine wpAny_bind (wpAny_holding (r_unpackList2 AO R hm fun h' tk t1 t2 R' => ?_))
  refine assignInOrder_cons (wpAny_mono (h h' tk t1 t2 R') (fun _ s' h2 => assignInOrder_cons (wpAny_mono h2 (fun _ s3 h3 => assignInOrder_nil h3) fun _ _ x => x)) fun _ _ x => x)
/-- a for whose turns go on, its name a cell -/
theorem r_forLoopC {I c : Nat} {items : List V} {tp : List (V × Nat)} {ob : Nat → Mo} {x : Str} {px : Pos} {body : List Stmt} {Q : Flow → Shared → Prop} (J : Nat → List (Str × V) → List (Nat × Mo) → Prop)
    (W : Iter prog w A K₀ I items tp ob) (EO : EnvOk env scope L cl qual code) (htp : ∀ p ∈ tp, p ∈ tmp) (hx : scope.names.lookup x = some .cell) (hc : cl.lookup x = some c)
    (turn : ∀ i v l led' (s : Shared), items[i]? = some v → J i l led' → Rep K₀ ((L, .ns l) :: (c, .cell (some v)) :: (I, ob (i + 1)) :: led') tmp s.heap →
      wpAny (model prog w) A (execs body env) (fun fl s' => fl = .next ∧ ∃ l2 led2 v2 h' tk, J (i + 1) l2 led2 ∧ Rep K₀ ((L, .ns l2) :: (c, .cell v2) :: (I, ob (i + 1)) :: led2) tmp h' ∧ s' = (St s h' tk)) (fun _ _ => False) s)
    {l : List (Str × V)} {led : List (Nat × Mo)} {v0 : Option V} (h0 : J 0 l led) (R : Rep K₀ ((L, .ns l) :: (c, .cell v0) :: (I, ob 0) :: led) tmp s.heap)
    (h : ∀ l led' v h' tk, J items.length l led' → Rep K₀ ((L, .ns l) :: (c, .cell v) :: led') tmp h' → Q .next (St s h' tk)) :
    codeAny (model prog w) A (.forLoop (.Name x px) (.ref I) body [] env) (fun r s' => match r with | .ok f => Q f s' | .error e => cameBackBy (model prog w) A env E e s') s := by
  refine codeAny_forLoop (fun k s' => ∃ i l led' v h' tk, k = items.length - i ∧ i ≤ items.length ∧ J i l led' ∧ Rep K₀ ((L, .ns l) :: (c, .cell v) :: (I, ob i) :: led') tmp h' ∧ s' = (St s h' tk)) ?_ items.length ⟨0, l, led, v0, s.heap, s.toks, by exact om482, by exact om483, h0, R, rfl⟩
  rintro k s' ⟨i, l, led', v0, h', tk, rfl, hi, hJ, R, rfl⟩
  by_cases hlt : i < items.length
  · refine W.item i items[i] _ tmp _ _ _ (by simp [hlt]) (Rep.up2 R) htp fun h₁ tk₁ t R₁ => ?_
    have R₂ : Rep K₀ ((c, .cell v0) :: (L, .ns l) :: (I, ob (i + 1)) :: led') ((items[i], t) :: tmp) h₁ := Rep.up2 R₁.swap
    refine wpAny_assign_Name (r_storeC1 EO (v := items[i]) R₂ hx hc (Bear.mem (.head _)) fun h₂ R₃ => ?_)
    refine wpAny_mono (turn i items[i] l led' _ (by simp [hlt]) hJ R₃.pop.swap) (fun fl s₃ ⟨e, l2, led2, v2, h₃, tk₃, hJ2, R₄, e3⟩ => ?_) fun _ _ f => f.elim
    subst e
    subst e3
    exact ⟨items.length - (i + 1), by exact om452 hlt, i + 1, l2, led2, v2, h₃, tk₃, rfl, by exact om412 hlt, hJ2, R₄, rfl⟩
  · have e : i = items.length := by exact om453 hi hlt
    subst e
    refine W.done _ tmp _ _ _ (Rep.up2 R) htp fun h₁ tk₁ R₁ => ?_
    exact wpAny_execs_nil (h l led' v0 _ _ hJ R₁)
end
end Mine

/-! S14 -/
namespace Mine

noncomputable def chA (m : Int) : Nat → Int
  | 0 => 1
  | i + 1 => chA m i * (m - i)
noncomputable def chB : Nat → Int
  | 0 => 1
  | i + 1 => chB i * ((i : Int) + 1)
theorem pow20 {i : Nat} (hi : i ≤ 20) : (20 : Int) ^ i ≤ 2 ^ 90 := by
  have h : 20 ^ i ≤ 20 ^ 20 := Nat.pow_le_pow_right (by decide) hi
  have h2 : (20 : Nat) ^ 20 ≤ 2 ^ 90 := by decide +kernel
  have h3 := Nat.le_trans h h2
  exact_mod_cast h3
theorem chA_bd {m : Int} (h0 : 0 ≤ m) (hm : m ≤ 20) : ∀ i : Nat, i ≤ 20 → -(20 ^ i) ≤ chA m i ∧ chA m i ≤ 20 ^ i
  | 0, _ => by simp [chA]
  | i + 1, hi => by
    have ih := chA_bd h0 hm i (by exact om66 hi)
    have hp : (0 : Int) < 20 ^ i := Int.pow_pos (by decide)
    have e : (20 : Int) ^ (i + 1) = 20 ^ i * 20 := Int.pow_succ ..
    have key : (chA m i * (m - i)).natAbs ≤ ((20 : Int) ^ i).natAbs * 20 := by
      rw [Int.natAbs_mul]
      exact Nat.mul_le_mul (by exact om67 ih hp) (by exact om68 h0 hm hi)
    simp only [chA]
    rw [e]
    exact om69 hp key
theorem chB_bd : ∀ i : Nat, i ≤ 20 → 1 ≤ chB i ∧ chB i ≤ 20 ^ i
  | 0, _ => by simp [chB]
  | i + 1, hi => by
    have ih := chB_bd i (by exact om66 hi)
    have e : (20 : Int) ^ (i + 1) = 20 ^ i * 20 := Int.pow_succ ..
    simp only [chB]
    constructor
    · have := Int.mul_le_mul_of_nonneg_left (a := 1) (b := (i : Int) + 1) (c := chB i) (by exact om70 hi) (by exact om71 ih)
      exact om72 ih this
    · rw [e]
      exact Int.mul_le_mul ih.2 (by exact om73 hi) (by exact om74 hi) (by have : (0 : Int) < 20 ^ i := Int.pow_pos (by decide); exact om75 this)

theorem spec_chosen {w : World} {A : Around} {E : Value → Shared → Prop} {s : Shared} {K₀ : Heap} {led : List (Nat × Mo)} {tmp : List (V × Nat)} {Q : Value → Shared → Prop} {k : Nat} {m : Int} {few : Nat} {tp tr : Nat}
    (AO : AOk A (k + 410)) (S : Stat (hd.heap_39 w.params) K₀) (hC : CodeHd K₀ 68 64) (hC2 : CodeHd K₀ 75 71) (R : Rep K₀ led tmp s.heap) (hT : (64, Mo.tab siteA) ∈ led) (hT2 : (71, Mo.tab siteD) ∈ led)
    (h0 : 0 ≤ m) (hm : m ≤ 20) (hf : few ≤ 20)
    (h : ∀ h' tk t, Rep K₀ led ((.tup [.int (chA m few / chB few), .int (chA m few % chB few)], t) :: tmp) h' → Q (.ref t) (St s h' tk)) :
    wpAny (model PySem.Challenge.rw_uk0010_01.row.prog w) A (call (.ref 180) [.int m tp, .int few tr]) Q E s := by
  revert AO S R h
  k_fill
  intro AO S R h
  refine' r_enter (l := [("few", .int few), ("many", .int m)]) AO S R ?ho ?hcd ?hbind ?hcell ?hloc ?hrep ?_ ?c1 ?c2 ?c3
  ((case ho => k_is); (case hcd => k_is); (case hbind => first | exact BindsTo.of_eq rfl | exact binds_K (Rep.stat R S).x rfl (by k_is) rfl rfl rfl); (case hcell => decide); (case hloc => exact locs rfl); (case c1 => rfl); (case c2 => rfl); (case c3 => rfl))
  case hrep => intro B RB; exact (show Binds tmp _ _ by ((try dsimp only [List.reverse, List.reverseAux]); repeat (first | exact Binds.nil | (refine Binds.cons ?_ ?_; (with_reducible first | exact Bear.int | exact Bear.float | exact Bear.str | exact Bear.bool | exact Bear.none | (refine' Bear.tup ?zb3; (case zb3 => (repeat (with_reducible first | exact List.mem_cons_self | refine List.mem_cons_of_mem _ ?_)))) | (refine' Bear.lst ?zb3; (case zb3 => (repeat (with_reducible first | exact List.mem_cons_self | refine List.mem_cons_of_mem _ ?_)))) | exact Bear.raw))))) B RB.tmp
  clear R AO
  intro L h₁ tk env A' AO EO R
  ((with_reducible refine wpAny_execs_cons ?_))
  refine' r_asgTup EO ?hw ?_ ?hs
  case hw => rfl
  case hs => rfl
  ((refine' r_tupE EO AO R ?_ ?zhs; (case zhs => exact of_decide_eq_true rfl); ((repeat (refine And.intro ?zc ?_; (case zc => (first | assumption | (with_unfolding_all decide +kernel) | omega)))); clear R; intro h' _ _ R; (try (first | show wpAny _ _ _ _ _ (St s h' _) | show wpAny _ _ _ _ _ (St s _ _) | show codeAny _ _ _ _ (St s _ _) | show ite _ (wpAny _ _ _ _ _ (St s _ _)) (wpAny _ _ _ _ _ (St s _ _)))))); (refine' r_asgTup2 AO R ?zhm rfl ?_; (case zhm => (repeat (with_reducible first | assumption | exact List.mem_cons_self | refine List.mem_cons_of_mem _ ?_))); clear R; intro h' _ _ R; (try (first | show wpAny _ _ _ _ _ (St s h' _) | show wpAny _ _ _ _ _ (St s _ _) | show codeAny _ _ _ _ (St s _ _) | show ite _ (wpAny _ _ _ _ _ (St s _ _)) (wpAny _ _ _ _ _ (St s _ _))))); (refine wpAny_assign_Name ?_); (refine' r_store EO R ?zhx ?zhv ?_; (case zhx => exact rfl); (case zhv => (with_reducible first | exact Bear.int | exact Bear.float | exact Bear.str | exact Bear.bool | exact Bear.none | (refine' Bear.tup ?zb3; (case zb3 => (repeat (with_reducible first | exact List.mem_cons_self | refine List.mem_cons_of_mem _ ?_)))) | (refine' Bear.lst ?zb3; (case zb3 => (repeat (with_reducible first | exact List.mem_cons_self | refine List.mem_cons_of_mem _ ?_)))) | exact Bear.raw)); clear R; intro h' _ R; (try (first | show wpAny _ _ _ _ _ (St s h' _) | show wpAny _ _ _ _ _ (St s _ _) | show codeAny _ _ _ _ (St s _ _) | show ite _ (wpAny _ _ _ _ _ (St s _ _)) (wpAny _ _ _ _ _ (St s _ _))))); (refine wpAny_assign_Name ?_); (refine' r_store EO R ?zhx ?zhv ?_; (case zhx => exact rfl); (case zhv => (with_reducible first | exact Bear.int | exact Bear.float | exact Bear.str | exact Bear.bool | exact Bear.none | (refine' Bear.tup ?zb3; (case zb3 => (repeat (with_reducible first | exact List.mem_cons_self | refine List.mem_cons_of_mem _ ?_)))) | (refine' Bear.lst ?zb3; (case zb3 => (repeat (with_reducible first | exact List.mem_cons_self | refine List.mem_cons_of_mem _ ?_)))) | exact Bear.raw)); clear R; intro h' _ R; (try (first | show wpAny _ _ _ _ _ (St s h' _) | show wpAny _ _ _ _ _ (St s _ _) | show codeAny _ _ _ _ (St s _ _) | show ite _ (wpAny _ _ _ _ _ (St s _ _)) (wpAny _ _ _ _ _ (St s _ _))))); (with_reducible refine wpAny_execs_cons ?_))
  refine wpAny_For ?_
  ((refine Call_ ?_); (refine' r_bi EO S R ?ze ?zhv ?_ ?zhn ?zhx ?zhd; (case zhx => exact rfl); (case ze => k_is); (case zhv => boot_fast); (case zhn => decide); (case zhd => decide)); (refine Pv.callWith_type1 ?_); (refine wpAny_items_cons ?_); (refine' r_locS EO R ?zhv ?zhf ?_ ?zhx ?zhd; (case zhx => exact rfl); (case zhv => exact rfl); (case zhf => exact rfl); (case zhd => decide); intro _); (with_reducible refine wpAny_items_nil ?_))
  show wpAny _ _ (call (.type "range") [.int (few : Int) _]) _ _ _
  refine' r_range1 R ?_
  clear R; intro r h' tk t u v R
  refine' r_pyIterRange1 R (k := few) ?g1 ?g2 ?g3 ?_
  case g1 => exact om76
  case g2 => decide
  case g3 => exact om77 hf
  clear R; intro I h' R
  replace R := Rep.loc [("above", V.int 1), ("below", V.int 1), ("many", V.int m)] R ⟨rfl, rfl, rfl, trivial⟩
  refine' r_forLoop (fun i l led' => l = [(("above" : Str), V.int (chA m i)), ("below", V.int (chB i)), ("many", V.int m)] ∧ led' = led)
    (Iter.range AO) EO ?htp ?hx ?turn ⟨rfl, rfl⟩ R ?_
  case htp => intro p hp; cases hp
  case hx => rfl
  case turn =>
    clear R
    rintro i v l led' t s hi ⟨rfl, rfl⟩ R
    obtain ⟨hik, rfl⟩ := rangeV_get hi
    have hi0 : (0 : Int) + (i : Int) = i := Int.zero_add _
    rw [hi0] at R
    have hmo1 : IntMulOk (chA m i) (m - (i : Int)) := IntMulOk.of_right (bits_le (by exact om78 h0 hm hf hik))
    have hmo2 : IntMulOk (chB i) ((i : Int) + 1) := IntMulOk.of_right (bits_le (by exact om79 hf hik))
    ((with_reducible refine wpAny_execs_cons ?_))
    refine' r_asgSwap EO (names := ["above", "below"]) ?hw ?_ ?hs
    case hw => rfl
    case hs => rfl
    ((with_reducible refine Tuple_ ?_); (refine wpAny_items_cons ?_); (with_reducible refine wpAny_BinOp ?_); (refine' r_locS EO R ?zhv ?zhf ?_ ?zhx ?zhd; (case zhx => exact rfl); (case zhv => exact rfl); (case zhf => exact rfl); (case zhd => decide); intro _); (refine r_ev EO AO R ?_; ((repeat (refine And.intro ?zc ?_; (case zc => (first | assumption | (with_unfolding_all decide +kernel) | omega)))); intro _ _)); (refine' r_mul ?zhe ?zhm ?_; (case zhe => with_reducible first | exact muE | exact muE2 | exact rfl); (case zhm => first | assumption | mul_fits); intro _ _); (refine wpAny_items_cons ?_); (with_reducible refine wpAny_BinOp ?_); (refine' r_locS EO R ?zhv ?zhf ?_ ?zhx ?zhd; (case zhx => exact rfl); (case zhv => exact rfl); (case zhf => exact rfl); (case zhd => decide); intro _); (refine r_ev EO AO R ?_; ((repeat (refine And.intro ?zc ?_; (case zc => (first | assumption | (with_unfolding_all decide +kernel) | omega)))); intro _ _)); (refine' r_mul ?zhe ?zhm ?_; (case zhe => with_reducible first | exact muE | exact muE2 | exact rfl); (case zhm => first | assumption | mul_fits); intro _ _); (with_reducible refine wpAny_items_nil ?_); (refine' r_newTuple R ?zhv ?_ ?zhs; (case zhv => (repeat (first | exact Bears.nil | (apply Bears.cons; (with_reducible first | exact Bear.int | exact Bear.float | exact Bear.str | exact Bear.bool | exact Bear.none | (refine' Bear.tup ?zb3; (case zb3 => (repeat (with_reducible first | exact List.mem_cons_self | refine List.mem_cons_of_mem _ ?_)))) | (refine' Bear.lst ?zb3; (case zb3 => (repeat (with_reducible first | exact List.mem_cons_self | refine List.mem_cons_of_mem _ ?_)))) | exact Bear.raw))))); (case zhs => exact of_decide_eq_true (by rfl)); clear R; intro _ h' R; (try (first | show wpAny _ _ _ _ _ (St s h' _) | show wpAny _ _ _ _ _ (St s _ _) | show codeAny _ _ _ _ (St s _ _) | show ite _ (wpAny _ _ _ _ _ (St s _ _)) (wpAny _ _ _ _ _ (St s _ _))))))
    show wpAny _ _ (unpackItems (.ref _) 2 none) _ _ _
    refine' r_unpackItems2 AO R List.mem_cons_self ?_
    clear R; intro h' t1 t2 R
    refine r_bind2 ?_
    ((refine' r_store EO R ?zhx ?zhv ?_; (case zhx => exact rfl); (case zhv => (with_reducible first | exact Bear.int | exact Bear.float | exact Bear.str | exact Bear.bool | exact Bear.none | (refine' Bear.tup ?zb3; (case zb3 => (repeat (with_reducible first | exact List.mem_cons_self | refine List.mem_cons_of_mem _ ?_)))) | (refine' Bear.lst ?zb3; (case zb3 => (repeat (with_reducible first | exact List.mem_cons_self | refine List.mem_cons_of_mem _ ?_)))) | exact Bear.raw)); clear R; intro h' _ R; (try (first | show wpAny _ _ _ _ _ (St s h' _) | show wpAny _ _ _ _ _ (St s _ _) | show codeAny _ _ _ _ (St s _ _) | show ite _ (wpAny _ _ _ _ _ (St s _ _)) (wpAny _ _ _ _ _ (St s _ _))))); (refine' r_store EO R ?zhx ?zhv ?_; (case zhx => exact rfl); (case zhv => (with_reducible first | exact Bear.int | exact Bear.float | exact Bear.str | exact Bear.bool | exact Bear.none | (refine' Bear.tup ?zb3; (case zb3 => (repeat (with_reducible first | exact List.mem_cons_self | refine List.mem_cons_of_mem _ ?_)))) | (refine' Bear.lst ?zb3; (case zb3 => (repeat (with_reducible first | exact List.mem_cons_self | refine List.mem_cons_of_mem _ ?_)))) | exact Bear.raw)); clear R; intro h' _ R; (try (first | show wpAny _ _ _ _ _ (St s h' _) | show wpAny _ _ _ _ _ (St s _ _) | show codeAny _ _ _ _ (St s _ _) | show ite _ (wpAny _ _ _ _ _ (St s _ _)) (wpAny _ _ _ _ _ (St s _ _))))); (with_reducible refine wpAny_execs_nil ?_))
    refine ⟨rfl, _, _, _, _, ⟨rfl, rfl⟩, Rep.drop (Rep.loc _ R ⟨rfl, rfl, rfl, trivial⟩) ?f5, rfl⟩
    case f5 => intro p hp; (repeat (with_reducible first | assumption | exact List.mem_cons_self | refine List.mem_cons_of_mem _ ?_))
  clear R
  rintro l led' h' tk ⟨rfl, rfl⟩ R
  rw [rangeV_length] at R
  have ha := chA_bd h0 hm few hf
  have hb := chB_bd few hf
  have hp := pow20 hf
  ((with_reducible refine wpAny_execs_cons ?_); (with_reducible refine wpAny_Return_some ?_); (refine Call_ ?_); (refine' r_glob EO S R ?ze ?_ ?zhx ?zhd; (case zhx => exact rfl); (case ze => k_is); (case zhd => decide)); (refine' callWith_K ?zx ?zk ?_; (case zx => exact S.x); (case zk => k_is)); (refine wpAny_items_cons ?_); (refine' r_locS EO R ?zhv ?zhf ?_ ?zhx ?zhd; (case zhx => exact rfl); (case zhv => exact rfl); (case zhf => exact rfl); (case zhd => decide); intro _); (refine wpAny_items_cons ?_); (refine' r_locS EO R ?zhv ?zhf ?_ ?zhx ?zhd; (case zhx => exact rfl); (case zhv => exact rfl); (case zhf => exact rfl); (case zhd => decide); intro _); (with_reducible refine wpAny_items_nil ?_); (refine ⟨(Rep.stat R S).x, ?_⟩))
  show wpAny _ _ (call (.ref 90) [.int (chA m few) _, .int (chB few) _]) _ _ _
  refine' spec_divmod (k := k) (AO.le (by exact om62)) S hC hC2 R ?m1 ?m2 ?g1 ?g2 ?g3 ?g4 ?_
  case m1 => exact .tail _ hT
  case m2 => exact .tail _ hT2
  case g1 => exact om80 ha hp
  case g2 => exact om81 ha hp
  case g3 => exact om82 hb
  case g4 => exact om83 ha hb hp
  clear R; intro h' tk t2 R
  skip
  refine h _ _ _ (Rep.drop R.dropLed ?f)
  case f => intro p hp; rcases List.mem_cons.mp hp with rfl | hp; exact .head _; (repeat (with_reducible first | assumption | exact List.mem_cons_self | refine List.mem_cons_of_mem _ ?_))

end Mine

/-! S21 -/
namespace Mine
/-- the law's body from its d-th row on -/
noncomputable def lawOf (K : Frag) (d : Nat) : Option (Scope × List Stmt) := match K.lookup 185 with
  | some ⟨_, _, .func fd, _⟩ => (match fd.body with
    | .stmts b => some (fd.scope, b.drop d)
    | _ => none)
  | _ => none
/-- what one turn of the last loop reckons -/
structure Due (p root : Nat) (c t0 t1 l0 l1 l2 times : Int) (first second few k3 mx cnt w : Nat) (due : Int) : Prop where
  hf : (p : Int).fdiv 6 * ((times * t0 - 1).fmod 6 + 1) = first
  hs : (p : Int).fdiv 6 * ((times * t1 - 1).fmod 6 + 1) = second
  hw : (p : Int) - 1 - first = few
  hk : (p : Int).fdiv 3 * times = k3
  hx : max ((first : Int) + second - p + 1) 0 = mx
  b1 : first ≤ 18
  b2 : second ≤ 18
  b3 : few ≤ 18
  b4 : k3 ≤ 40
  b5 : mx ≤ 20
  b6 : cnt ≤ 100000
  b7 : w ≤ 18
  b8 : -100 ≤ due ∧ due ≤ 100
  hc : chA second few / chB few = cnt
  hr : chA second few % chB few = 0
  hW : ((root : Int) ^ (k3 : Int).toNat).fmod p = w
  hd : ((-1 : Int) ^ ((first : Int) + 1).toNat * cnt * c ^ (mx : Int).toNat).fmod p - (if ((first : Int) + second == 2 * (p : Int) - 2) = true then 1 else 0) = due
  hz : (l0 + l1 * w + l2 * w * w - due) % p = 0
section
variable {w : World} {A : Around} {E : Value → Shared → Prop} {s : Shared} {K₀ : Heap} {led : List (Nat × Mo)} {tmp : List (V × Nat)} {Q : Value → Shared → Prop} {k : Nat}
theorem spec_chosenE {m : Int} {few cnt : Nat} {x : Int} {tp tr : Nat}
    (AO : AOk A (k + 410)) (S : Stat (hd.heap_39 w.params) K₀) (hC : CodeHd K₀ 68 64) (hC2 : CodeHd K₀ 75 71) (R : Rep K₀ led tmp s.heap) (hT : (64, Mo.tab siteA) ∈ led) (hT2 : (71, Mo.tab siteD) ∈ led)
    (h0 : 0 ≤ m) (hm : m ≤ 20) (hf : few ≤ 20) (hx : x = few) (hc : chA m few / chB few = cnt) (hr : chA m few % chB few = 0)
    (h : ∀ h' tk t, Rep K₀ led ((.tup [.int cnt, .int 0], t) :: tmp) h' → Q (.ref t) (St s h' tk)) :
    wpAny (model PySem.Challenge.rw_uk0010_01.row.prog w) A (call (.ref 180) [.int m tp, .int x tr]) Q E s := by
  subst hx
  refine spec_chosen (k := k) AO S hC hC2 R hT hT2 h0 hm hf ?_
  rw [hc, hr]
  exact h
theorem spec_divmodE {a b r : Int} {ta tb : Nat}
    (AO : AOk A (k + 403)) (S : Stat (hd.heap_39 w.params) K₀) (hC : CodeHd K₀ 68 64) (hC2 : CodeHd K₀ 75 71) (R : Rep K₀ led tmp s.heap) (hT : (64, Mo.tab siteA) ∈ led) (hT2 : (71, Mo.tab siteD) ∈ led)
    (ha0 : -(2 ^ 299) ≤ a) (ha : a < 2 ^ 299) (hb : 0 < b) (hb2 : b < 2 ^ 100) (hr : a % b = r)
    (h : ∀ h' tk t q, Rep K₀ led ((.tup [.int q, .int r], t) :: tmp) h' → Q (.ref t) (St s h' tk)) :
    wpAny (model PySem.Challenge.rw_uk0010_01.row.prog w) A (call (.ref 90) [.int a ta, .int b tb]) Q E s := by
  subst hr
  exact spec_divmod (k := k) AO S hC hC2 R hT hT2 ha0 ha hb hb2 fun h' tk t R => h h' tk t _ R
end
theorem r_maxE {prog : Program} {w : World} {A : Around} {E : Value → Shared → Prop} {s : Shared} {K₀ : Heap} {led : List (Nat × Mo)} {tmp : List (V × Nat)} {n : Nat} {a b c : Int} {t u : Tok} {Q : Value → Shared → Prop} (AO : AOk A n) (R : Rep K₀ led tmp s.heap) (e : max a b = c) (h : ∀ h' tk t, Rep K₀ led tmp h' → Q (.int c t) (St s h' tk)) :
    wpAny (model prog w) A (call (.builtin "max") [.int a t, .int b u]) Q E s := by
  subst e
  exact r_maxII AO R h
theorem mul_bd {a b m k : Int} (ha : 0 ≤ a ∧ a ≤ m) (hb : 0 ≤ b ∧ b ≤ k) : 0 ≤ a * b ∧ a * b ≤ m * k :=
  ⟨Int.mul_nonneg ha.1 hb.1, Int.mul_le_mul ha.2 hb.2 hb.1 (by exact om187 ha)⟩
theorem neg_pow_le (k : Nat) : ((-1 : Int) ^ k).natAbs = 1 := by
  induction k with
  | zero => rfl
  | succ k ih => rw [Int.pow_succ, Int.natAbs_mul, ih]; rfl
theorem law_loop {w : World} {A : Around} {E : Value → Shared → Prop} {s : Shared} {K₀ : Heap} {led : List (Nat × Mo)} {tmp : List (V × Nat)} {n : Nat} {p root : Nat} {c t0 t1 l0 l1 l2 : Int} {env : Env} {L cT cP cS : Nat} {qual : Str} {code : Value} {cl : List (Str × Addr)} {sc : Scope} {rest : List Stmt}
    (e : lawOf (hd.heap_39 w.params) 13 = some (sc, rest)) (hcl : cl = [(("times" : Str), cT), ("p", cP), ("script", cS)])
    (EO : EnvOk env sc L cl qual code) (AO : AOk A (n + 450)) (S : Stat (hd.heap_39 w.params) K₀) (hC : CodeHd K₀ 68 64) (hC2 : CodeHd K₀ 75 71)
    (R : Rep K₀ ((L, Mo.ns [("root", V.int root), ("c", V.int c), ("turns", V.lst [.int t0, .int t1]), ("lights", V.lst [.int l0, .int l1, .int l2])]) :: (cT, Mo.cell none) :: (cP, Mo.cell (some (.int p))) :: led) tmp s.heap)
    (hT : (64, Mo.tab siteA) ∈ led) (hT2 : (71, Mo.tab siteD) ∈ led) (hp : 2 ≤ p ∧ p ≤ 19) (hrt : root ≤ 3) (hc : 0 ≤ c ∧ c ≤ 19) (hl0 : 0 ≤ l0 ∧ l0 ≤ 20) (hl1 : 0 ≤ l1 ∧ l1 ≤ 20) (hl2 : 0 ≤ l2 ∧ l2 ≤ 20) (ht0 : 0 ≤ t0 ∧ t0 ≤ 6) (ht1 : 0 ≤ t1 ∧ t1 ≤ 6)
    (hdue : ∀ times : Int, times = 1 ∨ times = 5 → ∃ first second few k3 mx cnt w due, Due p root c t0 t1 l0 l1 l2 times first second few k3 mx cnt w due) :
    wpAny (model PySem.Challenge.rw_uk0010_01.row.prog w) A (execs rest env) (fun fl s' => fl = .ret (.bool true) ∧ ∃ tmp' h' tk, Rep K₀ led tmp' h' ∧ s' = (St s h' tk)) E s := by
  subst hcl
  revert S
  k_fill
  intro S
  refine' inner_is ?e0 e ?_
  case e0 => with_unfolding_all exact rfl
  intro q0
  cases q0
  clear e
  dsimp only [List.drop] at EO ⊢
  ((with_reducible refine wpAny_execs_cons ?_))
  refine wpAny_For ?_
  ((with_reducible refine List_ ?_); (refine wpAny_items_cons ?_); (with_reducible refine q_cint ?_); (refine wpAny_items_cons ?_); (with_reducible refine q_cint ?_); (with_reducible refine wpAny_items_nil ?_); (refine' r_newList R ?zhv ?_ ?zhs; (case zhv => (repeat (first | exact Bears.nil | (apply Bears.cons; (with_reducible first | exact Bear.int | exact Bear.float | exact Bear.str | exact Bear.bool | exact Bear.none | (refine' Bear.tup ?zb3; (case zb3 => (repeat (with_reducible first | exact List.mem_cons_self | refine List.mem_cons_of_mem _ ?_)))) | (refine' Bear.lst ?zb3; (case zb3 => (repeat (with_reducible first | exact List.mem_cons_self | refine List.mem_cons_of_mem _ ?_)))) | exact Bear.raw))))); (case zhs => exact of_decide_eq_true (by rfl)); clear R; intro _ h' R; (try (first | show wpAny _ _ _ _ _ (St s h' _) | show wpAny _ _ _ _ _ (St s _ _) | show codeAny _ _ _ _ (St s _ _) | show ite _ (wpAny _ _ _ _ _ (St s _ _)) (wpAny _ _ _ _ _ (St s _ _))))))
  refine' r_pyIterList R List.mem_cons_self ?_
  clear R; intro I h' R
  replace R := Rep.swap (Rep.up2 R)
  refine' r_forLoopC (fun i l led' => l = [(("root" : Str), V.int root), ("c", V.int c), ("turns", V.lst [.int t0, .int t1]), ("lights", V.lst [.int l0, .int l1, .int l2])] ∧ led' = (cP, Mo.cell (some (.int p))) :: led)
    (Iter.list AO) EO ?htp ?hx ?hc ?turn ⟨rfl, rfl⟩ R ?_
  case htp => intro p hp; rw [List.mem_singleton.mp hp]; exact List.mem_cons_self
  case hx => rfl
  case hc => rfl
  case turn =>
    clear R
    rintro i v l led' s hi ⟨rfl, rfl⟩ R
    obtain ⟨times, rfl, htm⟩ : ∃ times : Int, v = .int times ∧ (times = 1 ∨ times = 5) := by
      match i, hi with
      | 0, hi => cases hi; exact ⟨1, rfl, .inl rfl⟩
      | 1, hi => cases hi; exact ⟨5, rfl, .inr rfl⟩
    obtain ⟨first, second, few, k3, mx, cnt, ww, due, D⟩ := hdue times htm
    ((with_reducible refine wpAny_execs_cons ?_))
    refine' r_asgTup EO ?hw ?_ ?hs
    case hw => rfl
    case hs => rfl
    refine' r_listComp EO ?hclos rfl ?hnames ?_ ?hs
    case hclos => exact rfl
    case hs => intro _; rfl
    case hnames => decide
    ((refine' r_loc EO R ?zhv ?_ ?zhx ?zhd; (case zhx => exact rfl); (case zhv => exact rfl); (case zhd => decide); clear R; intro _ R))
    show wpAny _ _ (pyIter (.ref _)) _ _ _
    replace R := Rep.tmps ((V.lst [V.int t0, V.int t1], _) :: (_, _) :: tmp) R (fun q hq => by (repeat (with_reducible first | assumption | exact List.mem_cons_self | refine List.mem_cons_of_mem _ ?_)))
    refine' r_compL AO EO R ?hm (outs := [.int first, .int second]) ?g1 ?g2 ?hcell rfl ?hx ?turn ?_
    case hm => exact List.mem_cons_self
    case g1 => rfl
    case g2 => exact of_decide_eq_true rfl
    case hcell => decide
    case hx => rfl
    case turn =>
      clear R
      intro J C D' i v u t s E' hi hu EO R
      obtain ⟨tn, o, rfl, rfl, ho⟩ : ∃ (tn : Int) (o : Nat), v = .int tn ∧ u = .int o ∧ (p : Int).fdiv 6 * ((times * tn - 1).fmod 6 + 1) = o := by
        match i, hi, hu with
        | 0, hi, hu => cases hi; cases hu; exact ⟨_, _, rfl, rfl, D.hf⟩
        | 1, hi, hu => cases hi; cases hu; exact ⟨_, _, rfl, rfl, D.hs⟩
        | i + 2, hi, _ => cases hi
      have hq : 0 ≤ (p : Int).fdiv 6 ∧ (p : Int).fdiv 6 ≤ 19 := by
        rw [Int.fdiv_eq_ediv_of_nonneg _ (by decide)]; exact om188 hp
      have hm1 : IntMulOk times tn := IntMulOk.of_left (bits_le (by exact om189 htm))
      have hm2 : IntMulOk ((p : Int).fdiv 6) ((times * tn - 1).fmod 6 + 1) := IntMulOk.of_left (bits_le (by exact om190 hq))
      ((with_reducible refine wpAny_BinOp ?_); (with_reducible refine wpAny_BinOp ?_); (refine' r_cellS EO R ?zhx ?zhc ?zhm ?zhf ?_ ?zhd ?zhn; (case zhx => (first | exact Or.inl rfl | exact Or.inr rfl)); (case zhc => first | assumption | exact rfl); (case zhm => (repeat (with_reducible first | assumption | exact List.mem_cons_self | refine List.mem_cons_of_mem _ ?_))); (case zhf => exact rfl); (case zhd => decide); (case zhn => decide); intro _); (with_reducible refine q_cint ?_); (refine' r_div ?zhb ?zhp ?_; (case zhb => (first | exact om114 | assumption | decide)); (case zhp => (first | exact om191 | assumption | decide)); intro _ _); (with_reducible refine wpAny_BinOp ?_); (with_reducible refine wpAny_BinOp ?_); (with_reducible refine wpAny_BinOp ?_); (with_reducible refine wpAny_BinOp ?_); (refine' r_cellS EO R ?zhx ?zhc ?zhm ?zhf ?_ ?zhd ?zhn; (case zhx => (first | exact Or.inl rfl | exact Or.inr rfl)); (case zhc => first | assumption | exact rfl); (case zhm => (repeat (with_reducible first | assumption | exact List.mem_cons_self | refine List.mem_cons_of_mem _ ?_))); (case zhf => exact rfl); (case zhd => decide); (case zhn => decide); intro _); (refine' r_locS EO R ?zhv ?zhf ?_ ?zhx ?zhd; (case zhx => exact rfl); (case zhv => exact rfl); (case zhf => exact rfl); (case zhd => decide); intro _); (refine' r_mul ?zhe ?zhm ?_; (case zhe => with_reducible first | exact muE | exact muE2 | exact rfl); (case zhm => first | assumption | mul_fits); intro _ _); (with_reducible refine q_cint ?_); (with_reducible refine q_subi ?_); (with_reducible refine q_cint ?_); (refine' q_modi (b := _) ?zhb ?_; (case zhb => (first | exact om114 | assumption | decide))); (with_reducible refine q_cint ?_); (with_reducible refine q_addi ?_); (refine' r_mul ?zhe ?zhm ?_; (case zhe => with_reducible first | exact muE | exact muE2 | exact rfl); (case zhm => first | assumption | mul_fits); intro _ _))
      exact ⟨_, _, _, Bear.intE ho, fun q hq => by (repeat (with_reducible first | assumption | exact List.mem_cons_self | refine List.mem_cons_of_mem _ ?_)), R, rfl⟩
    clear R
    intro C D' l h' tk R0
    refine compEnd R0 fun h' R => ?_
    clear R0
    (first | show wpAny _ _ _ _ _ (St s h' _) | show wpAny _ _ _ _ _ (St s _ _) | show codeAny _ _ _ _ (St s _ _) | show ite _ (wpAny _ _ _ _ _ (St s _ _)) (wpAny _ _ _ _ _ (St s _ _)))
    refine' r_asgList2 AO R List.mem_cons_self rfl ?_
    clear R; intro h' tk tf ts R
    (first | show wpAny _ _ _ _ _ (St s h' _) | show wpAny _ _ _ _ _ (St s _ _) | show codeAny _ _ _ _ (St s _ _) | show ite _ (wpAny _ _ _ _ _ (St s _ _)) (wpAny _ _ _ _ _ (St s _ _)))
    ((refine wpAny_assign_Name ?_); (refine' r_store EO R ?zhx ?zhv ?_; (case zhx => exact rfl); (case zhv => (with_reducible first | exact Bear.int | exact Bear.float | exact Bear.str | exact Bear.bool | exact Bear.none | (refine' Bear.tup ?zb3; (case zb3 => (repeat (with_reducible first | exact List.mem_cons_self | refine List.mem_cons_of_mem _ ?_)))) | (refine' Bear.lst ?zb3; (case zb3 => (repeat (with_reducible first | exact List.mem_cons_self | refine List.mem_cons_of_mem _ ?_)))) | exact Bear.raw)); clear R; intro h' _ R; (try (first | show wpAny _ _ _ _ _ (St s h' _) | show wpAny _ _ _ _ _ (St s _ _) | show codeAny _ _ _ _ (St s _ _) | show ite _ (wpAny _ _ _ _ _ (St s _ _)) (wpAny _ _ _ _ _ (St s _ _))))); (refine wpAny_assign_Name ?_); (refine' r_store EO R ?zhx ?zhv ?_; (case zhx => exact rfl); (case zhv => (with_reducible first | exact Bear.int | exact Bear.float | exact Bear.str | exact Bear.bool | exact Bear.none | (refine' Bear.tup ?zb3; (case zb3 => (repeat (with_reducible first | exact List.mem_cons_self | refine List.mem_cons_of_mem _ ?_)))) | (refine' Bear.lst ?zb3; (case zb3 => (repeat (with_reducible first | exact List.mem_cons_self | refine List.mem_cons_of_mem _ ?_)))) | exact Bear.raw)); clear R; intro h' _ R; (try (first | show wpAny _ _ _ _ _ (St s h' _) | show wpAny _ _ _ _ _ (St s _ _) | show codeAny _ _ _ _ (St s _ _) | show ite _ (wpAny _ _ _ _ _ (St s _ _)) (wpAny _ _ _ _ _ (St s _ _))))); (with_reducible refine wpAny_execs_cons ?_); (refine Assign_Tuple ?_); (refine Call_ ?_); (refine' r_glob EO S R ?ze ?_ ?zhx ?zhd; (case zhx => exact rfl); (case ze => k_is); (case zhd => decide)); (refine' callWith_K ?zx ?zk ?_; (case zx => exact S.x); (case zk => k_is)); (refine wpAny_items_cons ?_); (refine' r_locS EO R ?zhv ?zhf ?_ ?zhx ?zhd; (case zhx => exact rfl); (case zhv => exact rfl); (case zhf => exact rfl); (case zhd => decide); intro _); (refine wpAny_items_cons ?_); (with_reducible refine wpAny_BinOp ?_); (with_reducible refine wpAny_BinOp ?_); (refine' r_cellS EO R ?zhx ?zhc ?zhm ?zhf ?_ ?zhd ?zhn; (case zhx => (first | exact Or.inl rfl | exact Or.inr rfl)); (case zhc => first | assumption | exact rfl); (case zhm => (repeat (with_reducible first | assumption | exact List.mem_cons_self | refine List.mem_cons_of_mem _ ?_))); (case zhf => exact rfl); (case zhd => decide); (case zhn => decide); intro _); (with_reducible refine q_cint ?_); (with_reducible refine q_subi ?_); (refine' r_locS EO R ?zhv ?zhf ?_ ?zhx ?zhd; (case zhx => exact rfl); (case zhv => exact rfl); (case zhf => exact rfl); (case zhd => decide); intro _); (with_reducible refine q_subi ?_); (with_reducible refine wpAny_items_nil ?_); (refine ⟨(Rep.stat R S).x, ?_⟩))
    replace R := Rep.loc [("second", V.int (second : Int)), ("first", V.int (first : Int)), ("root", V.int root), ("c", V.int c), ("turns", V.lst [.int t0, .int t1]), ("lights", V.lst [.int l0, .int l1, .int l2])] R ⟨rfl, rfl, rfl, rfl, rfl, rfl, trivial⟩
    (first | show wpAny _ _ _ _ _ (St s h' _) | show wpAny _ _ _ _ _ (St s _ _) | show codeAny _ _ _ _ (St s _ _) | show ite _ (wpAny _ _ _ _ _ (St s _ _)) (wpAny _ _ _ _ _ (St s _ _)))
    show wpAny _ _ (call (.ref 180) [.int (second : Int) _, .int ((p : Int) - 1 - (first : Int)) _]) _ _ _
    have b2 := D.b2
    refine' spec_chosenE (k := n) (few := few) (cnt := cnt) (AO.le (by exact om192)) S hC hC2 R ?m1 ?m2 ?g1 ?g2 ?g3 D.hw D.hc D.hr ?_
    case m1 => iterate 4 (with_reducible refine List.mem_cons_of_mem _ ?_)
               exact hT
    case m2 => iterate 4 (with_reducible refine List.mem_cons_of_mem _ ?_)
               exact hT2
    case g1 => exact om193 b2
    case g2 => exact om194 b2
    case g3 => have := D.b3; exact om195 this
    clear R; intro h' tk tt R
    (first | show wpAny _ _ _ _ _ (St s h' _) | show wpAny _ _ _ _ _ (St s _ _) | show codeAny _ _ _ _ (St s _ _) | show ite _ (wpAny _ _ _ _ _ (St s _ _)) (wpAny _ _ _ _ _ (St s _ _)))
    have muE : (p : Int).fdiv 3 * times = (k3 : Int) := D.hk
    have hq3 : 0 ≤ (p : Int).fdiv 3 ∧ (p : Int).fdiv 3 ≤ 19 := by
      rw [Int.fdiv_eq_ediv_of_nonneg _ (by decide)]; exact om196 hp
    have hm1 : IntMulOk ((p : Int).fdiv 3) times := IntMulOk.of_left (bits_le (by exact om190 hq3))
    have b4 := D.b4
    ((refine' r_asgTup2 AO R ?zhm rfl ?_; (case zhm => (repeat (with_reducible first | assumption | exact List.mem_cons_self | refine List.mem_cons_of_mem _ ?_))); clear R; intro h' _ _ R; (try (first | show wpAny _ _ _ _ _ (St s h' _) | show wpAny _ _ _ _ _ (St s _ _) | show codeAny _ _ _ _ (St s _ _) | show ite _ (wpAny _ _ _ _ _ (St s _ _)) (wpAny _ _ _ _ _ (St s _ _))))); (refine wpAny_assign_Name ?_); (refine' r_store EO R ?zhx ?zhv ?_; (case zhx => exact rfl); (case zhv => (with_reducible first | exact Bear.int | exact Bear.float | exact Bear.str | exact Bear.bool | exact Bear.none | (refine' Bear.tup ?zb3; (case zb3 => (repeat (with_reducible first | exact List.mem_cons_self | refine List.mem_cons_of_mem _ ?_)))) | (refine' Bear.lst ?zb3; (case zb3 => (repeat (with_reducible first | exact List.mem_cons_self | refine List.mem_cons_of_mem _ ?_)))) | exact Bear.raw)); clear R; intro h' _ R; (try (first | show wpAny _ _ _ _ _ (St s h' _) | show wpAny _ _ _ _ _ (St s _ _) | show codeAny _ _ _ _ (St s _ _) | show ite _ (wpAny _ _ _ _ _ (St s _ _)) (wpAny _ _ _ _ _ (St s _ _))))); (refine wpAny_assign_Name ?_); (refine' r_store EO R ?zhx ?zhv ?_; (case zhx => exact rfl); (case zhv => (with_reducible first | exact Bear.int | exact Bear.float | exact Bear.str | exact Bear.bool | exact Bear.none | (refine' Bear.tup ?zb3; (case zb3 => (repeat (with_reducible first | exact List.mem_cons_self | refine List.mem_cons_of_mem _ ?_)))) | (refine' Bear.lst ?zb3; (case zb3 => (repeat (with_reducible first | exact List.mem_cons_self | refine List.mem_cons_of_mem _ ?_)))) | exact Bear.raw)); clear R; intro h' _ R; (try (first | show wpAny _ _ _ _ _ (St s h' _) | show wpAny _ _ _ _ _ (St s _ _) | show codeAny _ _ _ _ (St s _ _) | show ite _ (wpAny _ _ _ _ _ (St s _ _)) (wpAny _ _ _ _ _ (St s _ _))))); (with_reducible refine wpAny_execs_cons ?_); (refine wpAny_Assign_Name ?_); (with_reducible refine wpAny_BinOp ?_); (with_reducible refine wpAny_BinOp ?_); (refine' r_locS EO R ?zhv ?zhf ?_ ?zhx ?zhd; (case zhx => exact rfl); (case zhv => exact rfl); (case zhf => exact rfl); (case zhd => decide); intro _); (with_reducible refine wpAny_BinOp ?_); (with_reducible refine wpAny_BinOp ?_); (refine' r_cellS EO R ?zhx ?zhc ?zhm ?zhf ?_ ?zhd ?zhn; (case zhx => (first | exact Or.inl rfl | exact Or.inr rfl)); (case zhc => first | assumption | exact rfl); (case zhm => (repeat (with_reducible first | assumption | exact List.mem_cons_self | refine List.mem_cons_of_mem _ ?_))); (case zhf => exact rfl); (case zhd => decide); (case zhn => decide); intro _); (with_reducible refine q_cint ?_); (refine' r_div ?zhb ?zhp ?_; (case zhb => (first | exact om58 | assumption | decide)); (case zhp => (first | exact om197 | assumption | decide)); intro _ _); (refine' r_cellS EO R ?zhx ?zhc ?zhm ?zhf ?_ ?zhd ?zhn; (case zhx => (first | exact Or.inl rfl | exact Or.inr rfl)); (case zhc => first | assumption | exact rfl); (case zhm => (repeat (with_reducible first | assumption | exact List.mem_cons_self | refine List.mem_cons_of_mem _ ?_))); (case zhf => exact rfl); (case zhd => decide); (case zhn => decide); intro _); (refine' r_mul ?zhe ?zhm ?_; (case zhe => with_reducible first | exact muE | exact muE2 | exact rfl); (case zhm => first | assumption | mul_fits); intro _ _); (refine' r_powE ?zhe ?zh0 ?zhk ?zha ?_; (case zhe => with_reducible first | exact pwE | exact pwE2 | exact pwE3 | exact rfl); (case zh0 => exact om198 b4); (case zhk => exact om199 b4); (case zha => exact om200 hrt); intro _ _); (refine' r_cellS EO R ?zhx ?zhc ?zhm ?zhf ?_ ?zhd ?zhn; (case zhx => (first | exact Or.inl rfl | exact Or.inr rfl)); (case zhc => first | assumption | exact rfl); (case zhm => (repeat (with_reducible first | assumption | exact List.mem_cons_self | refine List.mem_cons_of_mem _ ?_))); (case zhf => exact rfl); (case zhd => decide); (case zhn => decide); intro _); (refine' q_modi (b := _) ?zhb ?_; (case zhb => (first | exact om201 hp | assumption | decide))); (refine' r_store EO R ?zhx ?zhv ?_; (case zhx => exact rfl); (case zhv => (with_reducible first | exact Bear.int | exact Bear.float | exact Bear.str | exact Bear.bool | exact Bear.none | (refine' Bear.tup ?zb3; (case zb3 => (repeat (with_reducible first | exact List.mem_cons_self | refine List.mem_cons_of_mem _ ?_)))) | (refine' Bear.lst ?zb3; (case zb3 => (repeat (with_reducible first | exact List.mem_cons_self | refine List.mem_cons_of_mem _ ?_)))) | exact Bear.raw)); clear R; intro h' _ R; (try (first | show wpAny _ _ _ _ _ (St s h' _) | show wpAny _ _ _ _ _ (St s _ _) | show codeAny _ _ _ _ (St s _ _) | show ite _ (wpAny _ _ _ _ _ (St s _ _)) (wpAny _ _ _ _ _ (St s _ _))))); (with_reducible refine wpAny_execs_cons ?_); (refine wpAny_Assign_Name ?_); (with_reducible refine wpAny_BinOp ?_); (with_reducible refine wpAny_BinOp ?_); (with_reducible refine wpAny_BinOp ?_); (with_reducible refine wpAny_BinOp ?_); (with_reducible refine wpAny_BinOp ?_); (with_reducible refine wpAny_UnaryOp ?_); (with_reducible refine q_cint ?_); (with_reducible refine q_negi ?_); (refine r_ev EO AO R ?_; ((repeat (refine And.intro ?zc ?_; (case zc => (first | assumption | (with_unfolding_all decide +kernel) | omega)))); intro _ _)))
    replace R := Rep.loc [("w", V.int (ww : Int)), ("count", V.int (cnt : Int)), ("rest", V.int 0), ("second", V.int (second : Int)), ("first", V.int (first : Int)), ("root", V.int root), ("c", V.int c), ("turns", V.lst [.int t0, .int t1]), ("lights", V.lst [.int l0, .int l1, .int l2])] R ⟨by rw [← D.hW]; rfl, rfl, rfl, rfl, rfl, rfl, rfl, rfl, rfl, trivial⟩
    replace R := Rep.tmps ((V.lst [V.int 1, V.int 5], _) :: tmp) R (fun q hq => by (repeat (with_reducible first | assumption | exact List.mem_cons_self | refine List.mem_cons_of_mem _ ?_)))
    (first | show wpAny _ _ _ _ _ (St s h' _) | show wpAny _ _ _ _ _ (St s _ _) | show codeAny _ _ _ _ (St s _ _) | show ite _ (wpAny _ _ _ _ _ (St s _ _)) (wpAny _ _ _ _ _ (St s _ _)))
    have b1 := D.b1
    have hmA : IntMulOk ((-1 : Int) ^ ((first : Int) + 1).toNat) (cnt : Int) := IntMulOk.of_left (bits_le (by rw [neg_pow_le]; decide))
    ((refine' r_powE ?zhe ?zh0 ?zhk ?zha ?_; (case zhe => with_reducible first | exact pwE | exact pwE2 | exact pwE3 | exact rfl); (case zh0 => exact om202 b1); (case zhk => exact om203 b1); (case zha => exact om204); intro _ _); (refine' r_locS EO R ?zhv ?zhf ?_ ?zhx ?zhd; (case zhx => exact rfl); (case zhv => exact rfl); (case zhf => exact rfl); (case zhd => decide); intro _); (refine' r_mul ?zhe ?zhm ?_; (case zhe => with_reducible first | exact muE | exact muE2 | exact rfl); (case zhm => first | assumption | mul_fits); intro _ _); (with_reducible refine wpAny_BinOp ?_); (refine' r_locS EO R ?zhv ?zhf ?_ ?zhx ?zhd; (case zhx => exact rfl); (case zhv => exact rfl); (case zhf => exact rfl); (case zhd => decide); intro _); (refine Call_ ?_); (refine' r_bi EO S R ?ze ?zhv ?_ ?zhn ?zhx ?zhd; (case zhx => exact rfl); (case ze => k_is); (case zhv => boot_fast); (case zhn => decide); (case zhd => decide)); (refine callWith_method1 ?_); (refine wpAny_items_cons ?_); (with_reducible refine wpAny_BinOp ?_); (with_reducible refine wpAny_BinOp ?_); (refine r_ev EO AO R ?_; ((repeat (refine And.intro ?zc ?_; (case zc => (first | assumption | (with_unfolding_all decide +kernel) | omega)))); intro _ _)); (refine' r_cellS EO R ?zhx ?zhc ?zhm ?zhf ?_ ?zhd ?zhn; (case zhx => (first | exact Or.inl rfl | exact Or.inr rfl)); (case zhc => first | assumption | exact rfl); (case zhm => (repeat (with_reducible first | assumption | exact List.mem_cons_self | refine List.mem_cons_of_mem _ ?_))); (case zhf => exact rfl); (case zhd => decide); (case zhn => decide); intro _); (with_reducible refine q_subi ?_); (with_reducible refine q_cint ?_); (with_reducible refine q_addi ?_); (refine wpAny_items_cons ?_); (with_reducible refine q_cint ?_); (with_reducible refine wpAny_items_nil ?_))
    show wpAny _ _ (call (.builtin "max") [.int ((first : Int) + second - p + 1) _, .int 0 _]) _ _ _
    refine' r_maxE AO R D.hx ?_
    clear R; intro h' tk tm R
    (first | show wpAny _ _ _ _ _ (St s h' _) | show wpAny _ _ _ _ _ (St s _ _) | show codeAny _ _ _ _ (St s _ _) | show ite _ (wpAny _ _ _ _ _ (St s _ _)) (wpAny _ _ _ _ _ (St s _ _)))
    have b5 := D.b5
    have b6 := D.b6
    have hmB : IntMulOk ((-1 : Int) ^ ((first : Int) + 1).toNat * (cnt : Int)) (c ^ (mx : Int).toNat) := IntMulOk.of_left (bits_le (by rw [Int.natAbs_mul, neg_pow_le]; exact om205 b6))
    have hm2p : IntMulOk 2 (p : Int) := IntMulOk.of_left (bits_le (by decide))
    ((refine' r_powE ?zhe ?zh0 ?zhk ?zha ?_; (case zhe => with_reducible first | exact pwE | exact pwE2 | exact pwE3 | exact rfl); (case zh0 => exact om206 b5); (case zhk => exact om207 b5); (case zha => exact om190 hc); intro _ _); (refine' r_mul ?zhe ?zhm ?_; (case zhe => with_reducible first | exact muE | exact muE2 | exact rfl); (case zhm => first | assumption | mul_fits); intro _ _); (refine' r_cellS EO R ?zhx ?zhc ?zhm ?zhf ?_ ?zhd ?zhn; (case zhx => (first | exact Or.inl rfl | exact Or.inr rfl)); (case zhc => first | assumption | exact rfl); (case zhm => (repeat (with_reducible first | assumption | exact List.mem_cons_self | refine List.mem_cons_of_mem _ ?_))); (case zhf => exact rfl); (case zhd => decide); (case zhn => decide); intro _); (refine' q_modi (b := _) ?zhb ?_; (case zhb => (first | exact om201 hp | assumption | decide))); (refine Call_ ?_); (refine' r_bi EO S R ?ze ?zhv ?_ ?zhn ?zhx ?zhd; (case zhx => exact rfl); (case ze => k_is); (case zhv => boot_fast); (case zhn => decide); (case zhd => decide)); (refine Pv.callWith_type1 ?_); (refine wpAny_items_cons ?_); (with_reducible refine wpAny_Compare1 ?_); (refine r_ev EO AO R ?_; ((repeat (refine And.intro ?zc ?_; (case zc => (first | assumption | (with_unfolding_all decide +kernel) | omega)))); intro _ _)); (with_reducible refine wpAny_BinOp ?_); (with_reducible refine wpAny_BinOp ?_); (with_reducible refine q_cint ?_); (refine' r_cellS EO R ?zhx ?zhc ?zhm ?zhf ?_ ?zhd ?zhn; (case zhx => (first | exact Or.inl rfl | exact Or.inr rfl)); (case zhc => first | assumption | exact rfl); (case zhm => (repeat (with_reducible first | assumption | exact List.mem_cons_self | refine List.mem_cons_of_mem _ ?_))); (case zhf => exact rfl); (case zhd => decide); (case zhn => decide); intro _); (refine' r_mul ?zhe ?zhm ?_; (case zhe => with_reducible first | exact muE | exact muE2 | exact rfl); (case zhm => first | assumption | mul_fits); intro _ _); (with_reducible refine q_cint ?_); (with_reducible refine q_subi ?_); (with_reducible refine P.eq_int ?_); (with_reducible refine wpAny_items_nil ?_); (with_reducible refine call_int_bool ?_); (with_reducible refine q_subi ?_); (refine' r_store EO R ?zhx ?zhv ?_; (case zhx => exact rfl); (case zhv => (with_reducible first | exact Bear.int | exact Bear.float | exact Bear.str | exact Bear.bool | exact Bear.none | (refine' Bear.tup ?zb3; (case zb3 => (repeat (with_reducible first | exact List.mem_cons_self | refine List.mem_cons_of_mem _ ?_)))) | (refine' Bear.lst ?zb3; (case zb3 => (repeat (with_reducible first | exact List.mem_cons_self | refine List.mem_cons_of_mem _ ?_)))) | exact Bear.raw)); clear R; intro h' _ R; (try (first | show wpAny _ _ _ _ _ (St s h' _) | show wpAny _ _ _ _ _ (St s _ _) | show codeAny _ _ _ _ (St s _ _) | show ite _ (wpAny _ _ _ _ _ (St s _ _)) (wpAny _ _ _ _ _ (St s _ _))))); (with_reducible refine wpAny_execs_cons ?_); (with_reducible refine wpAny_If ?_); (with_reducible refine wpAny_isTrue_BoolOp ?_); (with_reducible refine wpAny_allTrue_Or_cons ?_); (with_reducible refine wpAny_isTrue_Compare1 ?_); (refine' r_locS EO R ?zhv ?zhf ?_ ?zhx ?zhd; (case zhx => exact rfl); (case zhv => exact rfl); (case zhf => exact rfl); (case zhd => decide); intro _); (with_reducible refine q_cint ?_); (with_reducible refine P.ne_int ?_); (with_reducible refine wpAny_truthy_bool ?_))
    replace R := Rep.loc [("due", V.int due), ("w", V.int (ww : Int)), ("count", V.int (cnt : Int)), ("rest", V.int 0), ("second", V.int (second : Int)), ("first", V.int (first : Int)), ("root", V.int root), ("c", V.int c), ("turns", V.lst [.int t0, .int t1]), ("lights", V.lst [.int l0, .int l1, .int l2])] R ⟨by rw [← D.hd]; rfl, rfl, rfl, rfl, rfl, rfl, rfl, rfl, rfl, rfl, trivial⟩
    replace R := Rep.tmps ((V.lst [V.int 1, V.int 5], _) :: tmp) R (fun q hq => by (repeat (with_reducible first | assumption | exact List.mem_cons_self | refine List.mem_cons_of_mem _ ?_)))
    (first | show wpAny _ _ _ _ _ (St s h' _) | show wpAny _ _ _ _ _ (St s _ _) | show codeAny _ _ _ _ (St s _ _) | show ite _ (wpAny _ _ _ _ _ (St s _ _)) (wpAny _ _ _ _ _ (St s _ _)))
    have b7 := D.b7
    have hmC : IntMulOk l1 (ww : Int) := IntMulOk.of_left (bits_le (by exact om208 hl1))
    have hmD : IntMulOk l2 (ww : Int) := IntMulOk.of_left (bits_le (by exact om208 hl2))
    have hmE : IntMulOk (l2 * (ww : Int)) (ww : Int) := IntMulOk.of_right (bits_le (by exact om209 b7))
    ((with_reducible refine wpAny_allTrue_Or_cons ?_); (with_reducible refine wpAny_isTrue_Compare1 ?_); (refine Subscript_ ?_); (refine Call_ ?_); (refine' r_glob EO S R ?ze ?_ ?zhx ?zhd; (case zhx => exact rfl); (case ze => k_is); (case zhd => decide)); (refine' callWith_K ?zx ?zk ?_; (case zx => exact S.x); (case zk => k_is)); (refine wpAny_items_cons ?_); (with_reducible refine wpAny_BinOp ?_); (with_reducible refine wpAny_BinOp ?_); (with_reducible refine wpAny_BinOp ?_); (refine Subscript_ ?_); (refine' r_loc EO R ?zhv ?_ ?zhx ?zhd; (case zhx => exact rfl); (case zhv => exact rfl); (case zhd => decide); clear R; intro _ R); (with_reducible refine q_cint ?_); (refine' r_itemL R ?zhm ?zi1 ?zi2 ?zhv ?_ ?zhs; (case zhm => (repeat (with_reducible first | assumption | exact List.mem_cons_self | refine List.mem_cons_of_mem _ ?_))); (case zhs => with_unfolding_all rfl); (case zhv => first | with_reducible assumption | exact rfl); (case zi1 => exact om110); (case zi2 => exact om111); clear R; intro _ R); (with_reducible refine wpAny_BinOp ?_); (refine Subscript_ ?_); (refine' r_loc EO R ?zhv ?_ ?zhx ?zhd; (case zhx => exact rfl); (case zhv => exact rfl); (case zhd => decide); clear R; intro _ R); (with_reducible refine q_cint ?_); (refine' r_itemL R ?zhm ?zi1 ?zi2 ?zhv ?_ ?zhs; (case zhm => (repeat (with_reducible first | assumption | exact List.mem_cons_self | refine List.mem_cons_of_mem _ ?_))); (case zhs => with_unfolding_all rfl); (case zhv => first | with_reducible assumption | exact rfl); (case zi1 => exact om21); (case zi2 => exact om22); clear R; intro _ R); (refine' r_locS EO R ?zhv ?zhf ?_ ?zhx ?zhd; (case zhx => exact rfl); (case zhv => exact rfl); (case zhf => exact rfl); (case zhd => decide); intro _); (refine' r_mul ?zhe ?zhm ?_; (case zhe => with_reducible first | exact muE | exact muE2 | exact rfl); (case zhm => first | assumption | mul_fits); intro _ _); (with_reducible refine q_addi ?_); (with_reducible refine wpAny_BinOp ?_); (with_reducible refine wpAny_BinOp ?_); (refine Subscript_ ?_); (refine' r_loc EO R ?zhv ?_ ?zhx ?zhd; (case zhx => exact rfl); (case zhv => exact rfl); (case zhd => decide); clear R; intro _ R); (with_reducible refine q_cint ?_); (refine' r_itemL R ?zhm ?zi1 ?zi2 ?zhv ?_ ?zhs; (case zhm => (repeat (with_reducible first | assumption | exact List.mem_cons_self | refine List.mem_cons_of_mem _ ?_))); (case zhs => with_unfolding_all rfl); (case zhv => first | with_reducible assumption | exact rfl); (case zi1 => exact om156); (case zi2 => exact om157); clear R; intro _ R); (refine' r_locS EO R ?zhv ?zhf ?_ ?zhx ?zhd; (case zhx => exact rfl); (case zhv => exact rfl); (case zhf => exact rfl); (case zhd => decide); intro _); (refine' r_mul ?zhe ?zhm ?_; (case zhe => with_reducible first | exact muE | exact muE2 | exact rfl); (case zhm => first | assumption | mul_fits); intro _ _); (refine' r_locS EO R ?zhv ?zhf ?_ ?zhx ?zhd; (case zhx => exact rfl); (case zhv => exact rfl); (case zhf => exact rfl); (case zhd => decide); intro _); (refine' r_mul ?zhe ?zhm ?_; (case zhe => with_reducible first | exact muE | exact muE2 | exact rfl); (case zhm => first | assumption | mul_fits); intro _ _); (with_reducible refine q_addi ?_); (refine' r_locS EO R ?zhv ?zhf ?_ ?zhx ?zhd; (case zhx => exact rfl); (case zhv => exact rfl); (case zhf => exact rfl); (case zhd => decide); intro _); (with_reducible refine q_subi ?_); (refine wpAny_items_cons ?_); (refine' r_cellS EO R ?zhx ?zhc ?zhm ?zhf ?_ ?zhd ?zhn; (case zhx => (first | exact Or.inl rfl | exact Or.inr rfl)); (case zhc => first | assumption | exact rfl); (case zhm => (repeat (with_reducible first | assumption | exact List.mem_cons_self | refine List.mem_cons_of_mem _ ?_))); (case zhf => exact rfl); (case zhd => decide); (case zhn => decide); intro _); (with_reducible refine wpAny_items_nil ?_); (refine ⟨(Rep.stat R S).x, ?_⟩))
    (first | show wpAny _ _ _ _ _ (St s h' _) | show wpAny _ _ _ _ _ (St s _ _) | show codeAny _ _ _ _ (St s _ _) | show ite _ (wpAny _ _ _ _ _ (St s _ _)) (wpAny _ _ _ _ _ (St s _ _)))
    show wpAny _ _ (call (.ref 90) [.int (l0 + l1 * ww + l2 * ww * ww - due) _, .int (p : Int) _]) _ _ _
    have hq1 := mul_bd hl1 (show (0 : Int) ≤ ww ∧ (ww : Int) ≤ 18 by exact om210 b7)
    have hq2 := mul_bd hl2 (show (0 : Int) ≤ ww ∧ (ww : Int) ≤ 18 by exact om210 b7)
    have hq3 := mul_bd hq2 (show (0 : Int) ≤ ww ∧ (ww : Int) ≤ 18 by exact om210 b7)
    have b8 := D.b8
    refine' spec_divmodE (k := n) (r := 0) (AO.le (by exact om211)) S hC hC2 R ?m1 ?m2 ?g1 ?g2 ?g3 ?g4 D.hz ?_
    case m1 => iterate 4 (with_reducible refine List.mem_cons_of_mem _ ?_)
               exact hT
    case m2 => iterate 4 (with_reducible refine List.mem_cons_of_mem _ ?_)
               exact hT2
    case g1 => exact om212 hl0 hq1 hq3 b8
    case g2 => exact om213 hl0 hq1 hq3 b8
    case g3 => exact om214 hp
    case g4 => exact om215 hp
    clear R; intro h' tk tx qx R
    (first | show wpAny _ _ _ _ _ (St s h' _) | show wpAny _ _ _ _ _ (St s _ _) | show codeAny _ _ _ _ (St s _ _) | show ite _ (wpAny _ _ _ _ _ (St s _ _)) (wpAny _ _ _ _ _ (St s _ _)))
    ((with_reducible refine q_cint ?_); (refine' r_itemT R ?zhm ?zi1 ?zi2 ?zhv ?_ ?zhs; (case zhm => (repeat (with_reducible first | assumption | exact List.mem_cons_self | refine List.mem_cons_of_mem _ ?_))); (case zhs => with_unfolding_all rfl); (case zhv => first | with_reducible assumption | exact rfl); (case zi1 => exact om21); (case zi2 => exact om22); clear R; intro _ R); (with_reducible refine q_cint ?_); (with_reducible refine P.ne_int ?_); (with_reducible refine wpAny_truthy_bool ?_))
    (first | show wpAny _ _ _ _ _ (St s h' _) | show wpAny _ _ _ _ _ (St s _ _) | show codeAny _ _ _ _ (St s _ _) | show ite _ (wpAny _ _ _ _ _ (St s _ _)) (wpAny _ _ _ _ _ (St s _ _)))
    ((with_reducible refine wpAny_allTrue_Or_nil ?_); (refine PySem.W.ite_neg (by (first | (with_reducible exact Bool.false_ne_true) | (simp only [decide_eq_true_eq, beq_iff_eq, bne_iff_ne, ne_eq, Bool.false_eq_true, not_false_eq_true]; first | done | assumption | omega) | omega)) ?_); (with_reducible refine wpAny_execs_nil ?_); (with_reducible refine wpAny_execs_nil ?_))
    exact ⟨rfl, _, _, _, _, _, ⟨rfl, rfl⟩, Rep.tmps _ (Rep.loc _ R ⟨rfl, rfl, rfl, rfl, trivial⟩) (fun q hq => by (repeat (with_reducible first | assumption | exact List.mem_cons_self | refine List.mem_cons_of_mem _ ?_))), rfl⟩
  clear R
  rintro l led' v h' tk ⟨rfl, rfl⟩ R
  ((with_reducible refine wpAny_execs_cons ?_); (with_reducible refine wpAny_Return_some ?_); (with_reducible refine wpAny_Constant_bool ?_))
  exact ⟨rfl, _, _, _, R.dropLed.dropLed.dropLed, rfl⟩

end Mine

/-! S2 -/
namespace Mine

noncomputable abbrev c1 : UInt64 := 4607182418800017408
noncomputable abbrev c2 : UInt64 := 4611686018427387904
noncomputable abbrev c4 : UInt64 := 4616189618054758400
noncomputable abbrev c6 : UInt64 := 4618441417868443648
noncomputable abbrev ch : UInt64 := 4602678819172646912
noncomputable def feq (a b : UInt64) : Bool := Float64.cmp a b == some .eq
noncomputable def fle (a b : UInt64) : Bool := Float64.cmp a b == some .lt || Float64.cmp a b == some .eq
/-- hsv_to_rgb -/
noncomputable def hsvI (h : UInt64) : Int := Flt.toInt Float64.truncOf (Float64.mul h c6)
noncomputable def hsvRgb (h s v : UInt64) : List V :=
  if feq s 0 then [.float v, .float v, .float v] else
  let i := hsvI h
  let f := Float64.sub (Float64.mul h c6) (Float64.ofInt i)
  let p := Float64.mul v (Float64.sub c1 s)
  let q := Float64.mul v (Float64.sub c1 (Float64.mul s f))
  let t := Float64.mul v (Float64.sub c1 (Float64.mul s (Float64.sub c1 f)))
  let k := i.fmod 6
  if k == 0 then [.float v, .float t, .float p] else
  if k == 1 then [.float q, .float v, .float p] else
  if k == 2 then [.float p, .float v, .float t] else
  if k == 3 then [.float p, .float q, .float v] else
  if k == 4 then [.float t, .float p, .float v] else [.float v, .float p, .float q]

theorem spec_hsv {w : World} {A : Around} {E : Value → Shared → Prop} {s : Shared} {K₀ : Heap} {led : List (Nat × Mo)} {tmp : List (V × Nat)} {Q : Value → Shared → Prop} {n : Nat} {x y z : UInt64} {tx ty tz : Nat}
    (AO : AOk A (n + 1)) (S : Stat (hd.heap_39 w.params) K₀) (R : Rep K₀ led tmp s.heap) (hf : Float64.isFinite (Float64.mul x c6) = true) (hb : (hsvI x).natAbs < 2 ^ 200)
    (h : ∀ h' tk t, Rep K₀ led ((.tup (hsvRgb x y z), t) :: tmp) h' → Q (.ref t) (St s h' tk)) :
    wpAny (model PySem.Challenge.rw_uk0010_01.row.prog w) A (call (.ref 161) [.float x tx, .float y ty, .float z tz]) Q E s := by
  revert AO S R hf hb h
  k_fill
  intro AO S R hf hb h
  refine' r_enter (l := [("v", .float z), ("s", .float y), ("h", .float x)]) AO S R ?ho ?hcd ?hbind ?hcell ?hloc ?hrep ?_ ?c1 ?c2 ?c3
  ((case ho => k_is); (case hcd => k_is); (case hbind => first | exact BindsTo.of_eq rfl | exact binds_K (Rep.stat R S).x rfl (by k_is) rfl rfl rfl); (case hcell => decide); (case hloc => exact locs rfl); (case c1 => rfl); (case c2 => rfl); (case c3 => rfl))
  case hrep => intro B RB; exact (show Binds tmp _ _ by ((try dsimp only [List.reverse, List.reverseAux]); repeat (first | exact Binds.nil | (refine Binds.cons ?_ ?_; (with_reducible first | exact Bear.int | exact Bear.float | exact Bear.str | exact Bear.bool | exact Bear.none | (refine' Bear.tup ?zb3; (case zb3 => (repeat (with_reducible first | exact List.mem_cons_self | refine List.mem_cons_of_mem _ ?_)))) | (refine' Bear.lst ?zb3; (case zb3 => (repeat (with_reducible first | exact List.mem_cons_self | refine List.mem_cons_of_mem _ ?_)))) | exact Bear.raw))))) B RB.tmp
  clear R AO
  intro L h₁ tk env A' AO EO R
  ((with_reducible refine wpAny_execs_cons ?_); (with_reducible refine wpAny_If ?_); (with_reducible refine wpAny_isTrue_Compare1 ?_); (refine' r_locS EO R ?zhv ?zhf ?_ ?zhx ?zhd; (case zhx => exact rfl); (case zhv => exact rfl); (case zhf => exact rfl); (case zhd => decide); intro _); (with_reducible refine q_cfloat ?_); (with_reducible refine AutoFloatOps.eq_0 ?_); (with_reducible refine wpAny_truthy_bool ?_))
  have k0 : 0 ≤ (Flt.toInt Float64.truncOf (Float64.mul x 4618441417868443648)).fmod 6 := Int.fmod_nonneg_of_pos _ (by decide)
  have k1 : (Flt.toInt Float64.truncOf (Float64.mul x 4618441417868443648)).fmod 6 < 6 := Int.fmod_lt_of_pos _ (by decide)
  have hk6 : ∃ k, (Flt.toInt Float64.truncOf (Float64.mul x 4618441417868443648)).fmod 6 = k ∧ (k = 0 ∨ k = 1 ∨ k = 2 ∨ k = 3 ∨ k = 4 ∨ k = 5) := ⟨_, rfl, by exact om176 k0 k1⟩
  obtain ⟨k, e, hk⟩ := hk6
  clear k0 k1
  unfold hsvRgb at h
  ((refine split_bool ?_ ?_ <;> intro hc))
  · ((with_reducible refine wpAny_execs_cons ?_); (with_reducible refine wpAny_Return_some ?_); (refine' r_tupE EO AO R ?_ ?zhs; (case zhs => exact of_decide_eq_true rfl); ((repeat (refine And.intro ?zc ?_; (case zc => (first | assumption | (with_unfolding_all decide +kernel) | omega)))); clear R; intro h' _ _ R; (try (first | show wpAny _ _ _ _ _ (St s h' _) | show wpAny _ _ _ _ _ (St s _ _) | show codeAny _ _ _ _ (St s _ _) | show ite _ (wpAny _ _ _ _ _ (St s _ _)) (wpAny _ _ _ _ _ (St s _ _)))))))
    rw [if_pos (show feq y 0 = true from hc)] at h
    exact h _ _ _ R.dropLed
  rw [if_neg (show ¬ feq y 0 = true from fun q => by rw [show feq y 0 = false from hc] at q; cases q)] at h
  ((with_reducible refine wpAny_execs_nil ?_); (with_reducible refine wpAny_execs_cons ?_); (refine wpAny_Assign_Name ?_); (refine Call_ ?_); (refine' r_bi EO S R ?ze ?zhv ?_ ?zhn ?zhx ?zhd; (case zhx => exact rfl); (case ze => k_is); (case zhv => boot_fast); (case zhn => decide); (case zhd => decide)); (refine Pv.callWith_type1 ?_); (refine wpAny_items_cons ?_); (refine r_ev EO AO R ?_; ((repeat (refine And.intro ?zc ?_; (case zc => (first | assumption | (with_unfolding_all decide +kernel) | omega)))); intro _ _)); (with_reducible refine wpAny_items_nil ?_); (refine' r_intf AO ?zhb ?_; (case zhb => assumption); intro _ _); (refine' r_store EO R ?zhx ?zhv ?_; (case zhx => exact rfl); (case zhv => (with_reducible first | exact Bear.int | exact Bear.float | exact Bear.str | exact Bear.bool | exact Bear.none | (refine' Bear.tup ?zb3; (case zb3 => (repeat (with_reducible first | exact List.mem_cons_self | refine List.mem_cons_of_mem _ ?_)))) | (refine' Bear.lst ?zb3; (case zb3 => (repeat (with_reducible first | exact List.mem_cons_self | refine List.mem_cons_of_mem _ ?_)))) | exact Bear.raw)); clear R; intro h' _ R; (try (first | show wpAny _ _ _ _ _ (St s h' _) | show wpAny _ _ _ _ _ (St s _ _) | show codeAny _ _ _ _ (St s _ _) | show ite _ (wpAny _ _ _ _ _ (St s _ _)) (wpAny _ _ _ _ _ (St s _ _))))); (refine' r_asgE EO AO R ?_ ?zhx; (case zhx => exact rfl); ((repeat (refine And.intro ?zc ?_; (case zc => (first | assumption | (with_unfolding_all decide +kernel) | omega)))); clear R; intro h' _ R; (try (first | show wpAny _ _ _ _ _ (St s h' _) | show wpAny _ _ _ _ _ (St s _ _) | show codeAny _ _ _ _ (St s _ _) | show ite _ (wpAny _ _ _ _ _ (St s _ _)) (wpAny _ _ _ _ _ (St s _ _)))))); (refine' r_asgE EO AO R ?_ ?zhx; (case zhx => exact rfl); ((repeat (refine And.intro ?zc ?_; (case zc => (first | assumption | (with_unfolding_all decide +kernel) | omega)))); clear R; intro h' _ R; (try (first | show wpAny _ _ _ _ _ (St s h' _) | show wpAny _ _ _ _ _ (St s _ _) | show codeAny _ _ _ _ (St s _ _) | show ite _ (wpAny _ _ _ _ _ (St s _ _)) (wpAny _ _ _ _ _ (St s _ _)))))); (refine' r_asgE EO AO R ?_ ?zhx; (case zhx => exact rfl); ((repeat (refine And.intro ?zc ?_; (case zc => (first | assumption | (with_unfolding_all decide +kernel) | omega)))); clear R; intro h' _ R; (try (first | show wpAny _ _ _ _ _ (St s h' _) | show wpAny _ _ _ _ _ (St s _ _) | show codeAny _ _ _ _ (St s _ _) | show ite _ (wpAny _ _ _ _ _ (St s _ _)) (wpAny _ _ _ _ _ (St s _ _)))))); (refine' r_asgE EO AO R ?_ ?zhx; (case zhx => exact rfl); ((repeat (refine And.intro ?zc ?_; (case zc => (first | assumption | (with_unfolding_all decide +kernel) | omega)))); clear R; intro h' _ R; (try (first | show wpAny _ _ _ _ _ (St s h' _) | show wpAny _ _ _ _ _ (St s _ _) | show codeAny _ _ _ _ (St s _ _) | show ite _ (wpAny _ _ _ _ _ (St s _ _)) (wpAny _ _ _ _ _ (St s _ _)))))); (with_reducible refine wpAny_execs_cons ?_); (refine wpAny_Assign_Name ?_); (with_reducible refine wpAny_BinOp ?_); (refine' r_locS EO R ?zhv ?zhf ?_ ?zhx ?zhd; (case zhx => exact rfl); (case zhv => exact rfl); (case zhf => exact rfl); (case zhd => decide); intro _); (with_reducible refine q_cint ?_); (refine' q_modi (b := _) ?zhb ?_; (case zhb => (first | exact om114 | assumption | decide))); (refine' r_store EO R ?zhx ?zhv ?_; (case zhx => exact rfl); (case zhv => (with_reducible first | exact Bear.int | exact Bear.float | exact Bear.str | exact Bear.bool | exact Bear.none | (refine' Bear.tup ?zb3; (case zb3 => (repeat (with_reducible first | exact List.mem_cons_self | refine List.mem_cons_of_mem _ ?_)))) | (refine' Bear.lst ?zb3; (case zb3 => (repeat (with_reducible first | exact List.mem_cons_self | refine List.mem_cons_of_mem _ ?_)))) | exact Bear.raw)); clear R; intro h' _ R; (try (first | show wpAny _ _ _ _ _ (St s h' _) | show wpAny _ _ _ _ _ (St s _ _) | show codeAny _ _ _ _ (St s _ _) | show ite _ (wpAny _ _ _ _ _ (St s _ _)) (wpAny _ _ _ _ _ (St s _ _))))); (with_reducible refine wpAny_execs_cons ?_); (with_reducible refine wpAny_If ?_); (with_reducible refine wpAny_isTrue_Compare1 ?_); (refine' r_locS EO R ?zhv ?zhf ?_ ?zhx ?zhd; (case zhx => exact rfl); (case zhv => exact rfl); (case zhf => exact rfl); (case zhd => decide); intro _); (with_reducible refine q_cint ?_); (with_reducible refine P.eq_int ?_); (with_reducible refine wpAny_truthy_bool ?_))
  dsimp only [hsvI, c6] at h
  rw [e] at h
  rcases hk with rfl | rfl | rfl | rfl | rfl | rfl <;>
    (repeat' first
      | refine PySem.W.ite_pos (by rw [e]; rfl) ?_
      | (refine PySem.W.ite_neg (by rw [e]; decide) ?_; (first | ((with_reducible refine wpAny_execs_nil ?_); (with_reducible refine wpAny_execs_cons ?_); (with_reducible refine wpAny_If ?_); (with_reducible refine wpAny_isTrue_Compare1 ?_); (refine' r_locS EO R ?zhv ?zhf ?_ ?zhx ?zhd; (case zhx => exact rfl); (case zhv => exact rfl); (case zhf => exact rfl); (case zhd => decide); intro _); (with_reducible refine q_cint ?_); (with_reducible refine P.eq_int ?_); (with_reducible refine wpAny_truthy_bool ?_); (refine PySem.W.ite_neg (by (first | (with_reducible exact Bool.false_ne_true) | (simp only [decide_eq_true_eq, beq_iff_eq, bne_iff_ne, ne_eq, Bool.false_eq_true, not_false_eq_true]; first | done | assumption | exact om183 e) | omega)) ?_); (with_reducible refine wpAny_execs_nil ?_); (with_reducible refine wpAny_execs_cons ?_); (with_reducible refine wpAny_If ?_); (with_reducible refine wpAny_isTrue_Compare1 ?_); (refine' r_locS EO R ?zhv ?zhf ?_ ?zhx ?zhd; (case zhx => exact rfl); (case zhv => exact rfl); (case zhf => exact rfl); (case zhd => decide); intro _); (with_reducible refine q_cint ?_); (with_reducible refine P.eq_int ?_); (with_reducible refine wpAny_truthy_bool ?_); (refine PySem.W.ite_neg (by (first | (with_reducible exact Bool.false_ne_true) | (simp only [decide_eq_true_eq, beq_iff_eq, bne_iff_ne, ne_eq, Bool.false_eq_true, not_false_eq_true]; first | done | assumption | exact om184 e) | omega)) ?_); (with_reducible refine wpAny_execs_nil ?_); (with_reducible refine wpAny_execs_cons ?_); (with_reducible refine wpAny_If ?_); (with_reducible refine wpAny_isTrue_Compare1 ?_); (refine' r_locS EO R ?zhv ?zhf ?_ ?zhx ?zhd; (case zhx => exact rfl); (case zhv => exact rfl); (case zhf => exact rfl); (case zhd => decide); intro _); (with_reducible refine q_cint ?_); (with_reducible refine P.eq_int ?_); (with_reducible refine wpAny_truthy_bool ?_); (refine PySem.W.ite_neg (by (first | (with_reducible exact Bool.false_ne_true) | (simp only [decide_eq_true_eq, beq_iff_eq, bne_iff_ne, ne_eq, Bool.false_eq_true, not_false_eq_true]; first | done | assumption | exact om185 e) | omega)) ?_); (with_reducible refine wpAny_execs_nil ?_); (with_reducible refine wpAny_execs_cons ?_); (with_reducible refine wpAny_If ?_); (with_reducible refine wpAny_isTrue_Compare1 ?_); (refine' r_locS EO R ?zhv ?zhf ?_ ?zhx ?zhd; (case zhx => exact rfl); (case zhv => exact rfl); (case zhf => exact rfl); (case zhd => decide); intro _); (with_reducible refine q_cint ?_); (with_reducible refine P.eq_int ?_); (with_reducible refine wpAny_truthy_bool ?_); (refine PySem.W.ite_neg (by (first | (with_reducible exact Bool.false_ne_true) | (simp only [decide_eq_true_eq, beq_iff_eq, bne_iff_ne, ne_eq, Bool.false_eq_true, not_false_eq_true]; first | done | assumption | exact om186 e) | omega)) ?_); (with_reducible refine wpAny_execs_nil ?_); (with_reducible refine wpAny_execs_cons ?_); (with_reducible refine wpAny_If ?_); (with_reducible refine wpAny_isTrue_Compare1 ?_); (refine' r_locS EO R ?zhv ?zhf ?_ ?zhx ?zhd; (case zhx => exact rfl); (case zhv => exact rfl); (case zhf => exact rfl); (case zhd => decide); intro _); (with_reducible refine q_cint ?_); (with_reducible refine P.eq_int ?_); (with_reducible refine wpAny_truthy_bool ?_); (refine PySem.W.ite_pos (by (first | rfl | (simp only [decide_eq_true_eq, beq_iff_eq, bne_iff_ne, ne_eq]; first | assumption | omega) | omega)) ?_); (with_reducible refine wpAny_execs_cons ?_); (with_reducible refine wpAny_Return_some ?_); (refine' r_tupE EO AO R ?_ ?zhs; (case zhs => exact of_decide_eq_true rfl); ((repeat (refine And.intro ?zc ?_; (case zc => (first | assumption | (with_unfolding_all decide +kernel) | omega)))); clear R; intro h' _ _ R; (try (first | show wpAny _ _ _ _ _ (St s h' _) | show wpAny _ _ _ _ _ (St s _ _) | show codeAny _ _ _ _ (St s _ _) | show ite _ (wpAny _ _ _ _ _ (St s _ _)) (wpAny _ _ _ _ _ (St s _ _))))))) | ((with_reducible refine wpAny_execs_nil ?_); (with_reducible refine wpAny_execs_cons ?_); (with_reducible refine wpAny_If ?_); (with_reducible refine wpAny_isTrue_Compare1 ?_); (refine' r_locS EO R ?zhv ?zhf ?_ ?zhx ?zhd; (case zhx => exact rfl); (case zhv => exact rfl); (case zhf => exact rfl); (case zhd => decide); intro _); (with_reducible refine q_cint ?_); (with_reducible refine P.eq_int ?_); (with_reducible refine wpAny_truthy_bool ?_); (refine PySem.W.ite_neg (by (first | (with_reducible exact Bool.false_ne_true) | (simp only [decide_eq_true_eq, beq_iff_eq, bne_iff_ne, ne_eq, Bool.false_eq_true, not_false_eq_true]; first | done | assumption | exact om180 e) | omega)) ?_); (with_reducible refine wpAny_execs_nil ?_); (with_reducible refine wpAny_execs_cons ?_); (with_reducible refine wpAny_If ?_); (with_reducible refine wpAny_isTrue_Compare1 ?_); (refine' r_locS EO R ?zhv ?zhf ?_ ?zhx ?zhd; (case zhx => exact rfl); (case zhv => exact rfl); (case zhf => exact rfl); (case zhd => decide); intro _); (with_reducible refine q_cint ?_); (with_reducible refine P.eq_int ?_); (with_reducible refine wpAny_truthy_bool ?_); (refine PySem.W.ite_neg (by (first | (with_reducible exact Bool.false_ne_true) | (simp only [decide_eq_true_eq, beq_iff_eq, bne_iff_ne, ne_eq, Bool.false_eq_true, not_false_eq_true]; first | done | assumption | exact om181 e) | omega)) ?_); (with_reducible refine wpAny_execs_nil ?_); (with_reducible refine wpAny_execs_cons ?_); (with_reducible refine wpAny_If ?_); (with_reducible refine wpAny_isTrue_Compare1 ?_); (refine' r_locS EO R ?zhv ?zhf ?_ ?zhx ?zhd; (case zhx => exact rfl); (case zhv => exact rfl); (case zhf => exact rfl); (case zhd => decide); intro _); (with_reducible refine q_cint ?_); (with_reducible refine P.eq_int ?_); (with_reducible refine wpAny_truthy_bool ?_); (refine PySem.W.ite_neg (by (first | (with_reducible exact Bool.false_ne_true) | (simp only [decide_eq_true_eq, beq_iff_eq, bne_iff_ne, ne_eq, Bool.false_eq_true, not_false_eq_true]; first | done | assumption | exact om182 e) | omega)) ?_); (with_reducible refine wpAny_execs_nil ?_); (with_reducible refine wpAny_execs_cons ?_); (with_reducible refine wpAny_If ?_); (with_reducible refine wpAny_isTrue_Compare1 ?_); (refine' r_locS EO R ?zhv ?zhf ?_ ?zhx ?zhd; (case zhx => exact rfl); (case zhv => exact rfl); (case zhf => exact rfl); (case zhd => decide); intro _); (with_reducible refine q_cint ?_); (with_reducible refine P.eq_int ?_); (with_reducible refine wpAny_truthy_bool ?_); (refine PySem.W.ite_pos (by (first | rfl | (simp only [decide_eq_true_eq, beq_iff_eq, bne_iff_ne, ne_eq]; first | assumption | omega) | omega)) ?_); (with_reducible refine wpAny_execs_cons ?_); (with_reducible refine wpAny_Return_some ?_); (refine' r_tupE EO AO R ?_ ?zhs; (case zhs => exact of_decide_eq_true rfl); ((repeat (refine And.intro ?zc ?_; (case zc => (first | assumption | (with_unfolding_all decide +kernel) | omega)))); clear R; intro h' _ _ R; (try (first | show wpAny _ _ _ _ _ (St s h' _) | show wpAny _ _ _ _ _ (St s _ _) | show codeAny _ _ _ _ (St s _ _) | show ite _ (wpAny _ _ _ _ _ (St s _ _)) (wpAny _ _ _ _ _ (St s _ _))))))) | ((with_reducible refine wpAny_execs_nil ?_); (with_reducible refine wpAny_execs_cons ?_); (with_reducible refine wpAny_If ?_); (with_reducible refine wpAny_isTrue_Compare1 ?_); (refine' r_locS EO R ?zhv ?zhf ?_ ?zhx ?zhd; (case zhx => exact rfl); (case zhv => exact rfl); (case zhf => exact rfl); (case zhd => decide); intro _); (with_reducible refine q_cint ?_); (with_reducible refine P.eq_int ?_); (with_reducible refine wpAny_truthy_bool ?_); (refine PySem.W.ite_neg (by (first | (with_reducible exact Bool.false_ne_true) | (simp only [decide_eq_true_eq, beq_iff_eq, bne_iff_ne, ne_eq, Bool.false_eq_true, not_false_eq_true]; first | done | assumption | exact om178 e) | omega)) ?_); (with_reducible refine wpAny_execs_nil ?_); (with_reducible refine wpAny_execs_cons ?_); (with_reducible refine wpAny_If ?_); (with_reducible refine wpAny_isTrue_Compare1 ?_); (refine' r_locS EO R ?zhv ?zhf ?_ ?zhx ?zhd; (case zhx => exact rfl); (case zhv => exact rfl); (case zhf => exact rfl); (case zhd => decide); intro _); (with_reducible refine q_cint ?_); (with_reducible refine P.eq_int ?_); (with_reducible refine wpAny_truthy_bool ?_); (refine PySem.W.ite_neg (by (first | (with_reducible exact Bool.false_ne_true) | (simp only [decide_eq_true_eq, beq_iff_eq, bne_iff_ne, ne_eq, Bool.false_eq_true, not_false_eq_true]; first | done | assumption | exact om179 e) | omega)) ?_); (with_reducible refine wpAny_execs_nil ?_); (with_reducible refine wpAny_execs_cons ?_); (with_reducible refine wpAny_If ?_); (with_reducible refine wpAny_isTrue_Compare1 ?_); (refine' r_locS EO R ?zhv ?zhf ?_ ?zhx ?zhd; (case zhx => exact rfl); (case zhv => exact rfl); (case zhf => exact rfl); (case zhd => decide); intro _); (with_reducible refine q_cint ?_); (with_reducible refine P.eq_int ?_); (with_reducible refine wpAny_truthy_bool ?_); (refine PySem.W.ite_pos (by (first | rfl | (simp only [decide_eq_true_eq, beq_iff_eq, bne_iff_ne, ne_eq]; first | assumption | omega) | omega)) ?_); (with_reducible refine wpAny_execs_cons ?_); (with_reducible refine wpAny_Return_some ?_); (refine' r_tupE EO AO R ?_ ?zhs; (case zhs => exact of_decide_eq_true rfl); ((repeat (refine And.intro ?zc ?_; (case zc => (first | assumption | (with_unfolding_all decide +kernel) | omega)))); clear R; intro h' _ _ R; (try (first | show wpAny _ _ _ _ _ (St s h' _) | show wpAny _ _ _ _ _ (St s _ _) | show codeAny _ _ _ _ (St s _ _) | show ite _ (wpAny _ _ _ _ _ (St s _ _)) (wpAny _ _ _ _ _ (St s _ _))))))) | ((with_reducible refine wpAny_execs_nil ?_); (with_reducible refine wpAny_execs_cons ?_); (with_reducible refine wpAny_If ?_); (with_reducible refine wpAny_isTrue_Compare1 ?_); (refine' r_locS EO R ?zhv ?zhf ?_ ?zhx ?zhd; (case zhx => exact rfl); (case zhv => exact rfl); (case zhf => exact rfl); (case zhd => decide); intro _); (with_reducible refine q_cint ?_); (with_reducible refine P.eq_int ?_); (with_reducible refine wpAny_truthy_bool ?_); (refine PySem.W.ite_neg (by (first | (with_reducible exact Bool.false_ne_true) | (simp only [decide_eq_true_eq, beq_iff_eq, bne_iff_ne, ne_eq, Bool.false_eq_true, not_false_eq_true]; first | done | assumption | exact om177 e) | omega)) ?_); (with_reducible refine wpAny_execs_nil ?_); (with_reducible refine wpAny_execs_cons ?_); (with_reducible refine wpAny_If ?_); (with_reducible refine wpAny_isTrue_Compare1 ?_); (refine' r_locS EO R ?zhv ?zhf ?_ ?zhx ?zhd; (case zhx => exact rfl); (case zhv => exact rfl); (case zhf => exact rfl); (case zhd => decide); intro _); (with_reducible refine q_cint ?_); (with_reducible refine P.eq_int ?_); (with_reducible refine wpAny_truthy_bool ?_); (refine PySem.W.ite_pos (by (first | rfl | (simp only [decide_eq_true_eq, beq_iff_eq, bne_iff_ne, ne_eq]; first | assumption | omega) | omega)) ?_); (with_reducible refine wpAny_execs_cons ?_); (with_reducible refine wpAny_Return_some ?_); (refine' r_tupE EO AO R ?_ ?zhs; (case zhs => exact of_decide_eq_true rfl); ((repeat (refine And.intro ?zc ?_; (case zc => (first | assumption | (with_unfolding_all decide +kernel) | omega)))); clear R; intro h' _ _ R; (try (first | show wpAny _ _ _ _ _ (St s h' _) | show wpAny _ _ _ _ _ (St s _ _) | show codeAny _ _ _ _ (St s _ _) | show ite _ (wpAny _ _ _ _ _ (St s _ _)) (wpAny _ _ _ _ _ (St s _ _))))))) | ((with_reducible refine wpAny_execs_nil ?_); (with_reducible refine wpAny_execs_cons ?_); (with_reducible refine wpAny_If ?_); (with_reducible refine wpAny_isTrue_Compare1 ?_); (refine' r_locS EO R ?zhv ?zhf ?_ ?zhx ?zhd; (case zhx => exact rfl); (case zhv => exact rfl); (case zhf => exact rfl); (case zhd => decide); intro _); (with_reducible refine q_cint ?_); (with_reducible refine P.eq_int ?_); (with_reducible refine wpAny_truthy_bool ?_); (refine PySem.W.ite_pos (by (first | rfl | (simp only [decide_eq_true_eq, beq_iff_eq, bne_iff_ne, ne_eq]; first | assumption | omega) | omega)) ?_); (with_reducible refine wpAny_execs_cons ?_); (with_reducible refine wpAny_Return_some ?_); (refine' r_tupE EO AO R ?_ ?zhs; (case zhs => exact of_decide_eq_true rfl); ((repeat (refine And.intro ?zc ?_; (case zc => (first | assumption | (with_unfolding_all decide +kernel) | omega)))); clear R; intro h' _ _ R; (try (first | show wpAny _ _ _ _ _ (St s h' _) | show wpAny _ _ _ _ _ (St s _ _) | show codeAny _ _ _ _ (St s _ _) | show ite _ (wpAny _ _ _ _ _ (St s _ _)) (wpAny _ _ _ _ _ (St s _ _)))))))))) <;>
    ((first | ((with_reducible refine wpAny_execs_cons ?_); (with_reducible refine wpAny_Return_some ?_); (refine' r_tupE EO AO R ?_ ?zhs; (case zhs => exact of_decide_eq_true rfl); ((repeat (refine And.intro ?zc ?_; (case zc => (first | assumption | (with_unfolding_all decide +kernel) | omega)))); clear R; intro h' _ _ R; (try (first | show wpAny _ _ _ _ _ (St s h' _) | show wpAny _ _ _ _ _ (St s _ _) | show codeAny _ _ _ _ (St s _ _) | show ite _ (wpAny _ _ _ _ _ (St s _ _)) (wpAny _ _ _ _ _ (St s _ _))))))) | skip); exact h _ _ _ R.dropLed)

end Mine

/-! S3 -/
namespace Mine
noncomputable abbrev cA : UInt64 := 4595172819793696085
noncomputable abbrev cB : UInt64 := 4599676419421066581
noncomputable abbrev cC : UInt64 := 4604180019048437077
/-- a share of a hue -/
noncomputable def vF (m1 m2 hue : UInt64) : UInt64 :=
  let u := (Float64.divmod hue c1).2
  if flt u cA then Float64.add m1 (Float64.mul (Float64.mul (Float64.sub m2 m1) u) c6) else
  if flt u ch then m2 else
  if flt u cC then Float64.add m1 (Float64.mul (Float64.mul (Float64.sub m2 m1) (Float64.sub cC u)) c6) else m1
theorem ifT {α : Type} {b : Bool} {x y : α} (h : b = true) : (if b = true then x else y) = x := if_pos h
theorem ifF {α : Type} {b : Bool} {x y : α} (h : b = false) : (if b = true then x else y) = y := by rw [h]; rfl

theorem spec_v {w : World} {A : Around} {E : Value → Shared → Prop} {s : Shared} {K₀ : Heap} {led : List (Nat × Mo)} {tmp : List (V × Nat)} {Q : Value → Shared → Prop} {n : Nat} {x y z : UInt64} {tx ty tz : Nat}
    (AO : AOk A (n + 1)) (S : Stat (hd.heap_39 w.params) K₀) (R : Rep K₀ led tmp s.heap)
    (h : ∀ h' tk t, Rep K₀ led tmp h' → Q (.float (vF x y z) t) (St s h' tk)) :
    wpAny (model PySem.Challenge.rw_uk0010_01.row.prog w) A (call (.ref 147) [.float x tx, .float y ty, .float z tz]) Q E s := by
  revert AO S R h
  k_fill
  intro AO S R h
  refine' r_enter (l := [("hue", .float z), ("m2", .float y), ("m1", .float x)]) AO S R ?ho ?hcd ?hbind ?hcell ?hloc ?hrep ?_ ?c1 ?c2 ?c3
  ((case ho => k_is); (case hcd => k_is); (case hbind => first | exact BindsTo.of_eq rfl | exact binds_K (Rep.stat R S).x rfl (by k_is) rfl rfl rfl); (case hcell => decide); (case hloc => exact locs rfl); (case c1 => rfl); (case c2 => rfl); (case c3 => rfl))
  case hrep => intro B RB; exact (show Binds tmp _ _ by ((try dsimp only [List.reverse, List.reverseAux]); repeat (first | exact Binds.nil | (refine Binds.cons ?_ ?_; (with_reducible first | exact Bear.int | exact Bear.float | exact Bear.str | exact Bear.bool | exact Bear.none | (refine' Bear.tup ?zb3; (case zb3 => (repeat (with_reducible first | exact List.mem_cons_self | refine List.mem_cons_of_mem _ ?_)))) | (refine' Bear.lst ?zb3; (case zb3 => (repeat (with_reducible first | exact List.mem_cons_self | refine List.mem_cons_of_mem _ ?_)))) | exact Bear.raw))))) B RB.tmp
  clear R AO
  intro L h₁ tk env A' AO EO R
  unfold vF flt at h
  dsimp only at h
  ((refine' r_asgE EO AO R ?_ ?zhx; (case zhx => exact rfl); ((repeat (refine And.intro ?zc ?_; (case zc => (first | assumption | (with_unfolding_all decide +kernel) | omega)))); clear R; intro h' _ R; (try (first | show wpAny _ _ _ _ _ (St s h' _) | show wpAny _ _ _ _ _ (St s _ _) | show codeAny _ _ _ _ (St s _ _) | show ite _ (wpAny _ _ _ _ _ (St s _ _)) (wpAny _ _ _ _ _ (St s _ _)))))); (with_reducible refine wpAny_execs_cons ?_); (with_reducible refine wpAny_If ?_); (with_reducible refine wpAny_isTrue_Compare1 ?_); (refine' r_locS EO R ?zhv ?zhf ?_ ?zhx ?zhd; (case zhx => exact rfl); (case zhv => exact rfl); (case zhf => exact rfl); (case zhd => decide); intro _); (refine' r_glob EO S R ?ze ?_ ?zhx ?zhd; (case zhx => exact rfl); (case ze => k_is); (case zhd => decide)); (with_reducible refine AutoFloatOps.lt_0 ?_); (with_reducible refine wpAny_truthy_bool ?_))
  ((refine split_bool ?_ ?_ <;> intro hc))
  · rw [ifT hc] at h; ((with_reducible refine wpAny_execs_cons ?_); (with_reducible refine wpAny_Return_some ?_); (refine r_ev EO AO R ?_; ((repeat (refine And.intro ?zc ?_; (case zc => (first | assumption | (with_unfolding_all decide +kernel) | omega)))); intro _ _))); exact h _ _ _ R.dropLed
  rw [ifF hc] at h
  ((with_reducible refine wpAny_execs_nil ?_); (with_reducible refine wpAny_execs_cons ?_); (with_reducible refine wpAny_If ?_); (with_reducible refine wpAny_isTrue_Compare1 ?_); (refine' r_locS EO R ?zhv ?zhf ?_ ?zhx ?zhd; (case zhx => exact rfl); (case zhv => exact rfl); (case zhf => exact rfl); (case zhd => decide); intro _); (with_reducible refine q_cfloat ?_); (with_reducible refine AutoFloatOps.lt_0 ?_); (with_reducible refine wpAny_truthy_bool ?_))
  ((refine split_bool ?_ ?_ <;> intro hc))
  · rw [ifT hc] at h; ((with_reducible refine wpAny_execs_cons ?_); (with_reducible refine wpAny_Return_some ?_); (refine' r_locS EO R ?zhv ?zhf ?_ ?zhx ?zhd; (case zhx => exact rfl); (case zhv => exact rfl); (case zhf => exact rfl); (case zhd => decide); intro _)); exact h _ _ _ R.dropLed
  rw [ifF hc] at h
  ((with_reducible refine wpAny_execs_nil ?_); (with_reducible refine wpAny_execs_cons ?_); (with_reducible refine wpAny_If ?_); (with_reducible refine wpAny_isTrue_Compare1 ?_); (refine' r_locS EO R ?zhv ?zhf ?_ ?zhx ?zhd; (case zhx => exact rfl); (case zhv => exact rfl); (case zhf => exact rfl); (case zhd => decide); intro _); (refine' r_glob EO S R ?ze ?_ ?zhx ?zhd; (case zhx => exact rfl); (case ze => k_is); (case zhd => decide)); (with_reducible refine AutoFloatOps.lt_0 ?_); (with_reducible refine wpAny_truthy_bool ?_))
  ((refine split_bool ?_ ?_ <;> intro hc))
  · rw [ifT hc] at h; ((with_reducible refine wpAny_execs_cons ?_); (with_reducible refine wpAny_Return_some ?_); (with_reducible refine wpAny_BinOp ?_); (refine' r_locS EO R ?zhv ?zhf ?_ ?zhx ?zhd; (case zhx => exact rfl); (case zhv => exact rfl); (case zhf => exact rfl); (case zhd => decide); intro _); (with_reducible refine wpAny_BinOp ?_); (with_reducible refine wpAny_BinOp ?_); (refine r_ev EO AO R ?_; ((repeat (refine And.intro ?zc ?_; (case zc => (first | assumption | (with_unfolding_all decide +kernel) | omega)))); intro _ _)); (with_reducible refine wpAny_BinOp ?_); (refine' r_glob EO S R ?ze ?_ ?zhx ?zhd; (case zhx => exact rfl); (case ze => k_is); (case zhd => decide)); (refine' r_locS EO R ?zhv ?zhf ?_ ?zhx ?zhd; (case zhx => exact rfl); (case zhv => exact rfl); (case zhf => exact rfl); (case zhd => decide); intro _); (with_reducible refine q_subf ?_); (with_reducible refine q_mulf ?_); (with_reducible refine q_cfloat ?_); (with_reducible refine q_mulf ?_); (with_reducible refine q_addf ?_)); exact h _ _ _ R.dropLed
  rw [ifF hc] at h
  ((with_reducible refine wpAny_execs_nil ?_); (with_reducible refine wpAny_execs_cons ?_); (with_reducible refine wpAny_Return_some ?_); (refine' r_locS EO R ?zhv ?zhf ?_ ?zhx ?zhd; (case zhx => exact rfl); (case zhv => exact rfl); (case zhf => exact rfl); (case zhd => decide); intro _))
  exact h _ _ _ R.dropLed
/-- hls_to_rgb -/
noncomputable def hlsRgb (h l s : UInt64) : List V :=
  if feq s 0 then [.float l, .float l, .float l] else
  let m2 := if fle l ch then Float64.mul l (Float64.add c1 s) else Float64.sub (Float64.add l s) (Float64.mul l s)
  let m1 := Float64.sub (Float64.mul c2 l) m2
  [.float (vF m1 m2 (Float64.add h cB)), .float (vF m1 m2 h), .float (vF m1 m2 (Float64.sub h cB))]
theorem spec_hls {w : World} {A : Around} {E : Value → Shared → Prop} {s : Shared} {K₀ : Heap} {led : List (Nat × Mo)} {tmp : List (V × Nat)} {Q : Value → Shared → Prop} {n : Nat} {x y z : UInt64} {tx ty tz : Nat}
    (AO : AOk A (n + 2)) (S : Stat (hd.heap_39 w.params) K₀) (R : Rep K₀ led tmp s.heap)
    (h : ∀ h' tk t, Rep K₀ led ((.tup (hlsRgb x y z), t) :: tmp) h' → Q (.ref t) (St s h' tk)) :
    wpAny (model PySem.Challenge.rw_uk0010_01.row.prog w) A (call (.ref 140) [.float x tx, .float y ty, .float z tz]) Q E s := by
  revert AO S R h
  k_fill
  intro AO S R h
  refine' r_enter (l := [("s", .float z), ("l", .float y), ("h", .float x)]) AO S R ?ho ?hcd ?hbind ?hcell ?hloc ?hrep ?_ ?c1 ?c2 ?c3
  ((case ho => k_is); (case hcd => k_is); (case hbind => first | exact BindsTo.of_eq rfl | exact binds_K (Rep.stat R S).x rfl (by k_is) rfl rfl rfl); (case hcell => decide); (case hloc => exact locs rfl); (case c1 => rfl); (case c2 => rfl); (case c3 => rfl))
  case hrep => intro B RB; exact (show Binds tmp _ _ by ((try dsimp only [List.reverse, List.reverseAux]); repeat (first | exact Binds.nil | (refine Binds.cons ?_ ?_; (with_reducible first | exact Bear.int | exact Bear.float | exact Bear.str | exact Bear.bool | exact Bear.none | (refine' Bear.tup ?zb3; (case zb3 => (repeat (with_reducible first | exact List.mem_cons_self | refine List.mem_cons_of_mem _ ?_)))) | (refine' Bear.lst ?zb3; (case zb3 => (repeat (with_reducible first | exact List.mem_cons_self | refine List.mem_cons_of_mem _ ?_)))) | exact Bear.raw))))) B RB.tmp
  clear R AO
  intro L h₁ tk env A' AO EO R
  unfold hlsRgb feq fle at h
  dsimp only at h
  ((with_reducible refine wpAny_execs_cons ?_); (with_reducible refine wpAny_If ?_); (with_reducible refine wpAny_isTrue_Compare1 ?_); (refine' r_locS EO R ?zhv ?zhf ?_ ?zhx ?zhd; (case zhx => exact rfl); (case zhv => exact rfl); (case zhf => exact rfl); (case zhd => decide); intro _); (with_reducible refine q_cfloat ?_); (with_reducible refine AutoFloatOps.eq_0 ?_); (with_reducible refine wpAny_truthy_bool ?_))
  ((refine split_bool ?_ ?_ <;> intro hc))
  · rw [ifT hc] at h; ((with_reducible refine wpAny_execs_cons ?_); (with_reducible refine wpAny_Return_some ?_); (refine' r_tupE EO AO R ?_ ?zhs; (case zhs => exact of_decide_eq_true rfl); ((repeat (refine And.intro ?zc ?_; (case zc => (first | assumption | (with_unfolding_all decide +kernel) | omega)))); clear R; intro h' _ _ R; (try (first | show wpAny _ _ _ _ _ (St s h' _) | show wpAny _ _ _ _ _ (St s _ _) | show codeAny _ _ _ _ (St s _ _) | show ite _ (wpAny _ _ _ _ _ (St s _ _)) (wpAny _ _ _ _ _ (St s _ _))))))); exact h _ _ _ R.dropLed
  rw [ifF hc] at h
  ((with_reducible refine wpAny_execs_nil ?_); (with_reducible refine wpAny_execs_cons ?_); (with_reducible refine wpAny_If ?_); (with_reducible refine wpAny_isTrue_Compare1 ?_); (refine' r_locS EO R ?zhv ?zhf ?_ ?zhx ?zhd; (case zhx => exact rfl); (case zhv => exact rfl); (case zhf => exact rfl); (case zhd => decide); intro _); (with_reducible refine q_cfloat ?_); (with_reducible refine AutoFloatOps.le_0 ?_); (with_reducible refine wpAny_truthy_bool ?_))
  ((refine split_bool ?_ ?_ <;> intro hc))
  · rw [ifT hc] at h
    ((refine' r_asgE EO AO R ?_ ?zhx; (case zhx => exact rfl); ((repeat (refine And.intro ?zc ?_; (case zc => (first | assumption | (with_unfolding_all decide +kernel) | omega)))); clear R; intro h' _ R; (try (first | show wpAny _ _ _ _ _ (St s h' _) | show wpAny _ _ _ _ _ (St s _ _) | show codeAny _ _ _ _ (St s _ _) | show ite _ (wpAny _ _ _ _ _ (St s _ _)) (wpAny _ _ _ _ _ (St s _ _)))))); (with_reducible refine wpAny_execs_nil ?_); (refine' r_asgE EO AO R ?_ ?zhx; (case zhx => exact rfl); ((repeat (refine And.intro ?zc ?_; (case zc => (first | assumption | (with_unfolding_all decide +kernel) | omega)))); clear R; intro h' _ R; (try (first | show wpAny _ _ _ _ _ (St s h' _) | show wpAny _ _ _ _ _ (St s _ _) | show codeAny _ _ _ _ (St s _ _) | show ite _ (wpAny _ _ _ _ _ (St s _ _)) (wpAny _ _ _ _ _ (St s _ _)))))); (with_reducible refine wpAny_execs_cons ?_); (with_reducible refine wpAny_Return_some ?_); (with_reducible refine Tuple_ ?_); (refine wpAny_items_cons ?_); (refine Call_ ?_); (refine' r_glob EO S R ?ze ?_ ?zhx ?zhd; (case zhx => exact rfl); (case ze => k_is); (case zhd => decide)); (refine' callWith_K ?zx ?zk ?_; (case zx => exact S.x); (case zk => k_is)); (refine wpAny_items_cons ?_); (refine' r_locS EO R ?zhv ?zhf ?_ ?zhx ?zhd; (case zhx => exact rfl); (case zhv => exact rfl); (case zhf => exact rfl); (case zhd => decide); intro _); (refine wpAny_items_cons ?_); (refine' r_locS EO R ?zhv ?zhf ?_ ?zhx ?zhd; (case zhx => exact rfl); (case zhv => exact rfl); (case zhf => exact rfl); (case zhd => decide); intro _); (refine wpAny_items_cons ?_); (with_reducible refine wpAny_BinOp ?_); (refine' r_locS EO R ?zhv ?zhf ?_ ?zhx ?zhd; (case zhx => exact rfl); (case zhv => exact rfl); (case zhf => exact rfl); (case zhd => decide); intro _); (refine' r_glob EO S R ?ze ?_ ?zhx ?zhd; (case zhx => exact rfl); (case ze => k_is); (case zhd => decide)); (with_reducible refine q_addf ?_); (with_reducible refine wpAny_items_nil ?_); (refine ⟨(Rep.stat R S).x, ?_⟩))
    refine spec_v AO S R ?_; clear R; intro _ _ _ R
    ((refine wpAny_items_cons ?_); (refine Call_ ?_); (refine' r_glob EO S R ?ze ?_ ?zhx ?zhd; (case zhx => exact rfl); (case ze => k_is); (case zhd => decide)); (refine' callWith_K ?zx ?zk ?_; (case zx => exact S.x); (case zk => k_is)); (refine wpAny_items_cons ?_); (refine' r_locS EO R ?zhv ?zhf ?_ ?zhx ?zhd; (case zhx => exact rfl); (case zhv => exact rfl); (case zhf => exact rfl); (case zhd => decide); intro _); (refine wpAny_items_cons ?_); (refine' r_locS EO R ?zhv ?zhf ?_ ?zhx ?zhd; (case zhx => exact rfl); (case zhv => exact rfl); (case zhf => exact rfl); (case zhd => decide); intro _); (refine wpAny_items_cons ?_); (refine' r_locS EO R ?zhv ?zhf ?_ ?zhx ?zhd; (case zhx => exact rfl); (case zhv => exact rfl); (case zhf => exact rfl); (case zhd => decide); intro _); (with_reducible refine wpAny_items_nil ?_); (refine ⟨(Rep.stat R S).x, ?_⟩))
    refine spec_v AO S R ?_; clear R; intro _ _ _ R
    ((refine wpAny_items_cons ?_); (refine Call_ ?_); (refine' r_glob EO S R ?ze ?_ ?zhx ?zhd; (case zhx => exact rfl); (case ze => k_is); (case zhd => decide)); (refine' callWith_K ?zx ?zk ?_; (case zx => exact S.x); (case zk => k_is)); (refine wpAny_items_cons ?_); (refine' r_locS EO R ?zhv ?zhf ?_ ?zhx ?zhd; (case zhx => exact rfl); (case zhv => exact rfl); (case zhf => exact rfl); (case zhd => decide); intro _); (refine wpAny_items_cons ?_); (refine' r_locS EO R ?zhv ?zhf ?_ ?zhx ?zhd; (case zhx => exact rfl); (case zhv => exact rfl); (case zhf => exact rfl); (case zhd => decide); intro _); (refine wpAny_items_cons ?_); (with_reducible refine wpAny_BinOp ?_); (refine' r_locS EO R ?zhv ?zhf ?_ ?zhx ?zhd; (case zhx => exact rfl); (case zhv => exact rfl); (case zhf => exact rfl); (case zhd => decide); intro _); (refine' r_glob EO S R ?ze ?_ ?zhx ?zhd; (case zhx => exact rfl); (case ze => k_is); (case zhd => decide)); (with_reducible refine q_subf ?_); (with_reducible refine wpAny_items_nil ?_); (refine ⟨(Rep.stat R S).x, ?_⟩))
    refine spec_v AO S R ?_; clear R; intro _ _ _ R
    ((with_reducible refine wpAny_items_nil ?_); (refine' r_newTuple R ?zhv ?_ ?zhs; (case zhv => (repeat (first | exact Bears.nil | (apply Bears.cons; (with_reducible first | exact Bear.int | exact Bear.float | exact Bear.str | exact Bear.bool | exact Bear.none | (refine' Bear.tup ?zb3; (case zb3 => (repeat (with_reducible first | exact List.mem_cons_self | refine List.mem_cons_of_mem _ ?_)))) | (refine' Bear.lst ?zb3; (case zb3 => (repeat (with_reducible first | exact List.mem_cons_self | refine List.mem_cons_of_mem _ ?_)))) | exact Bear.raw))))); (case zhs => exact of_decide_eq_true (by rfl)); clear R; intro _ h' R; (try (first | show wpAny _ _ _ _ _ (St s h' _) | show wpAny _ _ _ _ _ (St s _ _) | show codeAny _ _ _ _ (St s _ _) | show ite _ (wpAny _ _ _ _ _ (St s _ _)) (wpAny _ _ _ _ _ (St s _ _))))))
    exact h _ _ _ R.dropLed
  · rw [ifF hc] at h
    ((refine' r_asgE EO AO R ?_ ?zhx; (case zhx => exact rfl); ((repeat (refine And.intro ?zc ?_; (case zc => (first | assumption | (with_unfolding_all decide +kernel) | omega)))); clear R; intro h' _ R; (try (first | show wpAny _ _ _ _ _ (St s h' _) | show wpAny _ _ _ _ _ (St s _ _) | show codeAny _ _ _ _ (St s _ _) | show ite _ (wpAny _ _ _ _ _ (St s _ _)) (wpAny _ _ _ _ _ (St s _ _)))))); (with_reducible refine wpAny_execs_nil ?_); (refine' r_asgE EO AO R ?_ ?zhx; (case zhx => exact rfl); ((repeat (refine And.intro ?zc ?_; (case zc => (first | assumption | (with_unfolding_all decide +kernel) | omega)))); clear R; intro h' _ R; (try (first | show wpAny _ _ _ _ _ (St s h' _) | show wpAny _ _ _ _ _ (St s _ _) | show codeAny _ _ _ _ (St s _ _) | show ite _ (wpAny _ _ _ _ _ (St s _ _)) (wpAny _ _ _ _ _ (St s _ _)))))); (with_reducible refine wpAny_execs_cons ?_); (with_reducible refine wpAny_Return_some ?_); (with_reducible refine Tuple_ ?_); (refine wpAny_items_cons ?_); (refine Call_ ?_); (refine' r_glob EO S R ?ze ?_ ?zhx ?zhd; (case zhx => exact rfl); (case ze => k_is); (case zhd => decide)); (refine' callWith_K ?zx ?zk ?_; (case zx => exact S.x); (case zk => k_is)); (refine wpAny_items_cons ?_); (refine' r_locS EO R ?zhv ?zhf ?_ ?zhx ?zhd; (case zhx => exact rfl); (case zhv => exact rfl); (case zhf => exact rfl); (case zhd => decide); intro _); (refine wpAny_items_cons ?_); (refine' r_locS EO R ?zhv ?zhf ?_ ?zhx ?zhd; (case zhx => exact rfl); (case zhv => exact rfl); (case zhf => exact rfl); (case zhd => decide); intro _); (refine wpAny_items_cons ?_); (with_reducible refine wpAny_BinOp ?_); (refine' r_locS EO R ?zhv ?zhf ?_ ?zhx ?zhd; (case zhx => exact rfl); (case zhv => exact rfl); (case zhf => exact rfl); (case zhd => decide); intro _); (refine' r_glob EO S R ?ze ?_ ?zhx ?zhd; (case zhx => exact rfl); (case ze => k_is); (case zhd => decide)); (with_reducible refine q_addf ?_); (with_reducible refine wpAny_items_nil ?_); (refine ⟨(Rep.stat R S).x, ?_⟩))
    refine spec_v AO S R ?_; clear R; intro _ _ _ R
    ((refine wpAny_items_cons ?_); (refine Call_ ?_); (refine' r_glob EO S R ?ze ?_ ?zhx ?zhd; (case zhx => exact rfl); (case ze => k_is); (case zhd => decide)); (refine' callWith_K ?zx ?zk ?_; (case zx => exact S.x); (case zk => k_is)); (refine wpAny_items_cons ?_); (refine' r_locS EO R ?zhv ?zhf ?_ ?zhx ?zhd; (case zhx => exact rfl); (case zhv => exact rfl); (case zhf => exact rfl); (case zhd => decide); intro _); (refine wpAny_items_cons ?_); (refine' r_locS EO R ?zhv ?zhf ?_ ?zhx ?zhd; (case zhx => exact rfl); (case zhv => exact rfl); (case zhf => exact rfl); (case zhd => decide); intro _); (refine wpAny_items_cons ?_); (refine' r_locS EO R ?zhv ?zhf ?_ ?zhx ?zhd; (case zhx => exact rfl); (case zhv => exact rfl); (case zhf => exact rfl); (case zhd => decide); intro _); (with_reducible refine wpAny_items_nil ?_); (refine ⟨(Rep.stat R S).x, ?_⟩))
    refine spec_v AO S R ?_; clear R; intro _ _ _ R
    ((refine wpAny_items_cons ?_); (refine Call_ ?_); (refine' r_glob EO S R ?ze ?_ ?zhx ?zhd; (case zhx => exact rfl); (case ze => k_is); (case zhd => decide)); (refine' callWith_K ?zx ?zk ?_; (case zx => exact S.x); (case zk => k_is)); (refine wpAny_items_cons ?_); (refine' r_locS EO R ?zhv ?zhf ?_ ?zhx ?zhd; (case zhx => exact rfl); (case zhv => exact rfl); (case zhf => exact rfl); (case zhd => decide); intro _); (refine wpAny_items_cons ?_); (refine' r_locS EO R ?zhv ?zhf ?_ ?zhx ?zhd; (case zhx => exact rfl); (case zhv => exact rfl); (case zhf => exact rfl); (case zhd => decide); intro _); (refine wpAny_items_cons ?_); (with_reducible refine wpAny_BinOp ?_); (refine' r_locS EO R ?zhv ?zhf ?_ ?zhx ?zhd; (case zhx => exact rfl); (case zhv => exact rfl); (case zhf => exact rfl); (case zhd => decide); intro _); (refine' r_glob EO S R ?ze ?_ ?zhx ?zhd; (case zhx => exact rfl); (case ze => k_is); (case zhd => decide)); (with_reducible refine q_subf ?_); (with_reducible refine wpAny_items_nil ?_); (refine ⟨(Rep.stat R S).x, ?_⟩))
    refine spec_v AO S R ?_; clear R; intro _ _ _ R
    ((with_reducible refine wpAny_items_nil ?_); (refine' r_newTuple R ?zhv ?_ ?zhs; (case zhv => (repeat (first | exact Bears.nil | (apply Bears.cons; (with_reducible first | exact Bear.int | exact Bear.float | exact Bear.str | exact Bear.bool | exact Bear.none | (refine' Bear.tup ?zb3; (case zb3 => (repeat (with_reducible first | exact List.mem_cons_self | refine List.mem_cons_of_mem _ ?_)))) | (refine' Bear.lst ?zb3; (case zb3 => (repeat (with_reducible first | exact List.mem_cons_self | refine List.mem_cons_of_mem _ ?_)))) | exact Bear.raw))))); (case zhs => exact of_decide_eq_true (by rfl)); clear R; intro _ h' R; (try (first | show wpAny _ _ _ _ _ (St s h' _) | show wpAny _ _ _ _ _ (St s _ _) | show codeAny _ _ _ _ (St s _ _) | show ite _ (wpAny _ _ _ _ _ (St s _ _)) (wpAny _ _ _ _ _ (St s _ _))))))
    exact h _ _ _ R.dropLed

end Mine

/-! S4 -/
namespace Mine
/-- the hue of rgb_to_hsv and rgb_to_hls -/
noncomputable def hueF (r g b maxc rangec : UInt64) : UInt64 :=
  let rc := Float64.div (Float64.sub maxc r) rangec
  let gc := Float64.div (Float64.sub maxc g) rangec
  let bc := Float64.div (Float64.sub maxc b) rangec
  let h := if feq r maxc then Float64.sub bc gc else if feq g maxc then Float64.sub (Float64.add c2 rc) bc else Float64.sub (Float64.add c4 gc) rc
  (Float64.divmod (Float64.div h c6) c1).2
noncomputable def rgbHsv (r g b : UInt64) : List V :=
  let maxc := fmax3 r g b
  let minc := fmin3 r g b
  let rangec := Float64.sub maxc minc
  if feq minc maxc then [.float 0, .float 0, .float maxc] else
  [.float (hueF r g b maxc rangec), .float (Float64.div rangec maxc), .float maxc]
noncomputable def hsvOk (r g b : UInt64) : Bool := feq (fmin3 r g b) (fmax3 r g b) || (!Float64.isZero (Float64.sub (fmax3 r g b) (fmin3 r g b)) && !Float64.isZero (fmax3 r g b))
noncomputable def rgbHls (r g b : UInt64) : List V :=
  let maxc := fmax3 r g b
  let minc := fmin3 r g b
  let sumc := Float64.add maxc minc
  let rangec := Float64.sub maxc minc
  let l := Float64.div sumc c2
  if feq minc maxc then [.float 0, .float l, .float 0] else
  [.float (hueF r g b maxc rangec), .float l, .float (if fle l ch then Float64.div rangec sumc else Float64.div rangec (Float64.sub (Float64.sub c2 maxc) minc))]
noncomputable def hlsOk (r g b : UInt64) : Bool := feq (fmin3 r g b) (fmax3 r g b) || (!Float64.isZero (Float64.sub (fmax3 r g b) (fmin3 r g b)) && !Float64.isZero (Float64.add (fmax3 r g b) (fmin3 r g b)) && !Float64.isZero (Float64.sub (Float64.sub c2 (fmax3 r g b)) (fmin3 r g b)))

theorem spec_rgbhsv {w : World} {A : Around} {E : Value → Shared → Prop} {s : Shared} {K₀ : Heap} {led : List (Nat × Mo)} {tmp : List (V × Nat)} {Q : Value → Shared → Prop} {n : Nat} {x y z : UInt64} {tx ty tz : Nat}
    (AO : AOk A (n + 1)) (S : Stat (hd.heap_39 w.params) K₀) (R : Rep K₀ led tmp s.heap) (ok : hsvOk x y z = true)
    (h : ∀ h' tk t, Rep K₀ led ((.tup (rgbHsv x y z), t) :: tmp) h' → Q (.ref t) (St s h' tk)) :
    wpAny (model PySem.Challenge.rw_uk0010_01.row.prog w) A (call (.ref 154) [.float x tx, .float y ty, .float z tz]) Q E s := by
  revert AO S R ok h
  k_fill
  intro AO S R ok h
  refine' r_enter (l := [("b", .float z), ("g", .float y), ("r", .float x)]) AO S R ?ho ?hcd ?hbind ?hcell ?hloc ?hrep ?_ ?c1 ?c2 ?c3
  ((case ho => k_is); (case hcd => k_is); (case hbind => first | exact BindsTo.of_eq rfl | exact binds_K (Rep.stat R S).x rfl (by k_is) rfl rfl rfl); (case hcell => decide); (case hloc => exact locs rfl); (case c1 => rfl); (case c2 => rfl); (case c3 => rfl))
  case hrep => intro B RB; exact (show Binds tmp _ _ by ((try dsimp only [List.reverse, List.reverseAux]); repeat (first | exact Binds.nil | (refine Binds.cons ?_ ?_; (with_reducible first | exact Bear.int | exact Bear.float | exact Bear.str | exact Bear.bool | exact Bear.none | (refine' Bear.tup ?zb3; (case zb3 => (repeat (with_reducible first | exact List.mem_cons_self | refine List.mem_cons_of_mem _ ?_)))) | (refine' Bear.lst ?zb3; (case zb3 => (repeat (with_reducible first | exact List.mem_cons_self | refine List.mem_cons_of_mem _ ?_)))) | exact Bear.raw))))) B RB.tmp
  clear R AO
  intro L h₁ tk env A' AO EO R
  unfold rgbHsv hueF feq at h
  unfold hsvOk feq at ok
  dsimp only at h
  ((with_reducible refine wpAny_execs_cons ?_); (refine wpAny_Assign_Name ?_); (refine Call_ ?_); (refine' r_bi EO S R ?ze ?zhv ?_ ?zhn ?zhx ?zhd; (case zhx => exact rfl); (case ze => k_is); (case zhv => boot_fast); (case zhn => decide); (case zhd => decide)); (refine callWith_method1 ?_); (refine wpAny_items_cons ?_); (refine' r_locS EO R ?zhv ?zhf ?_ ?zhx ?zhd; (case zhx => exact rfl); (case zhv => exact rfl); (case zhf => exact rfl); (case zhd => decide); intro _); (refine wpAny_items_cons ?_); (refine' r_locS EO R ?zhv ?zhf ?_ ?zhx ?zhd; (case zhx => exact rfl); (case zhv => exact rfl); (case zhf => exact rfl); (case zhd => decide); intro _); (refine wpAny_items_cons ?_); (refine' r_locS EO R ?zhv ?zhf ?_ ?zhx ?zhd; (case zhx => exact rfl); (case zhv => exact rfl); (case zhf => exact rfl); (case zhd => decide); intro _); (with_reducible refine wpAny_items_nil ?_); (refine' r_max3 AO R ?_; clear R; intro h' _ _ R; (try (first | show wpAny _ _ _ _ _ (St s h' _) | show wpAny _ _ _ _ _ (St s _ _) | show codeAny _ _ _ _ (St s _ _) | show ite _ (wpAny _ _ _ _ _ (St s _ _)) (wpAny _ _ _ _ _ (St s _ _))))); (refine' r_store EO R ?zhx ?zhv ?_; (case zhx => exact rfl); (case zhv => (with_reducible first | exact Bear.int | exact Bear.float | exact Bear.str | exact Bear.bool | exact Bear.none | (refine' Bear.tup ?zb3; (case zb3 => (repeat (with_reducible first | exact List.mem_cons_self | refine List.mem_cons_of_mem _ ?_)))) | (refine' Bear.lst ?zb3; (case zb3 => (repeat (with_reducible first | exact List.mem_cons_self | refine List.mem_cons_of_mem _ ?_)))) | exact Bear.raw)); clear R; intro h' _ R; (try (first | show wpAny _ _ _ _ _ (St s h' _) | show wpAny _ _ _ _ _ (St s _ _) | show codeAny _ _ _ _ (St s _ _) | show ite _ (wpAny _ _ _ _ _ (St s _ _)) (wpAny _ _ _ _ _ (St s _ _))))); (with_reducible refine wpAny_execs_cons ?_); (refine wpAny_Assign_Name ?_); (refine Call_ ?_); (refine' r_bi EO S R ?ze ?zhv ?_ ?zhn ?zhx ?zhd; (case zhx => exact rfl); (case ze => k_is); (case zhv => boot_fast); (case zhn => decide); (case zhd => decide)); (refine callWith_method1 ?_); (refine wpAny_items_cons ?_); (refine' r_locS EO R ?zhv ?zhf ?_ ?zhx ?zhd; (case zhx => exact rfl); (case zhv => exact rfl); (case zhf => exact rfl); (case zhd => decide); intro _); (refine wpAny_items_cons ?_); (refine' r_locS EO R ?zhv ?zhf ?_ ?zhx ?zhd; (case zhx => exact rfl); (case zhv => exact rfl); (case zhf => exact rfl); (case zhd => decide); intro _); (refine wpAny_items_cons ?_); (refine' r_locS EO R ?zhv ?zhf ?_ ?zhx ?zhd; (case zhx => exact rfl); (case zhv => exact rfl); (case zhf => exact rfl); (case zhd => decide); intro _); (with_reducible refine wpAny_items_nil ?_); (refine' r_min3 AO R ?_; clear R; intro h' _ _ R; (try (first | show wpAny _ _ _ _ _ (St s h' _) | show wpAny _ _ _ _ _ (St s _ _) | show codeAny _ _ _ _ (St s _ _) | show ite _ (wpAny _ _ _ _ _ (St s _ _)) (wpAny _ _ _ _ _ (St s _ _))))); (refine' r_store EO R ?zhx ?zhv ?_; (case zhx => exact rfl); (case zhv => (with_reducible first | exact Bear.int | exact Bear.float | exact Bear.str | exact Bear.bool | exact Bear.none | (refine' Bear.tup ?zb3; (case zb3 => (repeat (with_reducible first | exact List.mem_cons_self | refine List.mem_cons_of_mem _ ?_)))) | (refine' Bear.lst ?zb3; (case zb3 => (repeat (with_reducible first | exact List.mem_cons_self | refine List.mem_cons_of_mem _ ?_)))) | exact Bear.raw)); clear R; intro h' _ R; (try (first | show wpAny _ _ _ _ _ (St s h' _) | show wpAny _ _ _ _ _ (St s _ _) | show codeAny _ _ _ _ (St s _ _) | show ite _ (wpAny _ _ _ _ _ (St s _ _)) (wpAny _ _ _ _ _ (St s _ _))))); (refine' r_asgE EO AO R ?_ ?zhx; (case zhx => exact rfl); ((repeat (refine And.intro ?zc ?_; (case zc => (first | assumption | (with_unfolding_all decide +kernel) | omega)))); clear R; intro h' _ R; (try (first | show wpAny _ _ _ _ _ (St s h' _) | show wpAny _ _ _ _ _ (St s _ _) | show codeAny _ _ _ _ (St s _ _) | show ite _ (wpAny _ _ _ _ _ (St s _ _)) (wpAny _ _ _ _ _ (St s _ _)))))); (refine' r_asgE EO AO R ?_ ?zhx; (case zhx => exact rfl); ((repeat (refine And.intro ?zc ?_; (case zc => (first | assumption | (with_unfolding_all decide +kernel) | omega)))); clear R; intro h' _ R; (try (first | show wpAny _ _ _ _ _ (St s h' _) | show wpAny _ _ _ _ _ (St s _ _) | show codeAny _ _ _ _ (St s _ _) | show ite _ (wpAny _ _ _ _ _ (St s _ _)) (wpAny _ _ _ _ _ (St s _ _)))))); (with_reducible refine wpAny_execs_cons ?_); (with_reducible refine wpAny_If ?_); (with_reducible refine wpAny_isTrue_Compare1 ?_); (refine' r_locS EO R ?zhv ?zhf ?_ ?zhx ?zhd; (case zhx => exact rfl); (case zhv => exact rfl); (case zhf => exact rfl); (case zhd => decide); intro _); (refine' r_locS EO R ?zhv ?zhf ?_ ?zhx ?zhd; (case zhx => exact rfl); (case zhv => exact rfl); (case zhf => exact rfl); (case zhd => decide); intro _); (with_reducible refine AutoFloatOps.eq_0 ?_); (with_reducible refine wpAny_truthy_bool ?_))
  ((refine split_bool ?_ ?_ <;> intro hc))
  · rw [ifT hc] at h; ((with_reducible refine wpAny_execs_cons ?_); (with_reducible refine wpAny_Return_some ?_); (refine' r_tupE EO AO R ?_ ?zhs; (case zhs => exact of_decide_eq_true rfl); ((repeat (refine And.intro ?zc ?_; (case zc => (first | assumption | (with_unfolding_all decide +kernel) | omega)))); clear R; intro h' _ _ R; (try (first | show wpAny _ _ _ _ _ (St s h' _) | show wpAny _ _ _ _ _ (St s _ _) | show codeAny _ _ _ _ (St s _ _) | show ite _ (wpAny _ _ _ _ _ (St s _ _)) (wpAny _ _ _ _ _ (St s _ _))))))); exact h _ _ _ R.dropLed
  rw [ifF hc] at h
  rw [hc] at ok
  simp only [Bool.false_or, Bool.and_eq_true, Bool.not_eq_true'] at ok
  obtain ⟨z1, z2⟩ := ok
  ((with_reducible refine wpAny_execs_nil ?_); (refine' r_asgE EO AO R ?_ ?zhx; (case zhx => exact rfl); ((repeat (refine And.intro ?zc ?_; (case zc => (first | assumption | (with_unfolding_all decide +kernel) | omega)))); clear R; intro h' _ R; (try (first | show wpAny _ _ _ _ _ (St s h' _) | show wpAny _ _ _ _ _ (St s _ _) | show codeAny _ _ _ _ (St s _ _) | show ite _ (wpAny _ _ _ _ _ (St s _ _)) (wpAny _ _ _ _ _ (St s _ _)))))); (refine' r_asgE EO AO R ?_ ?zhx; (case zhx => exact rfl); ((repeat (refine And.intro ?zc ?_; (case zc => (first | assumption | (with_unfolding_all decide +kernel) | omega)))); clear R; intro h' _ R; (try (first | show wpAny _ _ _ _ _ (St s h' _) | show wpAny _ _ _ _ _ (St s _ _) | show codeAny _ _ _ _ (St s _ _) | show ite _ (wpAny _ _ _ _ _ (St s _ _)) (wpAny _ _ _ _ _ (St s _ _)))))); (refine' r_asgE EO AO R ?_ ?zhx; (case zhx => exact rfl); ((repeat (refine And.intro ?zc ?_; (case zc => (first | assumption | (with_unfolding_all decide +kernel) | omega)))); clear R; intro h' _ R; (try (first | show wpAny _ _ _ _ _ (St s h' _) | show wpAny _ _ _ _ _ (St s _ _) | show codeAny _ _ _ _ (St s _ _) | show ite _ (wpAny _ _ _ _ _ (St s _ _)) (wpAny _ _ _ _ _ (St s _ _)))))); (refine' r_asgE EO AO R ?_ ?zhx; (case zhx => exact rfl); ((repeat (refine And.intro ?zc ?_; (case zc => (first | assumption | (with_unfolding_all decide +kernel) | omega)))); clear R; intro h' _ R; (try (first | show wpAny _ _ _ _ _ (St s h' _) | show wpAny _ _ _ _ _ (St s _ _) | show codeAny _ _ _ _ (St s _ _) | show ite _ (wpAny _ _ _ _ _ (St s _ _)) (wpAny _ _ _ _ _ (St s _ _)))))); (with_reducible refine wpAny_execs_cons ?_); (with_reducible refine wpAny_If ?_); (with_reducible refine wpAny_isTrue_Compare1 ?_); (refine' r_locS EO R ?zhv ?zhf ?_ ?zhx ?zhd; (case zhx => exact rfl); (case zhv => exact rfl); (case zhf => exact rfl); (case zhd => decide); intro _); (refine' r_locS EO R ?zhv ?zhf ?_ ?zhx ?zhd; (case zhx => exact rfl); (case zhv => exact rfl); (case zhf => exact rfl); (case zhd => decide); intro _); (with_reducible refine AutoFloatOps.eq_0 ?_); (with_reducible refine wpAny_truthy_bool ?_))
  ((refine split_bool ?_ ?_ <;> intro hc))
  · rw [ifT hc] at h; ((refine' r_asgE EO AO R ?_ ?zhx; (case zhx => exact rfl); ((repeat (refine And.intro ?zc ?_; (case zc => (first | assumption | (with_unfolding_all decide +kernel) | omega)))); clear R; intro h' _ R; (try (first | show wpAny _ _ _ _ _ (St s h' _) | show wpAny _ _ _ _ _ (St s _ _) | show codeAny _ _ _ _ (St s _ _) | show ite _ (wpAny _ _ _ _ _ (St s _ _)) (wpAny _ _ _ _ _ (St s _ _)))))); (with_reducible refine wpAny_execs_nil ?_); (refine' r_asgE EO AO R ?_ ?zhx; (case zhx => exact rfl); ((repeat (refine And.intro ?zc ?_; (case zc => (first | assumption | (with_unfolding_all decide +kernel) | omega)))); clear R; intro h' _ R; (try (first | show wpAny _ _ _ _ _ (St s h' _) | show wpAny _ _ _ _ _ (St s _ _) | show codeAny _ _ _ _ (St s _ _) | show ite _ (wpAny _ _ _ _ _ (St s _ _)) (wpAny _ _ _ _ _ (St s _ _)))))); (with_reducible refine wpAny_execs_cons ?_); (with_reducible refine wpAny_Return_some ?_); (refine' r_tupE EO AO R ?_ ?zhs; (case zhs => exact of_decide_eq_true rfl); ((repeat (refine And.intro ?zc ?_; (case zc => (first | assumption | (with_unfolding_all decide +kernel) | omega)))); clear R; intro h' _ _ R; (try (first | show wpAny _ _ _ _ _ (St s h' _) | show wpAny _ _ _ _ _ (St s _ _) | show codeAny _ _ _ _ (St s _ _) | show ite _ (wpAny _ _ _ _ _ (St s _ _)) (wpAny _ _ _ _ _ (St s _ _))))))); exact h _ _ _ R.dropLed
  rw [ifF hc] at h
  ((with_reducible refine wpAny_execs_cons ?_); (with_reducible refine wpAny_If ?_); (with_reducible refine wpAny_isTrue_Compare1 ?_); (refine' r_locS EO R ?zhv ?zhf ?_ ?zhx ?zhd; (case zhx => exact rfl); (case zhv => exact rfl); (case zhf => exact rfl); (case zhd => decide); intro _); (refine' r_locS EO R ?zhv ?zhf ?_ ?zhx ?zhd; (case zhx => exact rfl); (case zhv => exact rfl); (case zhf => exact rfl); (case zhd => decide); intro _); (with_reducible refine AutoFloatOps.eq_0 ?_); (with_reducible refine wpAny_truthy_bool ?_))
  ((refine split_bool ?_ ?_ <;> intro hc))
  · rw [ifT hc] at h; ((refine' r_asgE EO AO R ?_ ?zhx; (case zhx => exact rfl); ((repeat (refine And.intro ?zc ?_; (case zc => (first | assumption | (with_unfolding_all decide +kernel) | omega)))); clear R; intro h' _ R; (try (first | show wpAny _ _ _ _ _ (St s h' _) | show wpAny _ _ _ _ _ (St s _ _) | show codeAny _ _ _ _ (St s _ _) | show ite _ (wpAny _ _ _ _ _ (St s _ _)) (wpAny _ _ _ _ _ (St s _ _)))))); (with_reducible refine wpAny_execs_nil ?_); (with_reducible refine wpAny_execs_nil ?_); (refine' r_asgE EO AO R ?_ ?zhx; (case zhx => exact rfl); ((repeat (refine And.intro ?zc ?_; (case zc => (first | assumption | (with_unfolding_all decide +kernel) | omega)))); clear R; intro h' _ R; (try (first | show wpAny _ _ _ _ _ (St s h' _) | show wpAny _ _ _ _ _ (St s _ _) | show codeAny _ _ _ _ (St s _ _) | show ite _ (wpAny _ _ _ _ _ (St s _ _)) (wpAny _ _ _ _ _ (St s _ _)))))); (with_reducible refine wpAny_execs_cons ?_); (with_reducible refine wpAny_Return_some ?_); (refine' r_tupE EO AO R ?_ ?zhs; (case zhs => exact of_decide_eq_true rfl); ((repeat (refine And.intro ?zc ?_; (case zc => (first | assumption | (with_unfolding_all decide +kernel) | omega)))); clear R; intro h' _ _ R; (try (first | show wpAny _ _ _ _ _ (St s h' _) | show wpAny _ _ _ _ _ (St s _ _) | show codeAny _ _ _ _ (St s _ _) | show ite _ (wpAny _ _ _ _ _ (St s _ _)) (wpAny _ _ _ _ _ (St s _ _))))))); exact h _ _ _ R.dropLed
  rw [ifF hc] at h
  ((refine' r_asgE EO AO R ?_ ?zhx; (case zhx => exact rfl); ((repeat (refine And.intro ?zc ?_; (case zc => (first | assumption | (with_unfolding_all decide +kernel) | omega)))); clear R; intro h' _ R; (try (first | show wpAny _ _ _ _ _ (St s h' _) | show wpAny _ _ _ _ _ (St s _ _) | show codeAny _ _ _ _ (St s _ _) | show ite _ (wpAny _ _ _ _ _ (St s _ _)) (wpAny _ _ _ _ _ (St s _ _)))))); (with_reducible refine wpAny_execs_nil ?_); (with_reducible refine wpAny_execs_nil ?_); (refine' r_asgE EO AO R ?_ ?zhx; (case zhx => exact rfl); ((repeat (refine And.intro ?zc ?_; (case zc => (first | assumption | (with_unfolding_all decide +kernel) | omega)))); clear R; intro h' _ R; (try (first | show wpAny _ _ _ _ _ (St s h' _) | show wpAny _ _ _ _ _ (St s _ _) | show codeAny _ _ _ _ (St s _ _) | show ite _ (wpAny _ _ _ _ _ (St s _ _)) (wpAny _ _ _ _ _ (St s _ _)))))); (with_reducible refine wpAny_execs_cons ?_); (with_reducible refine wpAny_Return_some ?_); (refine' r_tupE EO AO R ?_ ?zhs; (case zhs => exact of_decide_eq_true rfl); ((repeat (refine And.intro ?zc ?_; (case zc => (first | assumption | (with_unfolding_all decide +kernel) | omega)))); clear R; intro h' _ _ R; (try (first | show wpAny _ _ _ _ _ (St s h' _) | show wpAny _ _ _ _ _ (St s _ _) | show codeAny _ _ _ _ (St s _ _) | show ite _ (wpAny _ _ _ _ _ (St s _ _)) (wpAny _ _ _ _ _ (St s _ _)))))))
  exact h _ _ _ R.dropLed
theorem spec_rgbhls {w : World} {A : Around} {E : Value → Shared → Prop} {s : Shared} {K₀ : Heap} {led : List (Nat × Mo)} {tmp : List (V × Nat)} {Q : Value → Shared → Prop} {n : Nat} {x y z : UInt64} {tx ty tz : Nat}
    (AO : AOk A (n + 1)) (S : Stat (hd.heap_39 w.params) K₀) (R : Rep K₀ led tmp s.heap) (ok : hlsOk x y z = true)
    (h : ∀ h' tk t, Rep K₀ led ((.tup (rgbHls x y z), t) :: tmp) h' → Q (.ref t) (St s h' tk)) :
    wpAny (model PySem.Challenge.rw_uk0010_01.row.prog w) A (call (.ref 133) [.float x tx, .float y ty, .float z tz]) Q E s := by
  revert AO S R ok h
  k_fill
  intro AO S R ok h
  refine' r_enter (l := [("b", .float z), ("g", .float y), ("r", .float x)]) AO S R ?ho ?hcd ?hbind ?hcell ?hloc ?hrep ?_ ?c1 ?c2 ?c3
  ((case ho => k_is); (case hcd => k_is); (case hbind => first | exact BindsTo.of_eq rfl | exact binds_K (Rep.stat R S).x rfl (by k_is) rfl rfl rfl); (case hcell => decide); (case hloc => exact locs rfl); (case c1 => rfl); (case c2 => rfl); (case c3 => rfl))
  case hrep => intro B RB; exact (show Binds tmp _ _ by ((try dsimp only [List.reverse, List.reverseAux]); repeat (first | exact Binds.nil | (refine Binds.cons ?_ ?_; (with_reducible first | exact Bear.int | exact Bear.float | exact Bear.str | exact Bear.bool | exact Bear.none | (refine' Bear.tup ?zb3; (case zb3 => (repeat (with_reducible first | exact List.mem_cons_self | refine List.mem_cons_of_mem _ ?_)))) | (refine' Bear.lst ?zb3; (case zb3 => (repeat (with_reducible first | exact List.mem_cons_self | refine List.mem_cons_of_mem _ ?_)))) | exact Bear.raw))))) B RB.tmp
  clear R AO
  intro L h₁ tk env A' AO EO R
  unfold rgbHls hueF feq fle at h
  unfold hlsOk feq at ok
  dsimp only at h
  ((with_reducible refine wpAny_execs_cons ?_); (refine wpAny_Assign_Name ?_); (refine Call_ ?_); (refine' r_bi EO S R ?ze ?zhv ?_ ?zhn ?zhx ?zhd; (case zhx => exact rfl); (case ze => k_is); (case zhv => boot_fast); (case zhn => decide); (case zhd => decide)); (refine callWith_method1 ?_); (refine wpAny_items_cons ?_); (refine' r_locS EO R ?zhv ?zhf ?_ ?zhx ?zhd; (case zhx => exact rfl); (case zhv => exact rfl); (case zhf => exact rfl); (case zhd => decide); intro _); (refine wpAny_items_cons ?_); (refine' r_locS EO R ?zhv ?zhf ?_ ?zhx ?zhd; (case zhx => exact rfl); (case zhv => exact rfl); (case zhf => exact rfl); (case zhd => decide); intro _); (refine wpAny_items_cons ?_); (refine' r_locS EO R ?zhv ?zhf ?_ ?zhx ?zhd; (case zhx => exact rfl); (case zhv => exact rfl); (case zhf => exact rfl); (case zhd => decide); intro _); (with_reducible refine wpAny_items_nil ?_); (refine' r_max3 AO R ?_; clear R; intro h' _ _ R; (try (first | show wpAny _ _ _ _ _ (St s h' _) | show wpAny _ _ _ _ _ (St s _ _) | show codeAny _ _ _ _ (St s _ _) | show ite _ (wpAny _ _ _ _ _ (St s _ _)) (wpAny _ _ _ _ _ (St s _ _))))); (refine' r_store EO R ?zhx ?zhv ?_; (case zhx => exact rfl); (case zhv => (with_reducible first | exact Bear.int | exact Bear.float | exact Bear.str | exact Bear.bool | exact Bear.none | (refine' Bear.tup ?zb3; (case zb3 => (repeat (with_reducible first | exact List.mem_cons_self | refine List.mem_cons_of_mem _ ?_)))) | (refine' Bear.lst ?zb3; (case zb3 => (repeat (with_reducible first | exact List.mem_cons_self | refine List.mem_cons_of_mem _ ?_)))) | exact Bear.raw)); clear R; intro h' _ R; (try (first | show wpAny _ _ _ _ _ (St s h' _) | show wpAny _ _ _ _ _ (St s _ _) | show codeAny _ _ _ _ (St s _ _) | show ite _ (wpAny _ _ _ _ _ (St s _ _)) (wpAny _ _ _ _ _ (St s _ _))))); (with_reducible refine wpAny_execs_cons ?_); (refine wpAny_Assign_Name ?_); (refine Call_ ?_); (refine' r_bi EO S R ?ze ?zhv ?_ ?zhn ?zhx ?zhd; (case zhx => exact rfl); (case ze => k_is); (case zhv => boot_fast); (case zhn => decide); (case zhd => decide)); (refine callWith_method1 ?_); (refine wpAny_items_cons ?_); (refine' r_locS EO R ?zhv ?zhf ?_ ?zhx ?zhd; (case zhx => exact rfl); (case zhv => exact rfl); (case zhf => exact rfl); (case zhd => decide); intro _); (refine wpAny_items_cons ?_); (refine' r_locS EO R ?zhv ?zhf ?_ ?zhx ?zhd; (case zhx => exact rfl); (case zhv => exact rfl); (case zhf => exact rfl); (case zhd => decide); intro _); (refine wpAny_items_cons ?_); (refine' r_locS EO R ?zhv ?zhf ?_ ?zhx ?zhd; (case zhx => exact rfl); (case zhv => exact rfl); (case zhf => exact rfl); (case zhd => decide); intro _); (with_reducible refine wpAny_items_nil ?_); (refine' r_min3 AO R ?_; clear R; intro h' _ _ R; (try (first | show wpAny _ _ _ _ _ (St s h' _) | show wpAny _ _ _ _ _ (St s _ _) | show codeAny _ _ _ _ (St s _ _) | show ite _ (wpAny _ _ _ _ _ (St s _ _)) (wpAny _ _ _ _ _ (St s _ _))))); (refine' r_store EO R ?zhx ?zhv ?_; (case zhx => exact rfl); (case zhv => (with_reducible first | exact Bear.int | exact Bear.float | exact Bear.str | exact Bear.bool | exact Bear.none | (refine' Bear.tup ?zb3; (case zb3 => (repeat (with_reducible first | exact List.mem_cons_self | refine List.mem_cons_of_mem _ ?_)))) | (refine' Bear.lst ?zb3; (case zb3 => (repeat (with_reducible first | exact List.mem_cons_self | refine List.mem_cons_of_mem _ ?_)))) | exact Bear.raw)); clear R; intro h' _ R; (try (first | show wpAny _ _ _ _ _ (St s h' _) | show wpAny _ _ _ _ _ (St s _ _) | show codeAny _ _ _ _ (St s _ _) | show ite _ (wpAny _ _ _ _ _ (St s _ _)) (wpAny _ _ _ _ _ (St s _ _))))); (refine' r_asgE EO AO R ?_ ?zhx; (case zhx => exact rfl); ((repeat (refine And.intro ?zc ?_; (case zc => (first | assumption | (with_unfolding_all decide +kernel) | omega)))); clear R; intro h' _ R; (try (first | show wpAny _ _ _ _ _ (St s h' _) | show wpAny _ _ _ _ _ (St s _ _) | show codeAny _ _ _ _ (St s _ _) | show ite _ (wpAny _ _ _ _ _ (St s _ _)) (wpAny _ _ _ _ _ (St s _ _)))))); (refine' r_asgE EO AO R ?_ ?zhx; (case zhx => exact rfl); ((repeat (refine And.intro ?zc ?_; (case zc => (first | assumption | (with_unfolding_all decide +kernel) | omega)))); clear R; intro h' _ R; (try (first | show wpAny _ _ _ _ _ (St s h' _) | show wpAny _ _ _ _ _ (St s _ _) | show codeAny _ _ _ _ (St s _ _) | show ite _ (wpAny _ _ _ _ _ (St s _ _)) (wpAny _ _ _ _ _ (St s _ _)))))); (refine' r_asgE EO AO R ?_ ?zhx; (case zhx => exact rfl); ((repeat (refine And.intro ?zc ?_; (case zc => (first | assumption | (with_unfolding_all decide +kernel) | omega)))); clear R; intro h' _ R; (try (first | show wpAny _ _ _ _ _ (St s h' _) | show wpAny _ _ _ _ _ (St s _ _) | show codeAny _ _ _ _ (St s _ _) | show ite _ (wpAny _ _ _ _ _ (St s _ _)) (wpAny _ _ _ _ _ (St s _ _)))))); (with_reducible refine wpAny_execs_cons ?_); (with_reducible refine wpAny_If ?_); (with_reducible refine wpAny_isTrue_Compare1 ?_); (refine' r_locS EO R ?zhv ?zhf ?_ ?zhx ?zhd; (case zhx => exact rfl); (case zhv => exact rfl); (case zhf => exact rfl); (case zhd => decide); intro _); (refine' r_locS EO R ?zhv ?zhf ?_ ?zhx ?zhd; (case zhx => exact rfl); (case zhv => exact rfl); (case zhf => exact rfl); (case zhd => decide); intro _); (with_reducible refine AutoFloatOps.eq_0 ?_); (with_reducible refine wpAny_truthy_bool ?_))
  ((refine split_bool ?_ ?_ <;> intro hc))
  · rw [ifT hc] at h; ((with_reducible refine wpAny_execs_cons ?_); (with_reducible refine wpAny_Return_some ?_); (refine' r_tupE EO AO R ?_ ?zhs; (case zhs => exact of_decide_eq_true rfl); ((repeat (refine And.intro ?zc ?_; (case zc => (first | assumption | (with_unfolding_all decide +kernel) | omega)))); clear R; intro h' _ _ R; (try (first | show wpAny _ _ _ _ _ (St s h' _) | show wpAny _ _ _ _ _ (St s _ _) | show codeAny _ _ _ _ (St s _ _) | show ite _ (wpAny _ _ _ _ _ (St s _ _)) (wpAny _ _ _ _ _ (St s _ _))))))); exact h _ _ _ R.dropLed
  rw [ifF hc] at h
  rw [hc] at ok
  simp only [Bool.false_or, Bool.and_eq_true, Bool.not_eq_true'] at ok
  obtain ⟨⟨z1, z2⟩, z3⟩ := ok
  ((with_reducible refine wpAny_execs_nil ?_); (with_reducible refine wpAny_execs_cons ?_); (with_reducible refine wpAny_If ?_); (with_reducible refine wpAny_isTrue_Compare1 ?_); (refine' r_locS EO R ?zhv ?zhf ?_ ?zhx ?zhd; (case zhx => exact rfl); (case zhv => exact rfl); (case zhf => exact rfl); (case zhd => decide); intro _); (with_reducible refine q_cfloat ?_); (with_reducible refine AutoFloatOps.le_0 ?_); (with_reducible refine wpAny_truthy_bool ?_))
  ((refine split_bool ?_ ?_ <;> intro hc))
  · rw [ifT (b := (Float64.cmp _ ch == _ || _)) hc] at h
    ((refine' r_asgE EO AO R ?_ ?zhx; (case zhx => exact rfl); ((repeat (refine And.intro ?zc ?_; (case zc => (first | assumption | (with_unfolding_all decide +kernel) | omega)))); clear R; intro h' _ R; (try (first | show wpAny _ _ _ _ _ (St s h' _) | show wpAny _ _ _ _ _ (St s _ _) | show codeAny _ _ _ _ (St s _ _) | show ite _ (wpAny _ _ _ _ _ (St s _ _)) (wpAny _ _ _ _ _ (St s _ _)))))); (with_reducible refine wpAny_execs_nil ?_); (refine' r_asgE EO AO R ?_ ?zhx; (case zhx => exact rfl); ((repeat (refine And.intro ?zc ?_; (case zc => (first | assumption | (with_unfolding_all decide +kernel) | omega)))); clear R; intro h' _ R; (try (first | show wpAny _ _ _ _ _ (St s h' _) | show wpAny _ _ _ _ _ (St s _ _) | show codeAny _ _ _ _ (St s _ _) | show ite _ (wpAny _ _ _ _ _ (St s _ _)) (wpAny _ _ _ _ _ (St s _ _)))))); (refine' r_asgE EO AO R ?_ ?zhx; (case zhx => exact rfl); ((repeat (refine And.intro ?zc ?_; (case zc => (first | assumption | (with_unfolding_all decide +kernel) | omega)))); clear R; intro h' _ R; (try (first | show wpAny _ _ _ _ _ (St s h' _) | show wpAny _ _ _ _ _ (St s _ _) | show codeAny _ _ _ _ (St s _ _) | show ite _ (wpAny _ _ _ _ _ (St s _ _)) (wpAny _ _ _ _ _ (St s _ _)))))); (refine' r_asgE EO AO R ?_ ?zhx; (case zhx => exact rfl); ((repeat (refine And.intro ?zc ?_; (case zc => (first | assumption | (with_unfolding_all decide +kernel) | omega)))); clear R; intro h' _ R; (try (first | show wpAny _ _ _ _ _ (St s h' _) | show wpAny _ _ _ _ _ (St s _ _) | show codeAny _ _ _ _ (St s _ _) | show ite _ (wpAny _ _ _ _ _ (St s _ _)) (wpAny _ _ _ _ _ (St s _ _)))))); (with_reducible refine wpAny_execs_cons ?_); (with_reducible refine wpAny_If ?_); (with_reducible refine wpAny_isTrue_Compare1 ?_); (refine' r_locS EO R ?zhv ?zhf ?_ ?zhx ?zhd; (case zhx => exact rfl); (case zhv => exact rfl); (case zhf => exact rfl); (case zhd => decide); intro _); (refine' r_locS EO R ?zhv ?zhf ?_ ?zhx ?zhd; (case zhx => exact rfl); (case zhv => exact rfl); (case zhf => exact rfl); (case zhd => decide); intro _); (with_reducible refine AutoFloatOps.eq_0 ?_); (with_reducible refine wpAny_truthy_bool ?_))
    ((refine split_bool ?_ ?_ <;> intro hc))
    · rw [ifT hc] at h; ((refine' r_asgE EO AO R ?_ ?zhx; (case zhx => exact rfl); ((repeat (refine And.intro ?zc ?_; (case zc => (first | assumption | (with_unfolding_all decide +kernel) | omega)))); clear R; intro h' _ R; (try (first | show wpAny _ _ _ _ _ (St s h' _) | show wpAny _ _ _ _ _ (St s _ _) | show codeAny _ _ _ _ (St s _ _) | show ite _ (wpAny _ _ _ _ _ (St s _ _)) (wpAny _ _ _ _ _ (St s _ _)))))); (with_reducible refine wpAny_execs_nil ?_); (refine' r_asgE EO AO R ?_ ?zhx; (case zhx => exact rfl); ((repeat (refine And.intro ?zc ?_; (case zc => (first | assumption | (with_unfolding_all decide +kernel) | omega)))); clear R; intro h' _ R; (try (first | show wpAny _ _ _ _ _ (St s h' _) | show wpAny _ _ _ _ _ (St s _ _) | show codeAny _ _ _ _ (St s _ _) | show ite _ (wpAny _ _ _ _ _ (St s _ _)) (wpAny _ _ _ _ _ (St s _ _)))))); (with_reducible refine wpAny_execs_cons ?_); (with_reducible refine wpAny_Return_some ?_); (refine' r_tupE EO AO R ?_ ?zhs; (case zhs => exact of_decide_eq_true rfl); ((repeat (refine And.intro ?zc ?_; (case zc => (first | assumption | (with_unfolding_all decide +kernel) | omega)))); clear R; intro h' _ _ R; (try (first | show wpAny _ _ _ _ _ (St s h' _) | show wpAny _ _ _ _ _ (St s _ _) | show codeAny _ _ _ _ (St s _ _) | show ite _ (wpAny _ _ _ _ _ (St s _ _)) (wpAny _ _ _ _ _ (St s _ _))))))); exact h _ _ _ R.dropLed
    rw [ifF hc] at h
    ((with_reducible refine wpAny_execs_cons ?_); (with_reducible refine wpAny_If ?_); (with_reducible refine wpAny_isTrue_Compare1 ?_); (refine' r_locS EO R ?zhv ?zhf ?_ ?zhx ?zhd; (case zhx => exact rfl); (case zhv => exact rfl); (case zhf => exact rfl); (case zhd => decide); intro _); (refine' r_locS EO R ?zhv ?zhf ?_ ?zhx ?zhd; (case zhx => exact rfl); (case zhv => exact rfl); (case zhf => exact rfl); (case zhd => decide); intro _); (with_reducible refine AutoFloatOps.eq_0 ?_); (with_reducible refine wpAny_truthy_bool ?_))
    ((refine split_bool ?_ ?_ <;> intro hc))
    · rw [ifT hc] at h; ((refine' r_asgE EO AO R ?_ ?zhx; (case zhx => exact rfl); ((repeat (refine And.intro ?zc ?_; (case zc => (first | assumption | (with_unfolding_all decide +kernel) | omega)))); clear R; intro h' _ R; (try (first | show wpAny _ _ _ _ _ (St s h' _) | show wpAny _ _ _ _ _ (St s _ _) | show codeAny _ _ _ _ (St s _ _) | show ite _ (wpAny _ _ _ _ _ (St s _ _)) (wpAny _ _ _ _ _ (St s _ _)))))); (with_reducible refine wpAny_execs_nil ?_); (with_reducible refine wpAny_execs_nil ?_); (refine' r_asgE EO AO R ?_ ?zhx; (case zhx => exact rfl); ((repeat (refine And.intro ?zc ?_; (case zc => (first | assumption | (with_unfolding_all decide +kernel) | omega)))); clear R; intro h' _ R; (try (first | show wpAny _ _ _ _ _ (St s h' _) | show wpAny _ _ _ _ _ (St s _ _) | show codeAny _ _ _ _ (St s _ _) | show ite _ (wpAny _ _ _ _ _ (St s _ _)) (wpAny _ _ _ _ _ (St s _ _)))))); (with_reducible refine wpAny_execs_cons ?_); (with_reducible refine wpAny_Return_some ?_); (refine' r_tupE EO AO R ?_ ?zhs; (case zhs => exact of_decide_eq_true rfl); ((repeat (refine And.intro ?zc ?_; (case zc => (first | assumption | (with_unfolding_all decide +kernel) | omega)))); clear R; intro h' _ _ R; (try (first | show wpAny _ _ _ _ _ (St s h' _) | show wpAny _ _ _ _ _ (St s _ _) | show codeAny _ _ _ _ (St s _ _) | show ite _ (wpAny _ _ _ _ _ (St s _ _)) (wpAny _ _ _ _ _ (St s _ _))))))); exact h _ _ _ R.dropLed
    rw [ifF hc] at h
    ((refine' r_asgE EO AO R ?_ ?zhx; (case zhx => exact rfl); ((repeat (refine And.intro ?zc ?_; (case zc => (first | assumption | (with_unfolding_all decide +kernel) | omega)))); clear R; intro h' _ R; (try (first | show wpAny _ _ _ _ _ (St s h' _) | show wpAny _ _ _ _ _ (St s _ _) | show codeAny _ _ _ _ (St s _ _) | show ite _ (wpAny _ _ _ _ _ (St s _ _)) (wpAny _ _ _ _ _ (St s _ _)))))); (with_reducible refine wpAny_execs_nil ?_); (with_reducible refine wpAny_execs_nil ?_); (refine' r_asgE EO AO R ?_ ?zhx; (case zhx => exact rfl); ((repeat (refine And.intro ?zc ?_; (case zc => (first | assumption | (with_unfolding_all decide +kernel) | omega)))); clear R; intro h' _ R; (try (first | show wpAny _ _ _ _ _ (St s h' _) | show wpAny _ _ _ _ _ (St s _ _) | show codeAny _ _ _ _ (St s _ _) | show ite _ (wpAny _ _ _ _ _ (St s _ _)) (wpAny _ _ _ _ _ (St s _ _)))))); (with_reducible refine wpAny_execs_cons ?_); (with_reducible refine wpAny_Return_some ?_); (refine' r_tupE EO AO R ?_ ?zhs; (case zhs => exact of_decide_eq_true rfl); ((repeat (refine And.intro ?zc ?_; (case zc => (first | assumption | (with_unfolding_all decide +kernel) | omega)))); clear R; intro h' _ _ R; (try (first | show wpAny _ _ _ _ _ (St s h' _) | show wpAny _ _ _ _ _ (St s _ _) | show codeAny _ _ _ _ (St s _ _) | show ite _ (wpAny _ _ _ _ _ (St s _ _)) (wpAny _ _ _ _ _ (St s _ _)))))))
    exact h _ _ _ R.dropLed
  · rw [ifF (b := (Float64.cmp _ ch == _ || _)) hc] at h
    ((refine' r_asgE EO AO R ?_ ?zhx; (case zhx => exact rfl); ((repeat (refine And.intro ?zc ?_; (case zc => (first | assumption | (with_unfolding_all decide +kernel) | omega)))); clear R; intro h' _ R; (try (first | show wpAny _ _ _ _ _ (St s h' _) | show wpAny _ _ _ _ _ (St s _ _) | show codeAny _ _ _ _ (St s _ _) | show ite _ (wpAny _ _ _ _ _ (St s _ _)) (wpAny _ _ _ _ _ (St s _ _)))))); (with_reducible refine wpAny_execs_nil ?_); (refine' r_asgE EO AO R ?_ ?zhx; (case zhx => exact rfl); ((repeat (refine And.intro ?zc ?_; (case zc => (first | assumption | (with_unfolding_all decide +kernel) | omega)))); clear R; intro h' _ R; (try (first | show wpAny _ _ _ _ _ (St s h' _) | show wpAny _ _ _ _ _ (St s _ _) | show codeAny _ _ _ _ (St s _ _) | show ite _ (wpAny _ _ _ _ _ (St s _ _)) (wpAny _ _ _ _ _ (St s _ _)))))); (refine' r_asgE EO AO R ?_ ?zhx; (case zhx => exact rfl); ((repeat (refine And.intro ?zc ?_; (case zc => (first | assumption | (with_unfolding_all decide +kernel) | omega)))); clear R; intro h' _ R; (try (first | show wpAny _ _ _ _ _ (St s h' _) | show wpAny _ _ _ _ _ (St s _ _) | show codeAny _ _ _ _ (St s _ _) | show ite _ (wpAny _ _ _ _ _ (St s _ _)) (wpAny _ _ _ _ _ (St s _ _)))))); (refine' r_asgE EO AO R ?_ ?zhx; (case zhx => exact rfl); ((repeat (refine And.intro ?zc ?_; (case zc => (first | assumption | (with_unfolding_all decide +kernel) | omega)))); clear R; intro h' _ R; (try (first | show wpAny _ _ _ _ _ (St s h' _) | show wpAny _ _ _ _ _ (St s _ _) | show codeAny _ _ _ _ (St s _ _) | show ite _ (wpAny _ _ _ _ _ (St s _ _)) (wpAny _ _ _ _ _ (St s _ _)))))); (with_reducible refine wpAny_execs_cons ?_); (with_reducible refine wpAny_If ?_); (with_reducible refine wpAny_isTrue_Compare1 ?_); (refine' r_locS EO R ?zhv ?zhf ?_ ?zhx ?zhd; (case zhx => exact rfl); (case zhv => exact rfl); (case zhf => exact rfl); (case zhd => decide); intro _); (refine' r_locS EO R ?zhv ?zhf ?_ ?zhx ?zhd; (case zhx => exact rfl); (case zhv => exact rfl); (case zhf => exact rfl); (case zhd => decide); intro _); (with_reducible refine AutoFloatOps.eq_0 ?_); (with_reducible refine wpAny_truthy_bool ?_))
    ((refine split_bool ?_ ?_ <;> intro hc))
    · rw [ifT hc] at h; ((refine' r_asgE EO AO R ?_ ?zhx; (case zhx => exact rfl); ((repeat (refine And.intro ?zc ?_; (case zc => (first | assumption | (with_unfolding_all decide +kernel) | omega)))); clear R; intro h' _ R; (try (first | show wpAny _ _ _ _ _ (St s h' _) | show wpAny _ _ _ _ _ (St s _ _) | show codeAny _ _ _ _ (St s _ _) | show ite _ (wpAny _ _ _ _ _ (St s _ _)) (wpAny _ _ _ _ _ (St s _ _)))))); (with_reducible refine wpAny_execs_nil ?_); (refine' r_asgE EO AO R ?_ ?zhx; (case zhx => exact rfl); ((repeat (refine And.intro ?zc ?_; (case zc => (first | assumption | (with_unfolding_all decide +kernel) | omega)))); clear R; intro h' _ R; (try (first | show wpAny _ _ _ _ _ (St s h' _) | show wpAny _ _ _ _ _ (St s _ _) | show codeAny _ _ _ _ (St s _ _) | show ite _ (wpAny _ _ _ _ _ (St s _ _)) (wpAny _ _ _ _ _ (St s _ _)))))); (with_reducible refine wpAny_execs_cons ?_); (with_reducible refine wpAny_Return_some ?_); (refine' r_tupE EO AO R ?_ ?zhs; (case zhs => exact of_decide_eq_true rfl); ((repeat (refine And.intro ?zc ?_; (case zc => (first | assumption | (with_unfolding_all decide +kernel) | omega)))); clear R; intro h' _ _ R; (try (first | show wpAny _ _ _ _ _ (St s h' _) | show wpAny _ _ _ _ _ (St s _ _) | show codeAny _ _ _ _ (St s _ _) | show ite _ (wpAny _ _ _ _ _ (St s _ _)) (wpAny _ _ _ _ _ (St s _ _))))))); exact h _ _ _ R.dropLed
    rw [ifF hc] at h
    ((with_reducible refine wpAny_execs_cons ?_); (with_reducible refine wpAny_If ?_); (with_reducible refine wpAny_isTrue_Compare1 ?_); (refine' r_locS EO R ?zhv ?zhf ?_ ?zhx ?zhd; (case zhx => exact rfl); (case zhv => exact rfl); (case zhf => exact rfl); (case zhd => decide); intro _); (refine' r_locS EO R ?zhv ?zhf ?_ ?zhx ?zhd; (case zhx => exact rfl); (case zhv => exact rfl); (case zhf => exact rfl); (case zhd => decide); intro _); (with_reducible refine AutoFloatOps.eq_0 ?_); (with_reducible refine wpAny_truthy_bool ?_))
    ((refine split_bool ?_ ?_ <;> intro hc))
    · rw [ifT hc] at h; ((refine' r_asgE EO AO R ?_ ?zhx; (case zhx => exact rfl); ((repeat (refine And.intro ?zc ?_; (case zc => (first | assumption | (with_unfolding_all decide +kernel) | omega)))); clear R; intro h' _ R; (try (first | show wpAny _ _ _ _ _ (St s h' _) | show wpAny _ _ _ _ _ (St s _ _) | show codeAny _ _ _ _ (St s _ _) | show ite _ (wpAny _ _ _ _ _ (St s _ _)) (wpAny _ _ _ _ _ (St s _ _)))))); (with_reducible refine wpAny_execs_nil ?_); (with_reducible refine wpAny_execs_nil ?_); (refine' r_asgE EO AO R ?_ ?zhx; (case zhx => exact rfl); ((repeat (refine And.intro ?zc ?_; (case zc => (first | assumption | (with_unfolding_all decide +kernel) | omega)))); clear R; intro h' _ R; (try (first | show wpAny _ _ _ _ _ (St s h' _) | show wpAny _ _ _ _ _ (St s _ _) | show codeAny _ _ _ _ (St s _ _) | show ite _ (wpAny _ _ _ _ _ (St s _ _)) (wpAny _ _ _ _ _ (St s _ _)))))); (with_reducible refine wpAny_execs_cons ?_); (with_reducible refine wpAny_Return_some ?_); (refine' r_tupE EO AO R ?_ ?zhs; (case zhs => exact of_decide_eq_true rfl); ((repeat (refine And.intro ?zc ?_; (case zc => (first | assumption | (with_unfolding_all decide +kernel) | omega)))); clear R; intro h' _ _ R; (try (first | show wpAny _ _ _ _ _ (St s h' _) | show wpAny _ _ _ _ _ (St s _ _) | show codeAny _ _ _ _ (St s _ _) | show ite _ (wpAny _ _ _ _ _ (St s _ _)) (wpAny _ _ _ _ _ (St s _ _))))))); exact h _ _ _ R.dropLed
    rw [ifF hc] at h
    ((refine' r_asgE EO AO R ?_ ?zhx; (case zhx => exact rfl); ((repeat (refine And.intro ?zc ?_; (case zc => (first | assumption | (with_unfolding_all decide +kernel) | omega)))); clear R; intro h' _ R; (try (first | show wpAny _ _ _ _ _ (St s h' _) | show wpAny _ _ _ _ _ (St s _ _) | show codeAny _ _ _ _ (St s _ _) | show ite _ (wpAny _ _ _ _ _ (St s _ _)) (wpAny _ _ _ _ _ (St s _ _)))))); (with_reducible refine wpAny_execs_nil ?_); (with_reducible refine wpAny_execs_nil ?_); (refine' r_asgE EO AO R ?_ ?zhx; (case zhx => exact rfl); ((repeat (refine And.intro ?zc ?_; (case zc => (first | assumption | (with_unfolding_all decide +kernel) | omega)))); clear R; intro h' _ R; (try (first | show wpAny _ _ _ _ _ (St s h' _) | show wpAny _ _ _ _ _ (St s _ _) | show codeAny _ _ _ _ (St s _ _) | show ite _ (wpAny _ _ _ _ _ (St s _ _)) (wpAny _ _ _ _ _ (St s _ _)))))); (with_reducible refine wpAny_execs_cons ?_); (with_reducible refine wpAny_Return_some ?_); (refine' r_tupE EO AO R ?_ ?zhs; (case zhs => exact of_decide_eq_true rfl); ((repeat (refine And.intro ?zc ?_; (case zc => (first | assumption | (with_unfolding_all decide +kernel) | omega)))); clear R; intro h' _ _ R; (try (first | show wpAny _ _ _ _ _ (St s h' _) | show wpAny _ _ _ _ _ (St s _ _) | show codeAny _ _ _ _ (St s _ _) | show ite _ (wpAny _ _ _ _ _ (St s _ _)) (wpAny _ _ _ _ _ (St s _ _)))))))
    exact h _ _ _ R.dropLed

end Mine

/-! S16 -/
namespace Mine
/-- the lights of a hue, told in sixths -/
noncomputable def litT : Nat → List Int
  | 0 => [1, 0, 0] | 1 => [1, 1, 0] | 2 => [0, 1, 0] | 3 => [0, 1, 1] | 4 => [0, 0, 1] | _ => [1, 0, 1]
noncomputable def hueA (six k : Int) : UInt64 := if k.fmod 2 ≠ 0 then Float64.add (fdivi six 6) (Float64.ofInt k) else Float64.sub (fdivi six 6) (Float64.ofInt k)
noncomputable def paint (six k : Int) : List V := if k.fmod 2 ≠ 0 then hsvRgb (hueA six k) c1 c1 else hlsRgb (hueA six k) ch c1
noncomputable def rnd (x : UInt64) : Int := Flt.toInt Float64.nearestOf x
noncomputable def mil (x : UInt64) : UInt64 := Float64.mul (Float64.ofInt (10 ^ 6)) x
noncomputable def okF (x : UInt64) (l : Int) : Bool := Float64.isFinite x && Float64.isFinite (mil x) && rnd x == l && rnd (mil x) == 10 ^ 6 * l
noncomputable def paintOk (six k : Nat) : Bool :=
  (match paint six k, litT six with
   | [.float a, .float b, .float c], [x, y, z] => okF a x && okF b y && okF c z
   | _, _ => false) &&
  (if (k : Int).fmod 2 ≠ 0 then Float64.isFinite (Float64.mul (hueA six k) c6) && decide ((hsvI (hueA six k)).natAbs < 2 ^ 200) else true)
set_option maxRecDepth 1000000 in
theorem paints_a : ((List.range 5).all fun k => (List.range 6).all fun six => paintOk six k) = true := by decide +kernel
set_option maxRecDepth 1000000 in
theorem paints_b : ((List.range 5).all fun k => (List.range 6).all fun six => paintOk six (k + 5)) = true := by decide +kernel
set_option maxRecDepth 1000000 in
theorem paints_c : ((List.range 5).all fun k => (List.range 6).all fun six => paintOk six (k + 10)) = true := by decide +kernel
set_option maxRecDepth 1000000 in
theorem paints_d : ((List.range 4).all fun k => (List.range 6).all fun six => paintOk six (k + 15)) = true := by decide +kernel
theorem paints_get {six k n : Nat} {f : Nat → Nat → Bool} (h : ((List.range n).all fun k => (List.range 6).all fun six => f six k) = true) (hk : k < n) (hs : six < 6) : f six k = true :=
  List.all_eq_true.mp (List.all_eq_true.mp h k (List.mem_range.mpr hk)) six (List.mem_range.mpr hs)
theorem paints {six k : Nat} (hs : six < 6) (hk : k < 19) : paintOk six k = true := by
  rcases Nat.lt_or_ge k 5 with h | h
  · exact paints_get paints_a h hs
  obtain ⟨a, rfl⟩ := Nat.exists_eq_add_of_le' h
  rcases Nat.lt_or_ge a 5 with h1 | h1
  · exact paints_get (f := fun six k => paintOk six (k + 5)) paints_b h1 hs
  obtain ⟨b, rfl⟩ := Nat.exists_eq_add_of_le' h1
  rcases Nat.lt_or_ge b 5 with h2 | h2
  · exact paints_get (f := fun six k => paintOk six (k + 10)) paints_c h2 hs
  obtain ⟨d, rfl⟩ := Nat.exists_eq_add_of_le' h2
  exact paints_get (f := fun six k => paintOk six (k + 15)) paints_d (Nat.lt_of_add_lt_add_right (n := 15) hk) hs
theorem paint_is {six k : Nat} (hs : six < 6) (hk : k < 19) : ∃ a b c x y z, paint six k = [.float a, .float b, .float c] ∧ litT six = [x, y, z] ∧ okF a x = true ∧ okF b y = true ∧ okF c z = true ∧
    ((k : Int).fmod 2 ≠ 0 → Float64.isFinite (Float64.mul (hueA six k) c6) = true ∧ (hsvI (hueA six k)).natAbs < 2 ^ 200) := by
  have h2 := paints hs hk
  unfold paintOk at h2
  rw [Bool.and_eq_true] at h2
  obtain ⟨h3, h4⟩ := h2
  split at h3
  · rename_i a b c x y z e1 e2
    simp only [Bool.and_eq_true] at h3
    refine ⟨a, b, c, x, y, z, e1, e2, h3.1.1, h3.1.2, h3.2, fun ho => ?_⟩
    rw [if_pos ho, Bool.and_eq_true, decide_eq_true_eq] at h4
    exact h4
  · cases h3
theorem paint_odd {six k : Int} (ho : k.fmod 2 ≠ 0) : paint six k = hsvRgb (Float64.add (fdivi six 6) (Float64.ofInt k)) c1 c1 := by
  unfold paint hueA; rw [if_pos ho, if_pos ho]
theorem paint_even {six k : Int} (ho : ¬ k.fmod 2 ≠ 0) : paint six k = hlsRgb (Float64.sub (fdivi six 6) (Float64.ofInt k)) ch c1 := by
  unfold paint hueA; rw [if_neg ho, if_neg ho]
theorem hue_odd {six k : Int} (ho : k.fmod 2 ≠ 0) : hueA six k = Float64.add (fdivi six 6) (Float64.ofInt k) := by
  unfold hueA; rw [if_pos ho]
theorem paint_all {six k : Nat} (hs : six < 6) (hk : k < 19) : ∃ a b c x y z, litT six = [x, y, z] ∧ okF a x = true ∧ okF b y = true ∧ okF c z = true ∧
    ((k : Int).fmod 2 ≠ 0 → hsvRgb (Float64.add (fdivi six 6) (Float64.ofInt k)) c1 c1 = [.float a, .float b, .float c] ∧ Float64.isFinite (Float64.mul (Float64.add (fdivi six 6) (Float64.ofInt k)) c6) = true ∧ (hsvI (Float64.add (fdivi six 6) (Float64.ofInt k))).natAbs < 2 ^ 200) ∧
    (¬ (k : Int).fmod 2 ≠ 0 → hlsRgb (Float64.sub (fdivi six 6) (Float64.ofInt k)) ch c1 = [.float a, .float b, .float c]) := by
  obtain ⟨a, b, c, x, y, z, e1, e2, h1, h2, h3, h4⟩ := paint_is hs hk
  refine ⟨a, b, c, x, y, z, e2, h1, h2, h3, fun ho => ?_, fun ho => ?_⟩
  · have h5 := h4 ho
    rw [hue_odd ho] at h5
    rw [paint_odd ho] at e1
    exact ⟨e1, h5⟩
  · rw [paint_even ho] at e1
    exact e1

end Mine

/-! S22 -/
namespace Mine
/-- a branch of the law's only branch of two arms -/
noncomputable def lawArm (K : Frag) (b : Bool) : Option (Scope × List Stmt) := match lawOf K 7 with
  | some (sc, .If _ t e _ :: _) => some (sc, match b with | true => t | false => e)
  | _ => none
noncomputable def sp1 (l s : UInt64) : UInt64 := Float64.mul (Float64.mul (Float64.ofInt 64) s) (fmin2 l (Float64.sub (Float64.ofInt 1) l))
noncomputable def sp2 (s v : UInt64) : UInt64 := Float64.mul (Float64.mul (Float64.ofInt 32) s) v
noncomputable def bkF (x : UInt64) : UInt64 := Float64.mul (Float64.ofInt (32 * 10 ^ 6)) x
noncomputable def alF (spread : Int) (h : UInt64) : UInt64 := Float64.mul (Float64.ofInt (6 * spread)) h
noncomputable def neg32 (l : Int) : UInt64 := Float64.sub (Float64.ofInt 1) (fdivi l 32)
/-- a part that comes back, and the light it stands for -/
noncomputable def bk1 (x : UInt64) (l : Int) : Bool := Float64.isFinite (bkF x) && (32 * 10 ^ 6 - rnd (bkF x) == 10 ^ 6 * l)
noncomputable def bk2 (x : UInt64) (l : Int) : Bool := Float64.isFinite (bkF x) && (rnd (bkF x) == 10 ^ 6 * l)
structure HlsT (l0 l1 l2 spread along : Int) (h l s x y z : UInt64) : Prop where
  ok : hlsOk (neg32 l0) (neg32 l1) (neg32 l2) = true
  told : rgbHls (neg32 l0) (neg32 l1) (neg32 l2) = [.float h, .float l, .float s]
  f1 : Float64.isFinite (sp1 l s) = true
  r1 : rnd (sp1 l s) = spread
  rgb : hlsRgb h l s = [.float x, .float y, .float z]
  hx : bk1 x l0 = true
  hy : bk1 y l1 = true
  hz : bk1 z l2 = true
  fa : Float64.isFinite (alF spread h) = true
  ra : (rnd (alF spread h)).fmod (max spread 1) = along
structure HsvT (l0 l1 l2 spread along : Int) (h s v x y z : UInt64) : Prop where
  ok : hsvOk (fdivi l0 32) (fdivi l1 32) (fdivi l2 32) = true
  told : rgbHsv (fdivi l0 32) (fdivi l1 32) (fdivi l2 32) = [.float h, .float s, .float v]
  f1 : Float64.isFinite (sp2 s v) = true
  r1 : rnd (sp2 s v) = spread
  f2 : Float64.isFinite (Float64.mul h c6) = true
  b2 : (hsvI h).natAbs < 2 ^ 200
  rgb : hsvRgb h s v = [.float x, .float y, .float z]
  hx : bk2 x l0 = true
  hy : bk2 y l1 = true
  hz : bk2 z l2 = true
  fa : Float64.isFinite (alF spread h) = true
  ra : (rnd (alF spread h)).fmod (max spread 1) = along
theorem bk1_pick {x y z : UInt64} {l0 l1 l2 : Int} (h0 : bk1 x l0 = true) (h1 : bk1 y l1 = true) (h2 : bk1 z l2 = true) {i : Nat} {v u : V} (hi : [V.float x, V.float y, V.float z][i]? = some v) (hu : [V.int (10 ^ 6 * l0), V.int (10 ^ 6 * l1), V.int (10 ^ 6 * l2)][i]? = some u) :
    ∃ f l, v = .float f ∧ u = .int (10 ^ 6 * l) ∧ Float64.isFinite (bkF f) = true ∧ 32 * 10 ^ 6 - rnd (bkF f) = 10 ^ 6 * l := by
  have key : ∀ {f l}, bk1 f l = true → Float64.isFinite (bkF f) = true ∧ 32 * 10 ^ 6 - rnd (bkF f) = 10 ^ 6 * l := by
    intro f l h
    unfold bk1 at h
    rw [Bool.and_eq_true, beq_iff_eq] at h
    exact h
  match i, hi, hu with
  | 0, hi, hu => cases hi; cases hu; exact ⟨_, _, rfl, rfl, key h0⟩
  | 1, hi, hu => cases hi; cases hu; exact ⟨_, _, rfl, rfl, key h1⟩
  | 2, hi, hu => cases hi; cases hu; exact ⟨_, _, rfl, rfl, key h2⟩
  | i + 3, hi, _ => cases hi
theorem bk2_pick {x y z : UInt64} {l0 l1 l2 : Int} (h0 : bk2 x l0 = true) (h1 : bk2 y l1 = true) (h2 : bk2 z l2 = true) {i : Nat} {v u : V} (hi : [V.float x, V.float y, V.float z][i]? = some v) (hu : [V.int (10 ^ 6 * l0), V.int (10 ^ 6 * l1), V.int (10 ^ 6 * l2)][i]? = some u) :
    ∃ f l, v = .float f ∧ u = .int (10 ^ 6 * l) ∧ Float64.isFinite (bkF f) = true ∧ rnd (bkF f) = 10 ^ 6 * l := by
  have key : ∀ {f l}, bk2 f l = true → Float64.isFinite (bkF f) = true ∧ rnd (bkF f) = 10 ^ 6 * l := by
    intro f l h
    unfold bk2 at h
    rw [Bool.and_eq_true, beq_iff_eq] at h
    exact h
  match i, hi, hu with
  | 0, hi, hu => cases hi; cases hu; exact ⟨_, _, rfl, rfl, key h0⟩
  | 1, hi, hu => cases hi; cases hu; exact ⟨_, _, rfl, rfl, key h1⟩
  | 2, hi, hu => cases hi; cases hu; exact ⟨_, _, rfl, rfl, key h2⟩
  | i + 3, hi, _ => cases hi
theorem law_hls {w : World} {A : Around} {E : Value → Shared → Prop} {s : Shared} {K₀ : Heap} {led : List (Nat × Mo)} {tmp : List (V × Nat)} {n : Nat} {l0 l1 l2 spread along : Int} {h l s' x y z : UInt64} {env : Env} {L cT cP cS : Nat} {vs vr vc vt : V} {qual : Str} {code : Value} {cl : List (Str × Addr)} {sc : Scope} {rest : List Stmt}
    (e : lawArm (hd.heap_39 w.params) true = some (sc, rest)) (hcl : cl = [(("times" : Str), cT), ("p", cP), ("script", cS)])
    (EO : EnvOk env sc L cl qual code) (AO : AOk A (n + 450)) (S : Stat (hd.heap_39 w.params) K₀)
    (R : Rep K₀ ((L, Mo.ns [("sums", vs), ("root", vr), ("c", vc), ("turns", vt), ("lights", V.lst [.int l0, .int l1, .int l2])]) :: led) tmp s.heap)
    (hl0 : 0 ≤ l0 ∧ l0 ≤ 20) (hl1 : 0 ≤ l1 ∧ l1 ≤ 20) (hl2 : 0 ≤ l2 ∧ l2 ≤ 20) (T : HlsT l0 l1 l2 spread along h l s' x y z) :
    wpAny (model PySem.Challenge.rw_uk0010_01.row.prog w) A (execs rest env) (fun fl s'' => fl = .next ∧ ∃ h a b h' tk, Rep K₀ ((L, Mo.ns [("told", V.tup [.float h, .float a, .float b]), ("spread", V.int spread), ("back", V.lst [.int (10 ^ 6 * l0), .int (10 ^ 6 * l1), .int (10 ^ 6 * l2)]), ("sums", vs), ("root", vr), ("c", vc), ("turns", vt), ("lights", V.lst [.int l0, .int l1, .int l2])]) :: led) tmp h' ∧
      s'' = (St s h' tk) ∧ Float64.isFinite (alF spread h) = true ∧ (rnd (alF spread h)).fmod (max spread 1) = along) E s := by
  subst hcl
  revert S
  k_fill
  intro S
  refine' inner_is ?e0 e ?_
  case e0 => with_unfolding_all exact rfl
  intro q0
  cases q0
  clear e
  dsimp only [List.drop] at EO ⊢
  ((with_reducible refine wpAny_execs_cons ?_); (refine wpAny_Assign_Name ?_); (refine Call_ ?_); (refine' r_glob EO S R ?ze ?_ ?zhx ?zhd; (case zhx => exact rfl); (case ze => k_is); (case zhd => decide)); (refine' callWith_K ?zx ?zk ?_; (case zx => exact S.x); (case zk => k_is)); (refine wpAny_items_cons ?_); (with_reducible refine wpAny_BinOp ?_); (with_reducible refine q_cint ?_); (with_reducible refine wpAny_BinOp ?_); (refine Subscript_ ?_); (refine' r_loc EO R ?zhv ?_ ?zhx ?zhd; (case zhx => exact rfl); (case zhv => exact rfl); (case zhd => decide); clear R; intro _ R); (with_reducible refine q_cint ?_); (refine' r_itemL R ?zhm ?zi1 ?zi2 ?zhv ?_ ?zhs; (case zhm => (repeat (with_reducible first | assumption | exact List.mem_cons_self | refine List.mem_cons_of_mem _ ?_))); (case zhs => with_unfolding_all rfl); (case zhv => first | with_reducible assumption | exact rfl); (case zi1 => exact om110); (case zi2 => exact om111); clear R; intro _ R); (with_reducible refine q_cint ?_); (refine' r_divii AO ?zhj ?zhb ?_; (case zhj => (first | exact om216 | assumption | decide)); (case zhb => (first | exact om217 hl0 | assumption | decide)); intro _ _); (refine' r_subif AO ?zhb ?_; (case zhb => (first | exact om218 | assumption | decide)); intro _ _); (refine wpAny_items_cons ?_); (with_reducible refine wpAny_BinOp ?_); (with_reducible refine q_cint ?_); (with_reducible refine wpAny_BinOp ?_); (refine Subscript_ ?_); (refine' r_loc EO R ?zhv ?_ ?zhx ?zhd; (case zhx => exact rfl); (case zhv => exact rfl); (case zhd => decide); clear R; intro _ R); (with_reducible refine q_cint ?_); (refine' r_itemL R ?zhm ?zi1 ?zi2 ?zhv ?_ ?zhs; (case zhm => (repeat (with_reducible first | assumption | exact List.mem_cons_self | refine List.mem_cons_of_mem _ ?_))); (case zhs => with_unfolding_all rfl); (case zhv => first | with_reducible assumption | exact rfl); (case zi1 => exact om21); (case zi2 => exact om22); clear R; intro _ R); (with_reducible refine q_cint ?_); (refine' r_divii AO ?zhj ?zhb ?_; (case zhj => (first | exact om216 | assumption | decide)); (case zhb => (first | exact om217 hl1 | assumption | decide)); intro _ _); (refine' r_subif AO ?zhb ?_; (case zhb => (first | exact om218 | assumption | decide)); intro _ _); (refine wpAny_items_cons ?_); (with_reducible refine wpAny_BinOp ?_); (with_reducible refine q_cint ?_); (with_reducible refine wpAny_BinOp ?_); (refine Subscript_ ?_); (refine' r_loc EO R ?zhv ?_ ?zhx ?zhd; (case zhx => exact rfl); (case zhv => exact rfl); (case zhd => decide); clear R; intro _ R); (with_reducible refine q_cint ?_); (refine' r_itemL R ?zhm ?zi1 ?zi2 ?zhv ?_ ?zhs; (case zhm => (repeat (with_reducible first | assumption | exact List.mem_cons_self | refine List.mem_cons_of_mem _ ?_))); (case zhs => with_unfolding_all rfl); (case zhv => first | with_reducible assumption | exact rfl); (case zi1 => exact om156); (case zi2 => exact om157); clear R; intro _ R); (with_reducible refine q_cint ?_); (refine' r_divii AO ?zhj ?zhb ?_; (case zhj => (first | exact om216 | assumption | decide)); (case zhb => (first | exact om217 hl2 | assumption | decide)); intro _ _); (refine' r_subif AO ?zhb ?_; (case zhb => (first | exact om218 | assumption | decide)); intro _ _); (with_reducible refine wpAny_items_nil ?_); (refine ⟨(Rep.stat R S).x, ?_⟩))
  (first | show wpAny _ _ _ _ _ (St s h' _) | show wpAny _ _ _ _ _ (St s _ _) | show codeAny _ _ _ _ (St s _ _) | show ite _ (wpAny _ _ _ _ _ (St s _ _)) (wpAny _ _ _ _ _ (St s _ _)))
  show wpAny _ _ (call (.ref 133) [.float (neg32 l0) _, .float (neg32 l1) _, .float (neg32 l2) _]) _ _ _
  refine' spec_rgbhls (AO.le (show 1 ≤ n + 450 by exact om219)) S R T.ok ?_
  clear R; intro h' tk tt R
  rw [T.told] at R
  (first | show wpAny _ _ _ _ _ (St s h' _) | show wpAny _ _ _ _ _ (St s _ _) | show codeAny _ _ _ _ (St s _ _) | show ite _ (wpAny _ _ _ _ _ (St s _ _)) (wpAny _ _ _ _ _ (St s _ _)))
  have f1 : Float64.isFinite (Float64.mul (Float64.mul (Float64.ofInt 64) s') (fmin2 l (Float64.sub (Float64.ofInt 1) l))) = true := T.f1
  ((refine' r_store EO R ?zhx ?zhv ?_; (case zhx => exact rfl); (case zhv => (with_reducible first | exact Bear.int | exact Bear.float | exact Bear.str | exact Bear.bool | exact Bear.none | (refine' Bear.tup ?zb3; (case zb3 => (repeat (with_reducible first | exact List.mem_cons_self | refine List.mem_cons_of_mem _ ?_)))) | (refine' Bear.lst ?zb3; (case zb3 => (repeat (with_reducible first | exact List.mem_cons_self | refine List.mem_cons_of_mem _ ?_)))) | exact Bear.raw)); clear R; intro h' _ R; (try (first | show wpAny _ _ _ _ _ (St s h' _) | show wpAny _ _ _ _ _ (St s _ _) | show codeAny _ _ _ _ (St s _ _) | show ite _ (wpAny _ _ _ _ _ (St s _ _)) (wpAny _ _ _ _ _ (St s _ _))))); (with_reducible refine wpAny_execs_cons ?_); (refine wpAny_Assign_Name ?_); (refine Call_ ?_); (refine' r_bi EO S R ?ze ?zhv ?_ ?zhn ?zhx ?zhd; (case zhx => exact rfl); (case ze => k_is); (case zhv => boot_fast); (case zhn => decide); (case zhd => decide)); (refine callWith_method1 ?_); (refine wpAny_items_cons ?_); (with_reducible refine wpAny_BinOp ?_); (with_reducible refine wpAny_BinOp ?_); (with_reducible refine q_cint ?_); (refine Subscript_ ?_); (refine' r_loc EO R ?zhv ?_ ?zhx ?zhd; (case zhx => exact rfl); (case zhv => exact rfl); (case zhd => decide); clear R; intro _ R); (with_reducible refine q_cint ?_); (refine' r_itemT R ?zhm ?zi1 ?zi2 ?zhv ?_ ?zhs; (case zhm => (repeat (with_reducible first | assumption | exact List.mem_cons_self | refine List.mem_cons_of_mem _ ?_))); (case zhs => with_unfolding_all rfl); (case zhv => first | with_reducible assumption | exact rfl); (case zi1 => exact om156); (case zi2 => exact om157); clear R; intro _ R); (refine' r_mulif AO ?zhb ?_; (case zhb => (first | exact om220 | assumption | decide)); intro _ _); (refine Call_ ?_); (refine' r_bi EO S R ?ze ?zhv ?_ ?zhn ?zhx ?zhd; (case zhx => exact rfl); (case ze => k_is); (case zhv => boot_fast); (case zhn => decide); (case zhd => decide)); (refine callWith_method1 ?_); (refine wpAny_items_cons ?_); (refine Subscript_ ?_); (refine' r_loc EO R ?zhv ?_ ?zhx ?zhd; (case zhx => exact rfl); (case zhv => exact rfl); (case zhd => decide); clear R; intro _ R); (with_reducible refine q_cint ?_); (refine' r_itemT R ?zhm ?zi1 ?zi2 ?zhv ?_ ?zhs; (case zhm => (repeat (with_reducible first | assumption | exact List.mem_cons_self | refine List.mem_cons_of_mem _ ?_))); (case zhs => with_unfolding_all rfl); (case zhv => first | with_reducible assumption | exact rfl); (case zi1 => exact om21); (case zi2 => exact om22); clear R; intro _ R); (refine wpAny_items_cons ?_); (with_reducible refine wpAny_BinOp ?_); (with_reducible refine q_cint ?_); (refine Subscript_ ?_); (refine' r_loc EO R ?zhv ?_ ?zhx ?zhd; (case zhx => exact rfl); (case zhv => exact rfl); (case zhd => decide); clear R; intro _ R); (with_reducible refine q_cint ?_); (refine' r_itemT R ?zhm ?zi1 ?zi2 ?zhv ?_ ?zhs; (case zhm => (repeat (with_reducible first | assumption | exact List.mem_cons_self | refine List.mem_cons_of_mem _ ?_))); (case zhs => with_unfolding_all rfl); (case zhv => first | with_reducible assumption | exact rfl); (case zi1 => exact om21); (case zi2 => exact om22); clear R; intro _ R); (refine' r_subif AO ?zhb ?_; (case zhb => (first | exact om218 | assumption | decide)); intro _ _); (with_reducible refine wpAny_items_nil ?_); (refine' r_min2 AO R ?_; clear R; intro h' _ _ R; (try (first | show wpAny _ _ _ _ _ (St s h' _) | show wpAny _ _ _ _ _ (St s _ _) | show codeAny _ _ _ _ (St s _ _) | show ite _ (wpAny _ _ _ _ _ (St s _ _)) (wpAny _ _ _ _ _ (St s _ _))))); (with_reducible refine q_mulf ?_); (with_reducible refine wpAny_items_nil ?_); (refine' r_round AO ?zhb ?_; (case zhb => assumption); intro _ _); (refine' r_store EO R ?zhx ?zhv ?_; (case zhx => exact rfl); (case zhv => (with_reducible first | exact Bear.int | exact Bear.float | exact Bear.str | exact Bear.bool | exact Bear.none | (refine' Bear.tup ?zb3; (case zb3 => (repeat (with_reducible first | exact List.mem_cons_self | refine List.mem_cons_of_mem _ ?_)))) | (refine' Bear.lst ?zb3; (case zb3 => (repeat (with_reducible first | exact List.mem_cons_self | refine List.mem_cons_of_mem _ ?_)))) | exact Bear.raw)); clear R; intro h' _ R; (try (first | show wpAny _ _ _ _ _ (St s h' _) | show wpAny _ _ _ _ _ (St s _ _) | show codeAny _ _ _ _ (St s _ _) | show ite _ (wpAny _ _ _ _ _ (St s _ _)) (wpAny _ _ _ _ _ (St s _ _))))); (with_reducible refine wpAny_execs_cons ?_))
  replace R := Rep.loc [("spread", V.int spread), ("told", V.tup [.float h, .float l, .float s']), ("sums", vs), ("root", vr), ("c", vc), ("turns", vt), ("lights", V.lst [.int l0, .int l1, .int l2])] R ⟨by rw [← T.r1]; rfl, rfl, rfl, rfl, rfl, rfl, rfl, trivial⟩
  replace R := Rep.tmps tmp R (fun q hq => by (repeat (with_reducible first | assumption | exact List.mem_cons_self | refine List.mem_cons_of_mem _ ?_)))
  (first | show wpAny _ _ _ _ _ (St s h' _) | show wpAny _ _ _ _ _ (St s _ _) | show codeAny _ _ _ _ (St s _ _) | show ite _ (wpAny _ _ _ _ _ (St s _ _)) (wpAny _ _ _ _ _ (St s _ _)))
  refine' r_asgComp EO ?hsw ?hclos rfl ?hnames ?_ ?hs
  case hsw => exact rfl
  case hclos => exact rfl
  case hs => intro _; rfl
  case hnames => decide
  ((refine Call_ ?_); (refine' r_glob EO S R ?ze ?_ ?zhx ?zhd; (case zhx => exact rfl); (case ze => k_is); (case zhd => decide)); (refine' callWith_K ?zx ?zk ?_; (case zx => exact S.x); (case zk => k_is)); (refine wpAny_items_cons ?_); (refine Subscript_ ?_); (refine' r_loc EO R ?zhv ?_ ?zhx ?zhd; (case zhx => exact rfl); (case zhv => exact rfl); (case zhd => decide); clear R; intro _ R); (with_reducible refine q_cint ?_); (refine' r_itemT R ?zhm ?zi1 ?zi2 ?zhv ?_ ?zhs; (case zhm => (repeat (with_reducible first | assumption | exact List.mem_cons_self | refine List.mem_cons_of_mem _ ?_))); (case zhs => with_unfolding_all rfl); (case zhv => first | with_reducible assumption | exact rfl); (case zi1 => exact om110); (case zi2 => exact om111); clear R; intro _ R); (refine wpAny_items_cons ?_); (refine Subscript_ ?_); (refine' r_loc EO R ?zhv ?_ ?zhx ?zhd; (case zhx => exact rfl); (case zhv => exact rfl); (case zhd => decide); clear R; intro _ R); (with_reducible refine q_cint ?_); (refine' r_itemT R ?zhm ?zi1 ?zi2 ?zhv ?_ ?zhs; (case zhm => (repeat (with_reducible first | assumption | exact List.mem_cons_self | refine List.mem_cons_of_mem _ ?_))); (case zhs => with_unfolding_all rfl); (case zhv => first | with_reducible assumption | exact rfl); (case zi1 => exact om21); (case zi2 => exact om22); clear R; intro _ R); (refine wpAny_items_cons ?_); (refine Subscript_ ?_); (refine' r_loc EO R ?zhv ?_ ?zhx ?zhd; (case zhx => exact rfl); (case zhv => exact rfl); (case zhd => decide); clear R; intro _ R); (with_reducible refine q_cint ?_); (refine' r_itemT R ?zhm ?zi1 ?zi2 ?zhv ?_ ?zhs; (case zhm => (repeat (with_reducible first | assumption | exact List.mem_cons_self | refine List.mem_cons_of_mem _ ?_))); (case zhs => with_unfolding_all rfl); (case zhv => first | with_reducible assumption | exact rfl); (case zi1 => exact om156); (case zi2 => exact om157); clear R; intro _ R); (with_reducible refine wpAny_items_nil ?_); (refine ⟨(Rep.stat R S).x, ?_⟩))
  (first | show wpAny _ _ _ _ _ (St s h' _) | show wpAny _ _ _ _ _ (St s _ _) | show codeAny _ _ _ _ (St s _ _) | show ite _ (wpAny _ _ _ _ _ (St s _ _)) (wpAny _ _ _ _ _ (St s _ _)))
  show wpAny _ _ (call (.ref 140) [.float h _, .float l _, .float s' _]) _ _ _
  refine' spec_hls (AO.le (show 2 ≤ n + 450 by exact om221)) S R ?_
  clear R; intro h' tk tt R
  rw [T.rgb] at R
  (first | show wpAny _ _ _ _ _ (St s h' _) | show wpAny _ _ _ _ _ (St s _ _) | show codeAny _ _ _ _ (St s _ _) | show ite _ (wpAny _ _ _ _ _ (St s _ _)) (wpAny _ _ _ _ _ (St s _ _)))
  refine' r_compT AO EO R List.mem_cons_self (outs := [.int (10 ^ 6 * l0), .int (10 ^ 6 * l1), .int (10 ^ 6 * l2)]) ?g1 ?g2 ?hcell rfl ?hx ?turn ?_
  case g1 => rfl
  case g2 => exact of_decide_eq_true rfl
  case hcell => decide
  case hx => rfl
  case turn =>
    clear R
    intro J C D i v u t s E' hi hu EO R
    obtain ⟨f, l', rfl, rfl, hf1, hf2⟩ := bk1_pick T.hx T.hy T.hz hi hu
    have pwE : (10 : Int) ^ Int.toNat 6 = 10 ^ 6 := rfl
    have hmo : IntMulOk 32 (10 ^ 6) := IntMulOk.of_left (bits_le (by decide))
    have hf3 : Float64.isFinite (Float64.mul (Float64.ofInt (32 * 10 ^ 6)) f) = true := hf1
    ((with_reducible refine wpAny_BinOp ?_); (with_reducible refine wpAny_BinOp ?_); (with_reducible refine q_cint ?_); (with_reducible refine wpAny_BinOp ?_); (with_reducible refine q_cint ?_); (with_reducible refine q_cint ?_); (refine' r_powE ?zhe ?zh0 ?zhk ?zha ?_; (case zhe => with_reducible first | exact pwE | exact pwE2 | exact pwE3 | exact rfl); (case zh0 => exact om133); (case zhk => exact om134); (case zha => exact om135); intro _ _); (refine' r_mul ?zhe ?zhm ?_; (case zhe => with_reducible first | exact muE | exact muE2 | exact rfl); (case zhm => first | assumption | mul_fits); intro _ _); (refine Call_ ?_); (refine' r_bi EO S R ?ze ?zhv ?_ ?zhn ?zhx ?zhd; (case zhx => exact rfl); (case ze => k_is); (case zhv => boot_fast); (case zhn => decide); (case zhd => decide)); (refine callWith_method1 ?_); (refine wpAny_items_cons ?_); (with_reducible refine wpAny_BinOp ?_); (with_reducible refine wpAny_BinOp ?_); (with_reducible refine q_cint ?_); (with_reducible refine wpAny_BinOp ?_); (with_reducible refine q_cint ?_); (with_reducible refine q_cint ?_); (refine' r_powE ?zhe ?zh0 ?zhk ?zha ?_; (case zhe => with_reducible first | exact pwE | exact pwE2 | exact pwE3 | exact rfl); (case zh0 => exact om133); (case zhk => exact om134); (case zha => exact om135); intro _ _); (refine' r_mul ?zhe ?zhm ?_; (case zhe => with_reducible first | exact muE | exact muE2 | exact rfl); (case zhm => first | assumption | mul_fits); intro _ _); (refine' r_locS EO R ?zhv ?zhf ?_ ?zhx ?zhd; (case zhx => exact rfl); (case zhv => exact rfl); (case zhf => exact rfl); (case zhd => decide); intro _); (refine' r_mulif AO ?zhb ?_; (case zhb => (first | exact om222 | assumption | decide)); intro _ _); (with_reducible refine wpAny_items_nil ?_); (refine' r_round AO ?zhb ?_; (case zhb => assumption); intro _ _); (with_reducible refine q_subi ?_))
    exact ⟨_, _, _, Bear.intE hf2, fun q hq => by (repeat (with_reducible first | assumption | exact List.mem_cons_self | refine List.mem_cons_of_mem _ ?_)), R, rfl⟩
  clear R
  intro C D l' h' tk R0
  refine compEndA EO R0 ?hy fun h' tk' R => ?_
  case hy => rfl
  clear R0
  (first | show wpAny _ _ _ _ _ (St s h' _) | show wpAny _ _ _ _ _ (St s _ _) | show codeAny _ _ _ _ (St s _ _) | show ite _ (wpAny _ _ _ _ _ (St s _ _)) (wpAny _ _ _ _ _ (St s _ _)))
  ((with_reducible refine wpAny_execs_nil ?_))
  exact ⟨rfl, h, l, s', _, _, Rep.tmps tmp (Rep.loc _ R ⟨rfl, rfl, rfl, rfl, rfl, rfl, rfl, rfl, trivial⟩) (fun q hq => by (repeat (with_reducible first | assumption | exact List.mem_cons_self | refine List.mem_cons_of_mem _ ?_))), rfl, T.fa, T.ra⟩

end Mine

/-! S23 -/
namespace Mine
theorem law_hsv {w : World} {A : Around} {E : Value → Shared → Prop} {s : Shared} {K₀ : Heap} {led : List (Nat × Mo)} {tmp : List (V × Nat)} {n : Nat} {l0 l1 l2 spread along : Int} {h s' v' x y z : UInt64} {env : Env} {L cT cP cS : Nat} {vs vr vc vt : V} {qual : Str} {code : Value} {cl : List (Str × Addr)} {sc : Scope} {rest : List Stmt}
    (e : lawArm (hd.heap_39 w.params) false = some (sc, rest)) (hcl : cl = [(("times" : Str), cT), ("p", cP), ("script", cS)])
    (EO : EnvOk env sc L cl qual code) (AO : AOk A (n + 450)) (S : Stat (hd.heap_39 w.params) K₀)
    (R : Rep K₀ ((L, Mo.ns [("sums", vs), ("root", vr), ("c", vc), ("turns", vt), ("lights", V.lst [.int l0, .int l1, .int l2])]) :: led) tmp s.heap)
    (hl0 : 0 ≤ l0 ∧ l0 ≤ 20) (hl1 : 0 ≤ l1 ∧ l1 ≤ 20) (hl2 : 0 ≤ l2 ∧ l2 ≤ 20) (T : HsvT l0 l1 l2 spread along h s' v' x y z) :
    wpAny (model PySem.Challenge.rw_uk0010_01.row.prog w) A (execs rest env) (fun fl s'' => fl = .next ∧ ∃ h a b h' tk, Rep K₀ ((L, Mo.ns [("told", V.tup [.float h, .float a, .float b]), ("spread", V.int spread), ("back", V.lst [.int (10 ^ 6 * l0), .int (10 ^ 6 * l1), .int (10 ^ 6 * l2)]), ("sums", vs), ("root", vr), ("c", vc), ("turns", vt), ("lights", V.lst [.int l0, .int l1, .int l2])]) :: led) tmp h' ∧
      s'' = (St s h' tk) ∧ Float64.isFinite (alF spread h) = true ∧ (rnd (alF spread h)).fmod (max spread 1) = along) E s := by
  subst hcl
  revert S
  k_fill
  intro S
  refine' inner_is ?e0 e ?_
  case e0 => with_unfolding_all exact rfl
  intro q0
  cases q0
  clear e
  dsimp only [List.drop] at EO ⊢
  ((with_reducible refine wpAny_execs_cons ?_); (refine wpAny_Assign_Name ?_); (refine Call_ ?_); (refine' r_glob EO S R ?ze ?_ ?zhx ?zhd; (case zhx => exact rfl); (case ze => k_is); (case zhd => decide)); (refine' callWith_K ?zx ?zk ?_; (case zx => exact S.x); (case zk => k_is)); (refine wpAny_items_cons ?_); (with_reducible refine wpAny_BinOp ?_); (refine Subscript_ ?_); (refine' r_loc EO R ?zhv ?_ ?zhx ?zhd; (case zhx => exact rfl); (case zhv => exact rfl); (case zhd => decide); clear R; intro _ R); (with_reducible refine q_cint ?_); (refine' r_itemL R ?zhm ?zi1 ?zi2 ?zhv ?_ ?zhs; (case zhm => (repeat (with_reducible first | assumption | exact List.mem_cons_self | refine List.mem_cons_of_mem _ ?_))); (case zhs => with_unfolding_all rfl); (case zhv => first | with_reducible assumption | exact rfl); (case zi1 => exact om110); (case zi2 => exact om111); clear R; intro _ R); (with_reducible refine q_cint ?_); (refine' r_divii AO ?zhj ?zhb ?_; (case zhj => (first | exact om216 | assumption | decide)); (case zhb => (first | exact om217 hl0 | assumption | decide)); intro _ _); (refine wpAny_items_cons ?_); (with_reducible refine wpAny_BinOp ?_); (refine Subscript_ ?_); (refine' r_loc EO R ?zhv ?_ ?zhx ?zhd; (case zhx => exact rfl); (case zhv => exact rfl); (case zhd => decide); clear R; intro _ R); (with_reducible refine q_cint ?_); (refine' r_itemL R ?zhm ?zi1 ?zi2 ?zhv ?_ ?zhs; (case zhm => (repeat (with_reducible first | assumption | exact List.mem_cons_self | refine List.mem_cons_of_mem _ ?_))); (case zhs => with_unfolding_all rfl); (case zhv => first | with_reducible assumption | exact rfl); (case zi1 => exact om21); (case zi2 => exact om22); clear R; intro _ R); (with_reducible refine q_cint ?_); (refine' r_divii AO ?zhj ?zhb ?_; (case zhj => (first | exact om216 | assumption | decide)); (case zhb => (first | exact om217 hl1 | assumption | decide)); intro _ _); (refine wpAny_items_cons ?_); (with_reducible refine wpAny_BinOp ?_); (refine Subscript_ ?_); (refine' r_loc EO R ?zhv ?_ ?zhx ?zhd; (case zhx => exact rfl); (case zhv => exact rfl); (case zhd => decide); clear R; intro _ R); (with_reducible refine q_cint ?_); (refine' r_itemL R ?zhm ?zi1 ?zi2 ?zhv ?_ ?zhs; (case zhm => (repeat (with_reducible first | assumption | exact List.mem_cons_self | refine List.mem_cons_of_mem _ ?_))); (case zhs => with_unfolding_all rfl); (case zhv => first | with_reducible assumption | exact rfl); (case zi1 => exact om156); (case zi2 => exact om157); clear R; intro _ R); (with_reducible refine q_cint ?_); (refine' r_divii AO ?zhj ?zhb ?_; (case zhj => (first | exact om216 | assumption | decide)); (case zhb => (first | exact om217 hl2 | assumption | decide)); intro _ _); (with_reducible refine wpAny_items_nil ?_); (refine ⟨(Rep.stat R S).x, ?_⟩))
  (first | show wpAny _ _ _ _ _ (St s h' _) | show wpAny _ _ _ _ _ (St s _ _) | show codeAny _ _ _ _ (St s _ _) | show ite _ (wpAny _ _ _ _ _ (St s _ _)) (wpAny _ _ _ _ _ (St s _ _)))
  show wpAny _ _ (call (.ref 154) [.float (fdivi l0 32) _, .float (fdivi l1 32) _, .float (fdivi l2 32) _]) _ _ _
  refine' spec_rgbhsv (AO.le (show 1 ≤ n + 450 by exact om219)) S R T.ok ?_
  clear R; intro h' tk tt R
  rw [T.told] at R
  (first | show wpAny _ _ _ _ _ (St s h' _) | show wpAny _ _ _ _ _ (St s _ _) | show codeAny _ _ _ _ (St s _ _) | show ite _ (wpAny _ _ _ _ _ (St s _ _)) (wpAny _ _ _ _ _ (St s _ _)))
  have f1 : Float64.isFinite (Float64.mul (Float64.mul (Float64.ofInt 32) s') v') = true := T.f1
  ((refine' r_store EO R ?zhx ?zhv ?_; (case zhx => exact rfl); (case zhv => (with_reducible first | exact Bear.int | exact Bear.float | exact Bear.str | exact Bear.bool | exact Bear.none | (refine' Bear.tup ?zb3; (case zb3 => (repeat (with_reducible first | exact List.mem_cons_self | refine List.mem_cons_of_mem _ ?_)))) | (refine' Bear.lst ?zb3; (case zb3 => (repeat (with_reducible first | exact List.mem_cons_self | refine List.mem_cons_of_mem _ ?_)))) | exact Bear.raw)); clear R; intro h' _ R; (try (first | show wpAny _ _ _ _ _ (St s h' _) | show wpAny _ _ _ _ _ (St s _ _) | show codeAny _ _ _ _ (St s _ _) | show ite _ (wpAny _ _ _ _ _ (St s _ _)) (wpAny _ _ _ _ _ (St s _ _))))); (with_reducible refine wpAny_execs_cons ?_); (refine wpAny_Assign_Name ?_); (refine Call_ ?_); (refine' r_bi EO S R ?ze ?zhv ?_ ?zhn ?zhx ?zhd; (case zhx => exact rfl); (case ze => k_is); (case zhv => boot_fast); (case zhn => decide); (case zhd => decide)); (refine callWith_method1 ?_); (refine wpAny_items_cons ?_); (with_reducible refine wpAny_BinOp ?_); (with_reducible refine wpAny_BinOp ?_); (with_reducible refine q_cint ?_); (refine Subscript_ ?_); (refine' r_loc EO R ?zhv ?_ ?zhx ?zhd; (case zhx => exact rfl); (case zhv => exact rfl); (case zhd => decide); clear R; intro _ R); (with_reducible refine q_cint ?_); (refine' r_itemT R ?zhm ?zi1 ?zi2 ?zhv ?_ ?zhs; (case zhm => (repeat (with_reducible first | assumption | exact List.mem_cons_self | refine List.mem_cons_of_mem _ ?_))); (case zhs => with_unfolding_all rfl); (case zhv => first | with_reducible assumption | exact rfl); (case zi1 => exact om21); (case zi2 => exact om22); clear R; intro _ R); (refine' r_mulif AO ?zhb ?_; (case zhb => (first | exact om223 | assumption | decide)); intro _ _); (refine Subscript_ ?_); (refine' r_loc EO R ?zhv ?_ ?zhx ?zhd; (case zhx => exact rfl); (case zhv => exact rfl); (case zhd => decide); clear R; intro _ R); (with_reducible refine q_cint ?_); (refine' r_itemT R ?zhm ?zi1 ?zi2 ?zhv ?_ ?zhs; (case zhm => (repeat (with_reducible first | assumption | exact List.mem_cons_self | refine List.mem_cons_of_mem _ ?_))); (case zhs => with_unfolding_all rfl); (case zhv => first | with_reducible assumption | exact rfl); (case zi1 => exact om156); (case zi2 => exact om157); clear R; intro _ R); (with_reducible refine q_mulf ?_); (with_reducible refine wpAny_items_nil ?_); (refine' r_round AO ?zhb ?_; (case zhb => assumption); intro _ _); (refine' r_store EO R ?zhx ?zhv ?_; (case zhx => exact rfl); (case zhv => (with_reducible first | exact Bear.int | exact Bear.float | exact Bear.str | exact Bear.bool | exact Bear.none | (refine' Bear.tup ?zb3; (case zb3 => (repeat (with_reducible first | exact List.mem_cons_self | refine List.mem_cons_of_mem _ ?_)))) | (refine' Bear.lst ?zb3; (case zb3 => (repeat (with_reducible first | exact List.mem_cons_self | refine List.mem_cons_of_mem _ ?_)))) | exact Bear.raw)); clear R; intro h' _ R; (try (first | show wpAny _ _ _ _ _ (St s h' _) | show wpAny _ _ _ _ _ (St s _ _) | show codeAny _ _ _ _ (St s _ _) | show ite _ (wpAny _ _ _ _ _ (St s _ _)) (wpAny _ _ _ _ _ (St s _ _))))); (with_reducible refine wpAny_execs_cons ?_))
  replace R := Rep.loc [("spread", V.int spread), ("told", V.tup [.float h, .float s', .float v']), ("sums", vs), ("root", vr), ("c", vc), ("turns", vt), ("lights", V.lst [.int l0, .int l1, .int l2])] R ⟨by rw [← T.r1]; rfl, rfl, rfl, rfl, rfl, rfl, rfl, trivial⟩
  replace R := Rep.tmps tmp R (fun q hq => by (repeat (with_reducible first | assumption | exact List.mem_cons_self | refine List.mem_cons_of_mem _ ?_)))
  (first | show wpAny _ _ _ _ _ (St s h' _) | show wpAny _ _ _ _ _ (St s _ _) | show codeAny _ _ _ _ (St s _ _) | show ite _ (wpAny _ _ _ _ _ (St s _ _)) (wpAny _ _ _ _ _ (St s _ _)))
  refine' r_asgComp EO ?hsw ?hclos rfl ?hnames ?_ ?hs
  case hsw => exact rfl
  case hclos => exact rfl
  case hs => intro _; rfl
  case hnames => decide
  ((refine Call_ ?_); (refine' r_glob EO S R ?ze ?_ ?zhx ?zhd; (case zhx => exact rfl); (case ze => k_is); (case zhd => decide)); (refine' callWith_K ?zx ?zk ?_; (case zx => exact S.x); (case zk => k_is)); (refine wpAny_items_cons ?_); (refine Subscript_ ?_); (refine' r_loc EO R ?zhv ?_ ?zhx ?zhd; (case zhx => exact rfl); (case zhv => exact rfl); (case zhd => decide); clear R; intro _ R); (with_reducible refine q_cint ?_); (refine' r_itemT R ?zhm ?zi1 ?zi2 ?zhv ?_ ?zhs; (case zhm => (repeat (with_reducible first | assumption | exact List.mem_cons_self | refine List.mem_cons_of_mem _ ?_))); (case zhs => with_unfolding_all rfl); (case zhv => first | with_reducible assumption | exact rfl); (case zi1 => exact om110); (case zi2 => exact om111); clear R; intro _ R); (refine wpAny_items_cons ?_); (refine Subscript_ ?_); (refine' r_loc EO R ?zhv ?_ ?zhx ?zhd; (case zhx => exact rfl); (case zhv => exact rfl); (case zhd => decide); clear R; intro _ R); (with_reducible refine q_cint ?_); (refine' r_itemT R ?zhm ?zi1 ?zi2 ?zhv ?_ ?zhs; (case zhm => (repeat (with_reducible first | assumption | exact List.mem_cons_self | refine List.mem_cons_of_mem _ ?_))); (case zhs => with_unfolding_all rfl); (case zhv => first | with_reducible assumption | exact rfl); (case zi1 => exact om21); (case zi2 => exact om22); clear R; intro _ R); (refine wpAny_items_cons ?_); (refine Subscript_ ?_); (refine' r_loc EO R ?zhv ?_ ?zhx ?zhd; (case zhx => exact rfl); (case zhv => exact rfl); (case zhd => decide); clear R; intro _ R); (with_reducible refine q_cint ?_); (refine' r_itemT R ?zhm ?zi1 ?zi2 ?zhv ?_ ?zhs; (case zhm => (repeat (with_reducible first | assumption | exact List.mem_cons_self | refine List.mem_cons_of_mem _ ?_))); (case zhs => with_unfolding_all rfl); (case zhv => first | with_reducible assumption | exact rfl); (case zi1 => exact om156); (case zi2 => exact om157); clear R; intro _ R); (with_reducible refine wpAny_items_nil ?_); (refine ⟨(Rep.stat R S).x, ?_⟩))
  (first | show wpAny _ _ _ _ _ (St s h' _) | show wpAny _ _ _ _ _ (St s _ _) | show codeAny _ _ _ _ (St s _ _) | show ite _ (wpAny _ _ _ _ _ (St s _ _)) (wpAny _ _ _ _ _ (St s _ _)))
  show wpAny _ _ (call (.ref 161) [.float h _, .float s' _, .float v' _]) _ _ _
  refine' spec_hsv (AO.le (show 1 ≤ n + 450 by exact om219)) S R T.f2 T.b2 ?_
  clear R; intro h' tk tt R
  rw [T.rgb] at R
  (first | show wpAny _ _ _ _ _ (St s h' _) | show wpAny _ _ _ _ _ (St s _ _) | show codeAny _ _ _ _ (St s _ _) | show ite _ (wpAny _ _ _ _ _ (St s _ _)) (wpAny _ _ _ _ _ (St s _ _)))
  refine' r_compT AO EO R List.mem_cons_self (outs := [.int (10 ^ 6 * l0), .int (10 ^ 6 * l1), .int (10 ^ 6 * l2)]) ?g1 ?g2 ?hcell rfl ?hx ?turn ?_
  case g1 => rfl
  case g2 => exact of_decide_eq_true rfl
  case hcell => decide
  case hx => rfl
  case turn =>
    clear R
    intro J C D i v u t s E' hi hu EO R
    obtain ⟨f, l', rfl, rfl, hf1, hf2⟩ := bk2_pick T.hx T.hy T.hz hi hu
    have pwE : (10 : Int) ^ Int.toNat 6 = 10 ^ 6 := rfl
    have hmo : IntMulOk 32 (10 ^ 6) := IntMulOk.of_left (bits_le (by decide))
    have hf3 : Float64.isFinite (Float64.mul (Float64.ofInt (32 * 10 ^ 6)) f) = true := hf1
    ((refine Call_ ?_); (refine' r_bi EO S R ?ze ?zhv ?_ ?zhn ?zhx ?zhd; (case zhx => exact rfl); (case ze => k_is); (case zhv => boot_fast); (case zhn => decide); (case zhd => decide)); (refine callWith_method1 ?_); (refine wpAny_items_cons ?_); (with_reducible refine wpAny_BinOp ?_); (with_reducible refine wpAny_BinOp ?_); (with_reducible refine q_cint ?_); (with_reducible refine wpAny_BinOp ?_); (with_reducible refine q_cint ?_); (with_reducible refine q_cint ?_); (refine' r_powE ?zhe ?zh0 ?zhk ?zha ?_; (case zhe => with_reducible first | exact pwE | exact pwE2 | exact pwE3 | exact rfl); (case zh0 => exact om133); (case zhk => exact om134); (case zha => exact om135); intro _ _); (refine' r_mul ?zhe ?zhm ?_; (case zhe => with_reducible first | exact muE | exact muE2 | exact rfl); (case zhm => first | assumption | mul_fits); intro _ _); (refine' r_locS EO R ?zhv ?zhf ?_ ?zhx ?zhd; (case zhx => exact rfl); (case zhv => exact rfl); (case zhf => exact rfl); (case zhd => decide); intro _); (refine' r_mulif AO ?zhb ?_; (case zhb => (first | exact om222 | assumption | decide)); intro _ _); (with_reducible refine wpAny_items_nil ?_); (refine' r_round AO ?zhb ?_; (case zhb => assumption); intro _ _))
    exact ⟨_, _, _, Bear.intE hf2, fun q hq => by (repeat (with_reducible first | assumption | exact List.mem_cons_self | refine List.mem_cons_of_mem _ ?_)), R, rfl⟩
  clear R
  intro C D l' h' tk R0
  refine compEndA EO R0 ?hy fun h' tk' R => ?_
  case hy => rfl
  clear R0
  (first | show wpAny _ _ _ _ _ (St s h' _) | show wpAny _ _ _ _ _ (St s _ _) | show codeAny _ _ _ _ (St s _ _) | show ite _ (wpAny _ _ _ _ _ (St s _ _)) (wpAny _ _ _ _ _ (St s _ _)))
  ((with_reducible refine wpAny_execs_nil ?_))
  exact ⟨rfl, h, s', v', _, _, Rep.tmps tmp (Rep.loc _ R ⟨rfl, rfl, rfl, rfl, rfl, rfl, rfl, rfl, trivial⟩) (fun q hq => by (repeat (with_reducible first | assumption | exact List.mem_cons_self | refine List.mem_cons_of_mem _ ?_))), rfl, T.fa, T.ra⟩

end Mine

/-! S24 -/
namespace Mine
noncomputable def cntZ (t0 t1 : Int) : Nat := [t0.fmod 6, t1.fmod 6, (t0 + t1).fmod 6].count 0
/-- what the square is to be -/
noncomputable def sqOf (p c t0 t1 : Int) : Int := if 0 < c then [p, 1, 0, (p - 2) ^ 2].getD (cntZ t0 t1) 0 else (p - 1) ^ 2 * (if ((t0 + t1).fmod 6 == 0) = true then 1 else 0)
noncomputable def lawRow (K : Frag) (d : Nat) : Option (Scope × Stmt) := match lawOf K d with
  | some (sc, st :: _) => some (sc, st)
  | _ => none
theorem sq_at {p t0 t1 : Int} : [V.int p, V.int 1, V.int 0, V.int ((p - 2) ^ 2)][(((cntZ t0 t1 : Nat) : Int)).toNat]? = some (V.int ([p, 1, 0, (p - 2) ^ 2].getD (cntZ t0 t1) 0)) := by
  rw [Int.toNat_natCast]
  have h : cntZ t0 t1 ≤ 3 := List.count_le_length
  obtain ⟨k, hk⟩ : ∃ k, cntZ t0 t1 = k := ⟨_, rfl⟩
  rw [hk] at h ⊢
  match k, h with
  | 0, _ => rfl
  | 1, _ => rfl
  | 2, _ => rfl
  | 3, _ => rfl
theorem law_square {w : World} {A : Around} {E : Value → Shared → Prop} {s : Shared} {K₀ : Heap} {led : List (Nat × Mo)} {tmp : List (V × Nat)} {n p : Nat} {c t0 t1 : Int} {env : Env} {L cT cP cS : Nat} {v2 v3 v4 v5 v6 : V} {m1 : Mo} {qual : Str} {code : Value} {cl : List (Str × Addr)} {sc : Scope} {st : Stmt}
    (e : lawRow (hd.heap_39 w.params) 10 = some (sc, st)) (hcl : cl = [(("times" : Str), cT), ("p", cP), ("script", cS)])
    (EO : EnvOk env sc L cl qual code) (AO : AOk A (n + 450)) (S : Stat (hd.heap_39 w.params) K₀)
    (R : Rep K₀ ((L, Mo.ns [("both", V.int ((t0 + t1).fmod 6)), ("spread", v2), ("along", v3), ("back", v4), ("lights", v5), ("root", v6), ("c", V.int c), ("turns", V.lst [.int t0, .int t1])]) :: (cT, m1) :: (cP, Mo.cell (some (.int p))) :: led) tmp s.heap)
    (hp : 2 ≤ p ∧ p ≤ 19) :
    wpAny (model PySem.Challenge.rw_uk0010_01.row.prog w) A (exec st env) (fun fl s'' => fl = .next ∧ ∃ h' tk, Rep K₀ ((L, Mo.ns [("square", V.int (sqOf p c t0 t1)), ("spread", v2), ("along", v3), ("back", v4), ("lights", v5), ("root", v6), ("c", V.int c), ("turns", V.lst [.int t0, .int t1])]) :: (cT, m1) :: (cP, Mo.cell (some (.int p))) :: led) tmp h' ∧
      s'' = (St s h' tk)) E s := by
  subst hcl
  revert S
  k_fill
  intro S
  refine' inner_is ?e0 e ?_
  case e0 => with_unfolding_all exact rfl
  intro q0
  cases q0
  clear e
  dsimp only [List.drop] at EO ⊢
  ((with_reducible refine wpAny_If ?_); (with_reducible refine wpAny_isTrue_Compare1 ?_); (refine' r_locS EO R ?zhv ?zhf ?_ ?zhx ?zhd; (case zhx => exact rfl); (case zhv => exact rfl); (case zhf => exact rfl); (case zhd => decide); intro _); (with_reducible refine q_cint ?_); (with_reducible refine P.gt_int ?_); (with_reducible refine wpAny_truthy_bool ?_))
  (first | show wpAny _ _ _ _ _ (St s h' _) | show wpAny _ _ _ _ _ (St s _ _) | show codeAny _ _ _ _ (St s _ _) | show ite _ (wpAny _ _ _ _ _ (St s _ _)) (wpAny _ _ _ _ _ (St s _ _)))
  by_cases hc : 0 < c
  · have pwE : ((p : Int) - 2) ^ Int.toNat 2 = ((p : Int) - 2) ^ 2 := rfl
    ((refine PySem.W.ite_pos (by (first | rfl | (simp only [decide_eq_true_eq, beq_iff_eq, bne_iff_ne, ne_eq]; first | assumption | omega) | omega)) ?_))
    ((with_reducible refine wpAny_execs_cons ?_); (refine wpAny_Assign_Name ?_); (refine Subscript_ ?_); (with_reducible refine List_ ?_); (refine wpAny_items_cons ?_); (refine' r_cellS EO R ?zhx ?zhc ?zhm ?zhf ?_ ?zhd ?zhn; (case zhx => (first | exact Or.inl rfl | exact Or.inr rfl)); (case zhc => first | assumption | exact rfl); (case zhm => (repeat (with_reducible first | assumption | exact List.mem_cons_self | refine List.mem_cons_of_mem _ ?_))); (case zhf => exact rfl); (case zhd => decide); (case zhn => decide); intro _); (refine wpAny_items_cons ?_); (with_reducible refine q_cint ?_); (refine wpAny_items_cons ?_); (with_reducible refine q_cint ?_); (refine wpAny_items_cons ?_); (with_reducible refine wpAny_BinOp ?_); (with_reducible refine wpAny_BinOp ?_); (refine' r_cellS EO R ?zhx ?zhc ?zhm ?zhf ?_ ?zhd ?zhn; (case zhx => (first | exact Or.inl rfl | exact Or.inr rfl)); (case zhc => first | assumption | exact rfl); (case zhm => (repeat (with_reducible first | assumption | exact List.mem_cons_self | refine List.mem_cons_of_mem _ ?_))); (case zhf => exact rfl); (case zhd => decide); (case zhn => decide); intro _); (with_reducible refine q_cint ?_); (with_reducible refine q_subi ?_); (with_reducible refine q_cint ?_); (refine' r_powE ?zhe ?zh0 ?zhk ?zha ?_; (case zhe => with_reducible first | exact pwE | exact pwE2 | exact pwE3 | exact rfl); (case zh0 => exact om156); (case zhk => exact om224); (case zha => exact om225 hp); intro _ _); (with_reducible refine wpAny_items_nil ?_); (refine' r_newList R ?zhv ?_ ?zhs; (case zhv => (repeat (first | exact Bears.nil | (apply Bears.cons; (with_reducible first | exact Bear.int | exact Bear.float | exact Bear.str | exact Bear.bool | exact Bear.none | (refine' Bear.tup ?zb3; (case zb3 => (repeat (with_reducible first | exact List.mem_cons_self | refine List.mem_cons_of_mem _ ?_)))) | (refine' Bear.lst ?zb3; (case zb3 => (repeat (with_reducible first | exact List.mem_cons_self | refine List.mem_cons_of_mem _ ?_)))) | exact Bear.raw))))); (case zhs => exact of_decide_eq_true (by rfl)); clear R; intro _ h' R; (try (first | show wpAny _ _ _ _ _ (St s h' _) | show wpAny _ _ _ _ _ (St s _ _) | show codeAny _ _ _ _ (St s _ _) | show ite _ (wpAny _ _ _ _ _ (St s _ _)) (wpAny _ _ _ _ _ (St s _ _))))); (refine MethodCall_ ?_); (with_reducible refine List_ ?_); (refine wpAny_items_cons ?_); (with_reducible refine wpAny_BinOp ?_); (refine Subscript_ ?_); (refine' r_loc EO R ?zhv ?_ ?zhx ?zhd; (case zhx => exact rfl); (case zhv => exact rfl); (case zhd => decide); clear R; intro _ R); (with_reducible refine q_cint ?_); (refine' r_itemL R ?zhm ?zi1 ?zi2 ?zhv ?_ ?zhs; (case zhm => (repeat (with_reducible first | assumption | exact List.mem_cons_self | refine List.mem_cons_of_mem _ ?_))); (case zhs => with_unfolding_all rfl); (case zhv => first | with_reducible assumption | exact rfl); (case zi1 => exact om110); (case zi2 => exact om111); clear R; intro _ R); (with_reducible refine q_cint ?_); (refine' q_modi (b := _) ?zhb ?_; (case zhb => (first | exact om114 | assumption | decide))); (refine wpAny_items_cons ?_); (with_reducible refine wpAny_BinOp ?_); (refine Subscript_ ?_); (refine' r_loc EO R ?zhv ?_ ?zhx ?zhd; (case zhx => exact rfl); (case zhv => exact rfl); (case zhd => decide); clear R; intro _ R); (with_reducible refine q_cint ?_); (refine' r_itemL R ?zhm ?zi1 ?zi2 ?zhv ?_ ?zhs; (case zhm => (repeat (with_reducible first | assumption | exact List.mem_cons_self | refine List.mem_cons_of_mem _ ?_))); (case zhs => with_unfolding_all rfl); (case zhv => first | with_reducible assumption | exact rfl); (case zi1 => exact om21); (case zi2 => exact om22); clear R; intro _ R); (with_reducible refine q_cint ?_); (refine' q_modi (b := _) ?zhb ?_; (case zhb => (first | exact om114 | assumption | decide))); (refine wpAny_items_cons ?_); (refine' r_locS EO R ?zhv ?zhf ?_ ?zhx ?zhd; (case zhx => exact rfl); (case zhv => exact rfl); (case zhf => exact rfl); (case zhd => decide); intro _); (with_reducible refine wpAny_items_nil ?_))
    (first | show wpAny _ _ _ _ _ (St s h' _) | show wpAny _ _ _ _ _ (St s _ _) | show codeAny _ _ _ _ (St s _ _) | show ite _ (wpAny _ _ _ _ _ (St s _ _)) (wpAny _ _ _ _ _ (St s _ _)))
    refine' r_newListPl R (vs := [t0.fmod 6, t1.fmod 6, (t0 + t1).fmod 6].map V.int) ?hv ?_ ?hs
    case hv => (repeat (first | exact Bears.nil | (apply Bears.cons; (with_reducible first | exact Bear.int | exact Bear.float | exact Bear.str | exact Bear.bool | exact Bear.none | (refine' Bear.tup ?zb3; (case zb3 => (repeat (with_reducible first | exact List.mem_cons_self | refine List.mem_cons_of_mem _ ?_)))) | (refine' Bear.lst ?zb3; (case zb3 => (repeat (with_reducible first | exact List.mem_cons_self | refine List.mem_cons_of_mem _ ?_)))) | exact Bear.raw))))
    case hs => exact of_decide_eq_true rfl
    clear R; intro d h' R
    (first | show wpAny _ _ _ _ _ (St s h' _) | show wpAny _ _ _ _ _ (St s _ _) | show codeAny _ _ _ _ (St s _ _) | show ite _ (wpAny _ _ _ _ _ (St s _ _)) (wpAny _ _ _ _ _ (St s _ _)))
    ((refine' r_methodPl R ?zhm PySem.F.slot_list_count PySem.F.type_list_count ?_; (case zhm => (repeat (with_reducible first | assumption | exact List.mem_cons_self | refine List.mem_cons_of_mem _ ?_)))); (refine callWith_method1 ?_); (refine wpAny_items_cons ?_); (with_reducible refine q_cint ?_); (with_reducible refine wpAny_items_nil ?_))
    refine r_count R (xs := [t0.fmod 6, t1.fmod 6, (t0 + t1).fmod 6]) (by (repeat (with_reducible first | assumption | exact List.mem_cons_self | refine List.mem_cons_of_mem _ ?_))) fun tk t => ?_
    (first | show wpAny _ _ _ _ _ (St s h' _) | show wpAny _ _ _ _ _ (St s _ _) | show codeAny _ _ _ _ (St s _ _) | show ite _ (wpAny _ _ _ _ _ (St s _ _)) (wpAny _ _ _ _ _ (St s _ _)))
    show wpAny _ _ (subscriptTail _ _ (.ref _) (.int ((cntZ t0 t1 : Nat) : Int) _)) _ _ _
    have hcz : cntZ t0 t1 ≤ 3 := List.count_le_length
    refine' r_itemL R ?hm ?i1 ?i2 sq_at ?_ ?hs
    case hm => (repeat (with_reducible first | assumption | exact List.mem_cons_self | refine List.mem_cons_of_mem _ ?_))
    case hs => with_unfolding_all rfl
    case i1 => exact om226 hcz
    case i2 => exact om227 hcz
    clear R; intro tq R
    (first | show wpAny _ _ _ _ _ (St s h' _) | show wpAny _ _ _ _ _ (St s _ _) | show codeAny _ _ _ _ (St s _ _) | show ite _ (wpAny _ _ _ _ _ (St s _ _)) (wpAny _ _ _ _ _ (St s _ _)))
    ((refine' r_store EO R ?zhx ?zhv ?_; (case zhx => exact rfl); (case zhv => (with_reducible first | exact Bear.int | exact Bear.float | exact Bear.str | exact Bear.bool | exact Bear.none | (refine' Bear.tup ?zb3; (case zb3 => (repeat (with_reducible first | exact List.mem_cons_self | refine List.mem_cons_of_mem _ ?_)))) | (refine' Bear.lst ?zb3; (case zb3 => (repeat (with_reducible first | exact List.mem_cons_self | refine List.mem_cons_of_mem _ ?_)))) | exact Bear.raw)); clear R; intro h' _ R; (try (first | show wpAny _ _ _ _ _ (St s h' _) | show wpAny _ _ _ _ _ (St s _ _) | show codeAny _ _ _ _ (St s _ _) | show ite _ (wpAny _ _ _ _ _ (St s _ _)) (wpAny _ _ _ _ _ (St s _ _))))); (with_reducible refine wpAny_execs_nil ?_))
    replace R := Rep.dropIn (pre := [_]) R
    exact ⟨rfl, _, _, Rep.tmps tmp (Rep.loc _ R ⟨by rw [sqOf, if_pos hc]; rfl, rfl, rfl, rfl, rfl, rfl, rfl, rfl, trivial⟩) (fun q hq => by (repeat (with_reducible first | assumption | exact List.mem_cons_self | refine List.mem_cons_of_mem _ ?_))), rfl⟩
  · ((refine PySem.W.ite_neg (by (first | (with_reducible exact Bool.false_ne_true) | (simp only [decide_eq_true_eq, beq_iff_eq, bne_iff_ne, ne_eq, Bool.false_eq_true, not_false_eq_true]; first | done | assumption | omega) | omega)) ?_))
    have pwE : ((p : Int) - 1) ^ Int.toNat 2 = ((p : Int) - 1) ^ 2 := rfl
    have hmo : IntMulOk (((p : Int) - 1) ^ 2) (if ((t0 + t1).fmod 6 == 0) = true then 1 else 0) := IntMulOk.of_right (bits_le (by split <;> decide))
    ((with_reducible refine wpAny_execs_cons ?_); (refine wpAny_Assign_Name ?_); (with_reducible refine wpAny_BinOp ?_); (with_reducible refine wpAny_BinOp ?_); (with_reducible refine wpAny_BinOp ?_); (refine' r_cellS EO R ?zhx ?zhc ?zhm ?zhf ?_ ?zhd ?zhn; (case zhx => (first | exact Or.inl rfl | exact Or.inr rfl)); (case zhc => first | assumption | exact rfl); (case zhm => (repeat (with_reducible first | assumption | exact List.mem_cons_self | refine List.mem_cons_of_mem _ ?_))); (case zhf => exact rfl); (case zhd => decide); (case zhn => decide); intro _); (with_reducible refine q_cint ?_); (with_reducible refine q_subi ?_); (with_reducible refine q_cint ?_); (refine' r_powE ?zhe ?zh0 ?zhk ?zha ?_; (case zhe => with_reducible first | exact pwE | exact pwE2 | exact pwE3 | exact rfl); (case zh0 => exact om156); (case zhk => exact om224); (case zha => exact om228 hp); intro _ _); (refine Call_ ?_); (refine' r_bi EO S R ?ze ?zhv ?_ ?zhn ?zhx ?zhd; (case zhx => exact rfl); (case ze => k_is); (case zhv => boot_fast); (case zhn => decide); (case zhd => decide)); (refine Pv.callWith_type1 ?_); (refine wpAny_items_cons ?_); (with_reducible refine wpAny_Compare1 ?_); (refine' r_locS EO R ?zhv ?zhf ?_ ?zhx ?zhd; (case zhx => exact rfl); (case zhv => exact rfl); (case zhf => exact rfl); (case zhd => decide); intro _); (with_reducible refine q_cint ?_); (with_reducible refine P.eq_int ?_); (with_reducible refine wpAny_items_nil ?_); (with_reducible refine call_int_bool ?_); (refine' r_mul ?zhe ?zhm ?_; (case zhe => with_reducible first | exact muE | exact muE2 | exact rfl); (case zhm => first | assumption | mul_fits); intro _ _); (refine' r_store EO R ?zhx ?zhv ?_; (case zhx => exact rfl); (case zhv => (with_reducible first | exact Bear.int | exact Bear.float | exact Bear.str | exact Bear.bool | exact Bear.none | (refine' Bear.tup ?zb3; (case zb3 => (repeat (with_reducible first | exact List.mem_cons_self | refine List.mem_cons_of_mem _ ?_)))) | (refine' Bear.lst ?zb3; (case zb3 => (repeat (with_reducible first | exact List.mem_cons_self | refine List.mem_cons_of_mem _ ?_)))) | exact Bear.raw)); clear R; intro h' _ R; (try (first | show wpAny _ _ _ _ _ (St s h' _) | show wpAny _ _ _ _ _ (St s _ _) | show codeAny _ _ _ _ (St s _ _) | show ite _ (wpAny _ _ _ _ _ (St s _ _)) (wpAny _ _ _ _ _ (St s _ _))))); (with_reducible refine wpAny_execs_nil ?_))
    exact ⟨rfl, _, _, Rep.tmps tmp (Rep.loc _ R ⟨by rw [sqOf, if_neg hc]; rfl, rfl, rfl, rfl, rfl, rfl, rfl, rfl, trivial⟩) (fun q hq => by (repeat (with_reducible first | assumption | exact List.mem_cons_self | refine List.mem_cons_of_mem _ ?_))), rfl⟩

end Mine

/-! S25 -/
namespace Mine
theorem ite_join2 {M : Model} {A : Around} {E : Value → Shared → Prop} {s : Shared} {α : Type} {b : Bool} {x1 x2 : Sem α} {Q : α → Shared → Prop} (Mid : α → Shared → Prop) (mid : ∀ fl s', Mid fl s' → Q fl s') (h1 : b = true → wpAny M A x1 Mid E s) (h2 : b ≠ true → wpAny M A x2 Mid E s) :
    if b = true then wpAny M A x1 Q E s else wpAny M A x2 Q E s := by
  by_cases hb : b = true
  · rw [if_pos hb]; exact wpAny_mono (h1 hb) mid fun _ _ x => x
  · rw [if_neg hb]; exact wpAny_mono (h2 hb) mid fun _ _ x => x
noncomputable def SqOk (spread along p c t0 t1 : Int) : Prop := spread * spread - spread * along + along * along = sqOf p c t0 t1
theorem law_mid {w : World} {A : Around} {E : Value → Shared → Prop} {s : Shared} {K₀ : Heap} {led : List (Nat × Mo)} {tmp : List (V × Nat)} {n : Nat} {p root : Nat} {c t0 t1 l0 l1 l2 s0 s1 s2 s3 spread along : Int} {env : Env} {L cT cP cS : Nat} {qual : Str} {code : Value} {cl : List (Str × Addr)} {sc : Scope} {rest : List Stmt}
    (e : lawOf (hd.heap_39 w.params) 7 = some (sc, rest)) (hcl : cl = [(("times" : Str), cT), ("p", cP), ("script", cS)])
    (EO : EnvOk env sc L cl qual code) (AO : AOk A (n + 450)) (S : Stat (hd.heap_39 w.params) K₀) (hC : CodeHd K₀ 68 64) (hC2 : CodeHd K₀ 75 71)
    (R : Rep K₀ ((L, Mo.ns [("sums", V.lst [.int s0, .int s1, .int s2, .int s3]), ("root", V.int root), ("c", V.int c), ("turns", V.lst [.int t0, .int t1]), ("lights", V.lst [.int l0, .int l1, .int l2])]) :: (cT, Mo.cell none) :: (cP, Mo.cell (some (.int p))) :: led) tmp s.heap)
    (hT : (64, Mo.tab siteA) ∈ led) (hT2 : (71, Mo.tab siteD) ∈ led) (hp : 2 ≤ p ∧ p ≤ 19) (hrt : root ≤ 3) (hc : 0 ≤ c ∧ c ≤ 19) (hl0 : 0 ≤ l0 ∧ l0 ≤ 20) (hl1 : 0 ≤ l1 ∧ l1 ≤ 20) (hl2 : 0 ≤ l2 ∧ l2 ≤ 20) (ht0 : 0 ≤ t0 ∧ t0 ≤ 6) (ht1 : 0 ≤ t1 ∧ t1 ≤ 6)
    (hdue : ∀ times : Int, times = 1 ∨ times = 5 → ∃ first second few k3 mx cnt w due, Due p root c t0 t1 l0 l1 l2 times first second few k3 mx cnt w due)
    (h1 : ∃ h l s x y z, HlsT l0 l1 l2 spread along h l s x y z) (h2 : ∃ h l s x y z, HsvT l0 l1 l2 spread along h l s x y z)
    (hsp : 0 ≤ spread ∧ spread ≤ 40) (hal : 0 ≤ along ∧ along ≤ 40) (hsq : SqOk spread along p c t0 t1) :
    wpAny (model PySem.Challenge.rw_uk0010_01.row.prog w) A (execs rest env) (fun fl s' => fl = .ret (.bool true) ∧ ∃ tmp' h' tk, Rep K₀ led tmp' h' ∧ s' = (St s h' tk)) E s := by
  subst hcl
  revert S
  k_fill
  intro S
  refine' inner_is ?e0 e ?_
  case e0 => with_unfolding_all exact rfl
  intro q0
  cases q0
  clear e
  dsimp only [List.drop] at EO ⊢
  ((with_reducible refine wpAny_execs_cons ?_); (with_reducible refine wpAny_If ?_); (refine wpAny_isTrue_value ?_); (with_reducible refine wpAny_BinOp ?_); (with_reducible refine wpAny_BinOp ?_); (refine Subscript_ ?_); (refine' r_loc EO R ?zhv ?_ ?zhx ?zhd; (case zhx => exact rfl); (case zhv => exact rfl); (case zhd => decide); clear R; intro _ R); (with_reducible refine q_cint ?_); (refine' r_itemL R ?zhm ?zi1 ?zi2 ?zhv ?_ ?zhs; (case zhm => (repeat (with_reducible first | assumption | exact List.mem_cons_self | refine List.mem_cons_of_mem _ ?_))); (case zhs => with_unfolding_all rfl); (case zhv => first | with_reducible assumption | exact rfl); (case zi1 => exact om163); (case zi2 => exact om164); clear R; intro _ R); (with_reducible refine q_cint ?_); (refine' r_div ?zhb ?zhp ?_; (case zhb => (first | exact om58 | assumption | decide)); (case zhp => (first | exact om197 | assumption | decide)); intro _ _); (with_reducible refine q_cint ?_); (refine' q_modi (b := _) ?zhb ?_; (case zhb => (first | exact om33 | assumption | decide))); (with_reducible refine P.truthy_int ?_))
  (first | show wpAny _ _ _ _ _ (St s h' _) | show wpAny _ _ _ _ _ (St s _ _) | show codeAny _ _ _ _ (St s _ _) | show ite _ (wpAny _ _ _ _ _ (St s _ _)) (wpAny _ _ _ _ _ (St s _ _)))
  refine ite_join2 (fun fl s'' => fl = .next ∧ ∃ h a b h' tk, Rep K₀ ((L, Mo.ns [("told", V.tup [.float h, .float a, .float b]), ("spread", V.int spread), ("back", V.lst [.int (10 ^ 6 * l0), .int (10 ^ 6 * l1), .int (10 ^ 6 * l2)]), ("sums", V.lst [.int s0, .int s1, .int s2, .int s3]), ("root", V.int root), ("c", V.int c), ("turns", V.lst [.int t0, .int t1]), ("lights", V.lst [.int l0, .int l1, .int l2])]) :: (cT, Mo.cell none) :: (cP, Mo.cell (some (.int p))) :: led) tmp h' ∧
      s'' = (St s h' tk) ∧ Float64.isFinite (alF spread h) = true ∧ (rnd (alF spread h)).fmod (max spread 1) = along) ?mid ?a1 ?a2
  case a1 =>
    intro _
    obtain ⟨h, l, s', x, y, z, T⟩ := h1
    replace R := Rep.tmps tmp R (fun q hq => by (repeat (with_reducible first | assumption | exact List.mem_cons_self | refine List.mem_cons_of_mem _ ?_)))
    refine' wpAny_mono (law_hls (n := n) ?e rfl EO AO S R hl0 hl1 hl2 T) (fun fl s'' hq => hq) fun _ _ x => x
    case e => with_unfolding_all exact rfl
  case a2 =>
    intro _
    obtain ⟨h, l, s', x, y, z, T⟩ := h2
    replace R := Rep.tmps tmp R (fun q hq => by (repeat (with_reducible first | assumption | exact List.mem_cons_self | refine List.mem_cons_of_mem _ ?_)))
    refine' wpAny_mono (law_hsv (n := n) ?e rfl EO AO S R hl0 hl1 hl2 T) (fun fl s'' hq => hq) fun _ _ x => x
    case e => with_unfolding_all exact rfl
  case mid =>
    clear R
    rintro fl s' ⟨rfl, h, a, b, h', tk, R, rfl, fa, ra⟩
    have hmo6 : IntMulOk 6 spread := IntMulOk.of_left (bits_le (by decide))
    have fa' : Float64.isFinite (Float64.mul (Float64.ofInt (6 * spread)) h) = true := fa
    ((with_reducible refine wpAny_execs_cons ?_); (refine wpAny_Assign_Name ?_); (with_reducible refine wpAny_BinOp ?_); (refine Call_ ?_); (refine' r_bi EO S R ?ze ?zhv ?_ ?zhn ?zhx ?zhd; (case zhx => exact rfl); (case ze => k_is); (case zhv => boot_fast); (case zhn => decide); (case zhd => decide)); (refine callWith_method1 ?_); (refine wpAny_items_cons ?_); (with_reducible refine wpAny_BinOp ?_); (with_reducible refine wpAny_BinOp ?_); (with_reducible refine q_cint ?_); (refine' r_locS EO R ?zhv ?zhf ?_ ?zhx ?zhd; (case zhx => exact rfl); (case zhv => exact rfl); (case zhf => exact rfl); (case zhd => decide); intro _); (refine' r_mul ?zhe ?zhm ?_; (case zhe => with_reducible first | exact muE | exact muE2 | exact rfl); (case zhm => first | assumption | mul_fits); intro _ _); (refine Subscript_ ?_); (refine' r_loc EO R ?zhv ?_ ?zhx ?zhd; (case zhx => exact rfl); (case zhv => exact rfl); (case zhd => decide); clear R; intro _ R); (with_reducible refine q_cint ?_); (refine' r_itemT R ?zhm ?zi1 ?zi2 ?zhv ?_ ?zhs; (case zhm => (repeat (with_reducible first | assumption | exact List.mem_cons_self | refine List.mem_cons_of_mem _ ?_))); (case zhs => with_unfolding_all rfl); (case zhv => first | with_reducible assumption | exact rfl); (case zi1 => exact om110); (case zi2 => exact om111); clear R; intro _ R); (refine' r_mulif AO ?zhb ?_; (case zhb => (first | exact om229 hsp | assumption | decide)); intro _ _); (with_reducible refine wpAny_items_nil ?_); (refine' r_round AO ?zhb ?_; (case zhb => assumption); intro _ _); (refine Call_ ?_); (refine' r_bi EO S R ?ze ?zhv ?_ ?zhn ?zhx ?zhd; (case zhx => exact rfl); (case ze => k_is); (case zhv => boot_fast); (case zhn => decide); (case zhd => decide)); (refine callWith_method1 ?_); (refine wpAny_items_cons ?_); (refine' r_locS EO R ?zhv ?zhf ?_ ?zhx ?zhd; (case zhx => exact rfl); (case zhv => exact rfl); (case zhf => exact rfl); (case zhd => decide); intro _); (refine wpAny_items_cons ?_); (with_reducible refine q_cint ?_); (with_reducible refine wpAny_items_nil ?_))
    (first | show wpAny _ _ _ _ _ (St s h' _) | show wpAny _ _ _ _ _ (St s _ _) | show codeAny _ _ _ _ (St s _ _) | show ite _ (wpAny _ _ _ _ _ (St s _ _)) (wpAny _ _ _ _ _ (St s _ _)))
    show wpAny _ _ (call (.builtin "max") [.int spread _, .int 1 _]) _ _ _
    refine' r_maxII AO R ?_
    clear R; intro h' tk tm R
    (first | show wpAny _ _ _ _ _ (St s h' _) | show wpAny _ _ _ _ _ (St s _ _) | show codeAny _ _ _ _ (St s _ _) | show ite _ (wpAny _ _ _ _ _ (St s _ _)) (wpAny _ _ _ _ _ (St s _ _)))
    have hmx : max spread 1 ≠ 0 := by exact om230 hsp
    ((refine' q_modi (b := _) ?zhb ?_; (case zhb => (first | exact om231 hmx | assumption | decide))); (refine' r_store EO R ?zhx ?zhv ?_; (case zhx => exact rfl); (case zhv => (with_reducible first | exact Bear.int | exact Bear.float | exact Bear.str | exact Bear.bool | exact Bear.none | (refine' Bear.tup ?zb3; (case zb3 => (repeat (with_reducible first | exact List.mem_cons_self | refine List.mem_cons_of_mem _ ?_)))) | (refine' Bear.lst ?zb3; (case zb3 => (repeat (with_reducible first | exact List.mem_cons_self | refine List.mem_cons_of_mem _ ?_)))) | exact Bear.raw)); clear R; intro h' _ R; (try (first | show wpAny _ _ _ _ _ (St s h' _) | show wpAny _ _ _ _ _ (St s _ _) | show codeAny _ _ _ _ (St s _ _) | show ite _ (wpAny _ _ _ _ _ (St s _ _)) (wpAny _ _ _ _ _ (St s _ _))))); (with_reducible refine wpAny_execs_cons ?_); (refine wpAny_Assign_Name ?_); (with_reducible refine wpAny_BinOp ?_); (with_reducible refine wpAny_BinOp ?_); (refine Subscript_ ?_); (refine' r_loc EO R ?zhv ?_ ?zhx ?zhd; (case zhx => exact rfl); (case zhv => exact rfl); (case zhd => decide); clear R; intro _ R); (with_reducible refine q_cint ?_); (refine' r_itemL R ?zhm ?zi1 ?zi2 ?zhv ?_ ?zhs; (case zhm => (repeat (with_reducible first | assumption | exact List.mem_cons_self | refine List.mem_cons_of_mem _ ?_))); (case zhs => with_unfolding_all rfl); (case zhv => first | with_reducible assumption | exact rfl); (case zi1 => exact om110); (case zi2 => exact om111); clear R; intro _ R); (refine Subscript_ ?_); (refine' r_loc EO R ?zhv ?_ ?zhx ?zhd; (case zhx => exact rfl); (case zhv => exact rfl); (case zhd => decide); clear R; intro _ R); (with_reducible refine q_cint ?_); (refine' r_itemL R ?zhm ?zi1 ?zi2 ?zhv ?_ ?zhs; (case zhm => (repeat (with_reducible first | assumption | exact List.mem_cons_self | refine List.mem_cons_of_mem _ ?_))); (case zhs => with_unfolding_all rfl); (case zhv => first | with_reducible assumption | exact rfl); (case zi1 => exact om21); (case zi2 => exact om22); clear R; intro _ R); (with_reducible refine q_addi ?_); (with_reducible refine q_cint ?_); (refine' q_modi (b := _) ?zhb ?_; (case zhb => (first | exact om114 | assumption | decide))); (refine' r_store EO R ?zhx ?zhv ?_; (case zhx => exact rfl); (case zhv => (with_reducible first | exact Bear.int | exact Bear.float | exact Bear.str | exact Bear.bool | exact Bear.none | (refine' Bear.tup ?zb3; (case zb3 => (repeat (with_reducible first | exact List.mem_cons_self | refine List.mem_cons_of_mem _ ?_)))) | (refine' Bear.lst ?zb3; (case zb3 => (repeat (with_reducible first | exact List.mem_cons_self | refine List.mem_cons_of_mem _ ?_)))) | exact Bear.raw)); clear R; intro h' _ R; (try (first | show wpAny _ _ _ _ _ (St s h' _) | show wpAny _ _ _ _ _ (St s _ _) | show codeAny _ _ _ _ (St s _ _) | show ite _ (wpAny _ _ _ _ _ (St s _ _)) (wpAny _ _ _ _ _ (St s _ _))))); (with_reducible refine wpAny_execs_cons ?_))
    replace R := Rep.loc [("both", V.int ((t0 + t1).fmod 6)), ("spread", V.int spread), ("along", V.int along), ("back", V.lst [.int (10 ^ 6 * l0), .int (10 ^ 6 * l1), .int (10 ^ 6 * l2)]), ("lights", V.lst [.int l0, .int l1, .int l2]), ("root", V.int root), ("c", V.int c), ("turns", V.lst [.int t0, .int t1])] R ⟨rfl, rfl, by rw [← ra]; rfl, rfl, rfl, rfl, rfl, rfl, trivial⟩
    replace R := Rep.tmps tmp R (fun q hq => by (repeat (with_reducible first | assumption | exact List.mem_cons_self | refine List.mem_cons_of_mem _ ?_)))
    (first | show wpAny _ _ _ _ _ (St s h' _) | show wpAny _ _ _ _ _ (St s _ _) | show codeAny _ _ _ _ (St s _ _) | show ite _ (wpAny _ _ _ _ _ (St s _ _)) (wpAny _ _ _ _ _ (St s _ _)))
    refine wpAny_mono (law_square (n := n) ?e rfl EO AO S R hp) (fun fl s'' hq => ?_) fun _ _ x => x
    case e => with_unfolding_all exact rfl
    obtain ⟨rfl, h', tk, R2, rfl⟩ := hq
    replace R := R2
    clear R2
    (first | show wpAny _ _ _ _ _ (St s h' _) | show wpAny _ _ _ _ _ (St s _ _) | show codeAny _ _ _ _ (St s _ _) | show ite _ (wpAny _ _ _ _ _ (St s _ _)) (wpAny _ _ _ _ _ (St s _ _)))
    ((with_reducible refine wpAny_execs_cons ?_); (with_reducible refine wpAny_If ?_); (with_reducible refine wpAny_isTrue_Compare1 ?_); (refine' r_loc EO R ?zhv ?_ ?zhx ?zhd; (case zhx => exact rfl); (case zhv => exact rfl); (case zhd => decide); clear R; intro _ R))
    refine' r_listComp EO ?hclos rfl ?hnames ?_ ?hs
    case hclos => exact rfl
    case hs => intro _; rfl
    case hnames => decide
    ((refine' r_loc EO R ?zhv ?_ ?zhx ?zhd; (case zhx => exact rfl); (case zhv => exact rfl); (case zhd => decide); clear R; intro _ R))
    show wpAny _ _ (pyIter (.ref _)) _ _ _
    (first | show wpAny _ _ _ _ _ (St s h' _) | show wpAny _ _ _ _ _ (St s _ _) | show codeAny _ _ _ _ (St s _ _) | show ite _ (wpAny _ _ _ _ _ (St s _ _)) (wpAny _ _ _ _ _ (St s _ _)))
    refine' r_compL AO EO R ?hm (outs := [.int (10 ^ 6 * l0), .int (10 ^ 6 * l1), .int (10 ^ 6 * l2)]) ?g1 ?g2 ?hcell rfl ?hx ?turn ?_
    case hm => exact List.mem_cons_self
    case g1 => rfl
    case g2 => exact of_decide_eq_true rfl
    case hcell => decide
    case hx => rfl
    case turn =>
      clear R
      intro J C D i v u t s E' hi hu EO R
      obtain ⟨f, rfl, rfl⟩ : ∃ f, v = .int f ∧ u = .int (10 ^ 6 * f) := by
        match i, hi, hu with
        | 0, hi, hu => cases hi; cases hu; exact ⟨_, rfl, rfl⟩
        | 1, hi, hu => cases hi; cases hu; exact ⟨_, rfl, rfl⟩
        | 2, hi, hu => cases hi; cases hu; exact ⟨_, rfl, rfl⟩
        | i + 3, hi, _ => cases hi
      have pwE : (10 : Int) ^ Int.toNat 6 = 10 ^ 6 := rfl
      have hmo : IntMulOk (10 ^ 6) f := IntMulOk.of_left (bits_le (by decide))
      ((with_reducible refine wpAny_BinOp ?_); (with_reducible refine wpAny_BinOp ?_); (with_reducible refine q_cint ?_); (with_reducible refine q_cint ?_); (refine' r_powE ?zhe ?zh0 ?zhk ?zha ?_; (case zhe => with_reducible first | exact pwE | exact pwE2 | exact pwE3 | exact rfl); (case zh0 => exact om133); (case zhk => exact om134); (case zha => exact om135); intro _ _); (refine' r_locS EO R ?zhv ?zhf ?_ ?zhx ?zhd; (case zhx => exact rfl); (case zhv => exact rfl); (case zhf => exact rfl); (case zhd => decide); intro _); (refine' r_mul ?zhe ?zhm ?_; (case zhe => with_reducible first | exact muE | exact muE2 | exact rfl); (case zhm => first | assumption | mul_fits); intro _ _))
      exact ⟨_, _, _, Bear.int, fun q hq => by (repeat (with_reducible first | assumption | exact List.mem_cons_self | refine List.mem_cons_of_mem _ ?_)), R, rfl⟩
    clear R
    intro C D l' h' tk R0
    refine compEnd R0 fun h' R => ?_
    clear R0
    (first | show wpAny _ _ _ _ _ (St s h' _) | show wpAny _ _ _ _ _ (St s _ _) | show codeAny _ _ _ _ (St s _ _) | show ite _ (wpAny _ _ _ _ _ (St s _ _)) (wpAny _ _ _ _ _ (St s _ _)))
    skip
    refine r_neSame (xs := [10 ^ 6 * l0, 10 ^ 6 * l1, 10 ^ 6 * l2]) AO R (LAt.ofTmp (show (V.lst [.int (10 ^ 6 * l0), .int (10 ^ 6 * l1), .int (10 ^ 6 * l2)], _) ∈ _ by (repeat (with_reducible first | assumption | exact List.mem_cons_self | refine List.mem_cons_of_mem _ ?_)))) (LAt.ofTmp (show (V.lst [.int (10 ^ 6 * l0), .int (10 ^ 6 * l1), .int (10 ^ 6 * l2)], _) ∈ _ by (repeat (with_reducible first | assumption | exact List.mem_cons_self | refine List.mem_cons_of_mem _ ?_)))) ?_
    replace R := Rep.tmps tmp R (fun q hq => by (repeat (with_reducible first | assumption | exact List.mem_cons_self | refine List.mem_cons_of_mem _ ?_)))
    (first | show wpAny _ _ _ _ _ (St s h' _) | show wpAny _ _ _ _ _ (St s _ _) | show codeAny _ _ _ _ (St s _ _) | show ite _ (wpAny _ _ _ _ _ (St s _ _)) (wpAny _ _ _ _ _ (St s _ _)))
    have hm1 : IntMulOk spread spread := IntMulOk.of_left (bits_le (by exact om232 hsp))
    have hm2 : IntMulOk spread along := IntMulOk.of_left (bits_le (by exact om232 hsp))
    have hm3 : IntMulOk along along := IntMulOk.of_left (bits_le (by exact om233 hal ra))
    ((with_reducible refine wpAny_truthy_bool ?_); (refine PySem.W.ite_neg (by (first | (with_reducible exact Bool.false_ne_true) | (simp only [decide_eq_true_eq, beq_iff_eq, bne_iff_ne, ne_eq, Bool.false_eq_true, not_false_eq_true]; first | done | assumption | omega) | omega)) ?_); (with_reducible refine wpAny_execs_nil ?_); (with_reducible refine wpAny_execs_cons ?_); (with_reducible refine wpAny_If ?_); (with_reducible refine wpAny_isTrue_Compare1 ?_); (with_reducible refine wpAny_BinOp ?_); (with_reducible refine wpAny_BinOp ?_); (with_reducible refine wpAny_BinOp ?_); (refine' r_locS EO R ?zhv ?zhf ?_ ?zhx ?zhd; (case zhx => exact rfl); (case zhv => exact rfl); (case zhf => exact rfl); (case zhd => decide); intro _); (refine' r_locS EO R ?zhv ?zhf ?_ ?zhx ?zhd; (case zhx => exact rfl); (case zhv => exact rfl); (case zhf => exact rfl); (case zhd => decide); intro _); (refine' r_mul ?zhe ?zhm ?_; (case zhe => with_reducible first | exact muE | exact muE2 | exact rfl); (case zhm => first | assumption | mul_fits); intro _ _); (with_reducible refine wpAny_BinOp ?_); (refine' r_locS EO R ?zhv ?zhf ?_ ?zhx ?zhd; (case zhx => exact rfl); (case zhv => exact rfl); (case zhf => exact rfl); (case zhd => decide); intro _); (refine' r_locS EO R ?zhv ?zhf ?_ ?zhx ?zhd; (case zhx => exact rfl); (case zhv => exact rfl); (case zhf => exact rfl); (case zhd => decide); intro _); (refine' r_mul ?zhe ?zhm ?_; (case zhe => with_reducible first | exact muE | exact muE2 | exact rfl); (case zhm => first | assumption | mul_fits); intro _ _); (with_reducible refine q_subi ?_); (with_reducible refine wpAny_BinOp ?_); (refine' r_locS EO R ?zhv ?zhf ?_ ?zhx ?zhd; (case zhx => exact rfl); (case zhv => exact rfl); (case zhf => exact rfl); (case zhd => decide); intro _); (refine' r_locS EO R ?zhv ?zhf ?_ ?zhx ?zhd; (case zhx => exact rfl); (case zhv => exact rfl); (case zhf => exact rfl); (case zhd => decide); intro _); (refine' r_mul ?zhe ?zhm ?_; (case zhe => with_reducible first | exact muE | exact muE2 | exact rfl); (case zhm => first | assumption | mul_fits); intro _ _); (with_reducible refine q_addi ?_); (refine' r_locS EO R ?zhv ?zhf ?_ ?zhx ?zhd; (case zhx => exact rfl); (case zhv => exact rfl); (case zhf => exact rfl); (case zhd => decide); intro _); (with_reducible refine P.ne_int ?_); (with_reducible refine wpAny_truthy_bool ?_))
    refine PySem.W.ite_neg (fun q => (bne_iff_ne.mp q) hsq) ?_
    ((with_reducible refine wpAny_execs_nil ?_))
    show wpAny _ _ (execs _ env) _ _ _
    replace R := Rep.loc [("root", V.int root), ("c", V.int c), ("turns", V.lst [.int t0, .int t1]), ("lights", V.lst [.int l0, .int l1, .int l2])] R ⟨rfl, rfl, rfl, rfl, trivial⟩
    (first | show wpAny _ _ _ _ _ (St s h' _) | show wpAny _ _ _ _ _ (St s _ _) | show codeAny _ _ _ _ (St s _ _) | show ite _ (wpAny _ _ _ _ _ (St s _ _)) (wpAny _ _ _ _ _ (St s _ _)))
    refine wpAny_mono (law_loop (n := n) ?e rfl EO AO S hC hC2 R hT hT2 hp hrt hc hl0 hl1 hl2 ht0 ht1 hdue) (fun fl s'' hq => hq) fun _ _ x => x
    case e => with_unfolding_all exact rfl

end Mine

/-! S26 -/
namespace Mine
/-- the k-th share of the script, summed -/
noncomputable def share (ns : List Int) (k : Nat) : List Int := (pickNums ns (some (k : Int)) none (some 4)).map fun x => x.fmod (10 ^ 6)
noncomputable def sumK (ns : List Int) (k : Nat) : Int := (share ns k).sum
theorem law_sums {w : World} {A : Around} {E : Value → Shared → Prop} {s : Shared} {K₀ : Heap} {led : List (Nat × Mo)} {tmp : List (V × Nat)} {n : Nat} {ns : List Int} {env : Env} {L cT cP cS : Nat} {m1 m2 : Mo} {qual : Str} {code : Value} {cl : List (Str × Addr)} {sc : Scope} {st : Stmt}
    (e : lawRow (hd.heap_39 w.params) 0 = some (sc, st)) (hcl : cl = [(("times" : Str), cT), ("p", cP), ("script", cS)])
    (EO : EnvOk env sc L cl qual code) (AO : AOk A (n + 450)) (S : Stat (hd.heap_39 w.params) K₀)
    (R : Rep K₀ ((L, Mo.ns []) :: (cT, m1) :: (cP, m2) :: (cS, Mo.cell (some (.lst (ns.map V.int)))) :: led) tmp s.heap) (hn : ns.length ≤ 1000) :
    wpAny (model PySem.Challenge.rw_uk0010_01.row.prog w) A (exec st env) (fun fl s'' => fl = .next ∧ ∃ h' tk, Rep K₀ ((L, Mo.ns [("sums", V.lst [.int (0 + sumK ns 0), .int (6 + sumK ns 1), .int (6 + sumK ns 2), .int (1 + sumK ns 3)])]) :: (cT, m1) :: (cP, m2) :: (cS, Mo.cell (some (.lst (ns.map V.int)))) :: led) tmp h' ∧
      s'' = (St s h' tk)) E s := by
  subst hcl
  revert S
  k_fill
  intro S
  refine' inner_is ?e0 e ?_
  case e0 => with_unfolding_all exact rfl
  intro q0
  cases q0
  clear e
  dsimp only [List.drop] at EO ⊢
  refine' r_asgCompT EO ?hsw ?hclos rfl ?hnames ?_ ?hs
  case hsw => exact rfl
  case hclos => exact rfl
  case hs => intro _; rfl
  case hnames => decide
  ((refine Call_ ?_); (refine' r_bi EO S R ?ze ?zhv ?_ ?zhn ?zhx ?zhd; (case zhx => exact rfl); (case ze => k_is); (case zhv => boot_fast); (case zhn => decide); (case zhd => decide)); (refine Pv.callWith_type1 ?_); (refine wpAny_items_cons ?_); (with_reducible refine List_ ?_); (refine wpAny_items_cons ?_); (with_reducible refine q_cint ?_); (refine wpAny_items_cons ?_); (with_reducible refine q_cint ?_); (refine wpAny_items_cons ?_); (with_reducible refine q_cint ?_); (refine wpAny_items_cons ?_); (with_reducible refine q_cint ?_); (with_reducible refine wpAny_items_nil ?_); (refine' r_newList R ?zhv ?_ ?zhs; (case zhv => (repeat (first | exact Bears.nil | (apply Bears.cons; (with_reducible first | exact Bear.int | exact Bear.float | exact Bear.str | exact Bear.bool | exact Bear.none | (refine' Bear.tup ?zb3; (case zb3 => (repeat (with_reducible first | exact List.mem_cons_self | refine List.mem_cons_of_mem _ ?_)))) | (refine' Bear.lst ?zb3; (case zb3 => (repeat (with_reducible first | exact List.mem_cons_self | refine List.mem_cons_of_mem _ ?_)))) | exact Bear.raw))))); (case zhs => exact of_decide_eq_true (by rfl)); clear R; intro _ h' R; (try (first | show wpAny _ _ _ _ _ (St s h' _) | show wpAny _ _ _ _ _ (St s _ _) | show codeAny _ _ _ _ (St s _ _) | show ite _ (wpAny _ _ _ _ _ (St s _ _)) (wpAny _ _ _ _ _ (St s _ _))))); (with_reducible refine wpAny_items_nil ?_))
  (first | show wpAny _ _ _ _ _ (St s h' _) | show wpAny _ _ _ _ _ (St s _ _) | show codeAny _ _ _ _ (St s _ _) | show ite _ (wpAny _ _ _ _ _ (St s _ _)) (wpAny _ _ _ _ _ (St s _ _)))
  refine' r_enum R List.mem_cons_self ?_
  clear R; intro e I h' R
  replace R := Rep.dn2 R
  (first | show wpAny _ _ _ _ _ (St s h' _) | show wpAny _ _ _ _ _ (St s _ _) | show codeAny _ _ _ _ (St s _ _) | show ite _ (wpAny _ _ _ _ _ (St s _ _)) (wpAny _ _ _ _ _ (St s _ _)))
  refine' r_compE AO EO R (xs := [0, 6, 6, 1]) (outs := [.int (0 + sumK ns 0), .int (6 + sumK ns 1), .int (6 + sumK ns 2), .int (1 + sumK ns 3)]) ?hm ?g1 ?g2 ?hcell rfl ?hk ?hf ?hne ?turn ?_
  case hm => exact List.mem_cons_self
  case g1 => rfl
  case g2 => exact of_decide_eq_true rfl
  case hcell => decide
  case hk => rfl
  case hf => rfl
  case hne => decide
  case turn =>
    clear R
    intro C D i old x u s E' hi hu EO R
    obtain rfl : u = V.int (x + sumK ns i) := by
      match i, hi, hu with
      | 0, hi, hu => cases hi; cases hu; rfl
      | 1, hi, hu => cases hi; cases hu; rfl
      | 2, hi, hu => cases hi; cases hu; rfl
      | 3, hi, hu => cases hi; cases hu; rfl
    ((with_reducible refine wpAny_BinOp ?_); (refine' r_locS EO R ?zhv ?zhf ?_ ?zhx ?zhd; (case zhx => exact rfl); (case zhv => exact rfl); (case zhf => exact rfl); (case zhd => decide); intro _); (refine Call_ ?_); (refine' r_bi EO S R ?ze ?zhv ?_ ?zhn ?zhx ?zhd; (case zhx => exact rfl); (case ze => k_is); (case zhv => boot_fast); (case zhn => decide); (case zhd => decide)); (refine callWith_method1 ?_); (refine wpAny_items_cons ?_))
    refine' r_listComp EO ?hclos rfl ?hnames ?_ ?hs
    case hclos => exact rfl
    case hs => intro _; rfl
    case hnames => decide
    refine r_sliceK (K₀ := K₀) ?_
    ((refine' r_cell EO R ?zhc ?zhm ?_ ?zhx ?zhd ?zhn; (case zhx => (first | exact Or.inl rfl | exact Or.inr rfl)); (case zhc => first | assumption | exact rfl); (case zhm => (repeat (with_reducible first | assumption | exact List.mem_cons_self | refine List.mem_cons_of_mem _ ?_))); (case zhd => decide); (case zhn => decide); clear R; intro _ R); (refine' r_locS EO R ?zhv ?zhf ?_ ?zhx ?zhd; (case zhx => exact rfl); (case zhv => exact rfl); (case zhf => exact rfl); (case zhd => decide); intro _); (with_reducible refine q_cint ?_))
    refine ⟨_, (i : Int), 4, ns, _, _, _, _, rfl, rfl, rfl, by decide, hn, List.mem_cons_self, R, fun d h' R2 => ?_⟩
    clear R
    have R := R2
    clear R2
    (first | show wpAny _ _ _ _ _ (St s h' _) | show wpAny _ _ _ _ _ (St s _ _) | show codeAny _ _ _ _ (St s _ _) | show ite _ (wpAny _ _ _ _ _ (St s _ _)) (wpAny _ _ _ _ _ (St s _ _)))
    refine' r_compL AO EO R List.mem_cons_self (outs := (share ns i).map V.int) ?g1 ?g2 ?hcell rfl ?hx ?turn ?_
    case g1 => rw [List.length_map, share, List.length_map, List.length_map]
    case g2 => rw [List.length_map]; exact Nat.le_trans (pick_length _ _ _ _) hn
    case hcell => decide
    case hx => rfl
    case turn =>
      clear R
      intro J C2 D2 j v u t s E' hi hu EO R
      obtain ⟨y, rfl, rfl⟩ : ∃ y, v = .int y ∧ u = .int (y.fmod (10 ^ 6)) := by
        rw [List.getElem?_map] at hi
        rw [share, List.getElem?_map, List.getElem?_map] at hu
        cases hq : (pickNums ns (some (i : Int)) none (some 4))[j]? with
        | none => rw [hq] at hi; cases hi
        | some y => rw [hq] at hi hu; cases hi; cases hu; exact ⟨y, rfl, rfl⟩
      have pwE : (10 : Int) ^ Int.toNat 6 = 10 ^ 6 := rfl
      ((with_reducible refine wpAny_BinOp ?_); (refine' r_locS EO R ?zhv ?zhf ?_ ?zhx ?zhd; (case zhx => exact rfl); (case zhv => exact rfl); (case zhf => exact rfl); (case zhd => decide); intro _); (with_reducible refine wpAny_BinOp ?_); (with_reducible refine q_cint ?_); (with_reducible refine q_cint ?_); (refine' r_powE ?zhe ?zh0 ?zhk ?zha ?_; (case zhe => with_reducible first | exact pwE | exact pwE2 | exact pwE3 | exact rfl); (case zh0 => exact om133); (case zhk => exact om134); (case zha => exact om135); intro _ _); (refine' q_modi (b := _) ?zhb ?_; (case zhb => (first | exact om234 | assumption | decide))))
      exact ⟨_, _, _, Bear.int, fun q hq => by (repeat (with_reducible first | assumption | exact List.mem_cons_self | refine List.mem_cons_of_mem _ ?_)), R, rfl⟩
    clear R
    intro C2 D2 l' h' tk R0
    refine compEnd R0 fun h' R => ?_
    clear R0
    (first | show wpAny _ _ _ _ _ (St s h' _) | show wpAny _ _ _ _ _ (St s _ _) | show codeAny _ _ _ _ (St s _ _) | show ite _ (wpAny _ _ _ _ _ (St s _ _)) (wpAny _ _ _ _ _ (St s _ _)))
    ((with_reducible refine wpAny_items_nil ?_))
    (first | show wpAny _ _ _ _ _ (St s h' _) | show wpAny _ _ _ _ _ (St s _ _) | show codeAny _ _ _ _ (St s _ _) | show ite _ (wpAny _ _ _ _ _ (St s _ _)) (wpAny _ _ _ _ _ (St s _ _)))
    show wpAny _ _ (call (.builtin "sum") [.ref _]) _ _ _
    refine' r_sumL AO R List.mem_cons_self ?_
    clear R; intro h' tk tq R
    ((with_reducible refine q_addi ?_))
    exact ⟨_, _, _, Bear.int, fun q hq => by (repeat (with_reducible first | assumption | exact List.mem_cons_self | refine List.mem_cons_of_mem _ ?_)), R, rfl⟩
  clear R
  intro C D l' h' tk R0
  refine compEndA EO R0 ?hy fun h' tk' R => ?_
  case hy => rfl
  exact ⟨rfl, _, _, Rep.tmps tmp R (fun q hq => by (repeat (with_reducible first | assumption | exact List.mem_cons_self | refine List.mem_cons_of_mem _ ?_))), rfl⟩

end Mine

/-! T1 -/
namespace Mine

noncomputable def code1 : Array Nat := #[14, 4, 0, 1, 1, 6, 1, 16, 46, 1]
noncomputable def code2 : Array Nat := #[14, 9, 4, 1, 2, 16, 10, 16, 13, 0, 7, 7, 16, 13, 16, 10, 15, 18, 5, 16, 10, 15, 13, 11, 16, 13, 5, 5, 0, 16, 10, 1, 15, 2, 0, 1]

theorem runFor_add (a b : Nat) (m : Sre.M) : Sre.M.runFor (a + b) m = Sre.M.runFor b (Sre.M.runFor a m) := by
  induction a generalizing m with
  | zero => rw [Nat.zero_add]; rfl
  | succ a ih =>
    rw [Nat.succ_add]
    show (if m.outcome.isSome then m else Sre.M.runFor (a + b) m.step) = Sre.M.runFor b (if m.outcome.isSome then m else Sre.M.runFor a m.step)
    split
    · rename_i h
      cases b with
      | zero => rfl
      | succ b => show m = if m.outcome.isSome then m else _
                  rw [if_pos h]
    · exact ih _
theorem runFor_done (n : Nat) {m : Sre.M} (h : m.outcome.isSome = true) : Sre.M.runFor n m = m := by
  cases n with
  | zero => rfl
  | succ n => show (if m.outcome.isSome then m else _) = m; rw [if_pos h]

/-- the machine of the first pattern, before it looks at s -/
noncomputable def at1 (t : Array Nat) (s : Nat) (first : Bool) (seen : Sre.Seen) : Sre.M :=
  { code := code1, text := t, lim := t.size, start := s, lastStart := t.size, wholeText := false, mustAdvance := false, pc := 5, pos := s, handed := s, outermost := first, marks := #[], lastmark := -1, lastindex := -1,
    loops := #[], inner := none, frames := [{ wait := .nextStart, pc := 5, pos := s, outermost := first }], weight := 1, answer := none, seen, outcome := none }
noncomputable def Bol (t : Array Nat) (s : Nat) : Bool := s == 0 || t.getD (s - 1) 0 == 10

noncomputable def Ends (m : Sre.M) (o : Option (Nat × Nat)) (n : Nat) : Prop := match o with
  | none => (Sre.M.runFor n m).outcome = some .failed
  | some (i, e) => (Sre.M.runFor n m).outcome = some .matched ∧ (Sre.M.runFor n m).start = i ∧ (Sre.M.runFor n m).handed = e
theorem Ends.more {m m' : Sre.M} {o : Option (Nat × Nat)} {a n : Nat} (h : Sre.M.runFor a m = m') (x : Ends m' o n) : Ends m o (a + n) := by
  unfold Ends at *
  rw [runFor_add, h]; exact x

theorem runFor_step {n : Nat} {m : Sre.M} (h : m.outcome = none) : Sre.M.runFor (n + 1) m = Sre.M.runFor n m.step := by
  show (if m.outcome.isSome then m else Sre.M.runFor n m.step) = _
  rw [h]; rfl
theorem at1_AT {t : Array Nat} {s : Nat} {first : Bool} {seen : Sre.Seen} : Sre.M.step (at1 t s first seen) = if Bol t s then { at1 t s first (Sre.Seen.add (Sre.Seen.add seen 6) 44) with pc := 7 } else { at1 t s first (Sre.Seen.add (Sre.Seen.add seen 6) 44) with answer := some false } := by
  rfl
theorem at1_LIT {t : Array Nat} {s : Nat} {first : Bool} {seen : Sre.Seen} : Sre.M.step { at1 t s first seen with pc := 7 } = if t.size ≤ s then { at1 t s first (Sre.Seen.add seen 16) with pc := 7, answer := some false } else
    if t.getD s 0 == 46 then { at1 t s first (Sre.Seen.add seen 16) with pc := 9, pos := s + 1 } else { at1 t s first (Sre.Seen.add seen 16) with pc := 7, answer := some false } := by
  show (if s ≥ t.size then _ else match (Except.ok (t.getD s 0 == 46, Sre.Seen.add seen 16) : Except String (Bool × Sre.Seen)) with
    | .error why => _
    | .ok (false, seen) => _
    | .ok (true, seen) => _) = _
  by_cases h : t.size ≤ s
  · rw [if_pos h, if_pos h]; rfl
  · rw [if_neg h, if_neg h]
    cases t.getD s 0 == 46 <;> rfl
theorem at1_NO {t : Array Nat} {s pc : Nat} {first : Bool} {seen : Sre.Seen} : Sre.M.step { at1 t s first seen with pc := pc, answer := some false } = if s < t.size then at1 t (s + 1) false seen else { at1 t s first seen with frames := [], weight := 0, answer := some false } := by
  show (if s < t.size then _ else _) = _
  by_cases h : s < t.size
  · rw [if_pos h, if_pos h]; rfl
  · rw [if_neg h, if_neg h]; rfl
theorem at1_miss {t : Array Nat} {s : Nat} {first : Bool} {seen : Sre.Seen} (h : (Bol t s && t.getD s 0 == 46) = false) (hs : s < t.size) : ∃ seen' n, n ≤ 3 ∧ Sre.M.runFor n (at1 t s first seen) = at1 t (s + 1) false seen' := by
  cases hb : Bol t s with
  | false =>
    refine ⟨Sre.Seen.add (Sre.Seen.add seen 6) 44, 2, by exact om344, ?_⟩
    rw [runFor_step rfl, at1_AT, hb, if_neg Bool.false_ne_true, runFor_step rfl]
    exact at1_NO.trans (if_pos hs)
  | true =>
    refine ⟨Sre.Seen.add (Sre.Seen.add (Sre.Seen.add seen 6) 44) 16, 3, by exact om345, ?_⟩
    rw [hb, Bool.true_and] at h
    rw [runFor_step rfl, at1_AT, hb, if_pos rfl, runFor_step rfl, at1_LIT, if_neg (by exact om346 hs), h, if_neg Bool.false_ne_true, runFor_step rfl]
    exact at1_NO.trans (if_pos hs)
theorem at1_hit {t : Array Nat} {s : Nat} {first : Bool} {seen : Sre.Seen} (hb : Bol t s = true) (h : (t.getD s 0 == 46) = true) (hs : s < t.size) : Ends (at1 t s first seen) (some (s, s + 1)) 5 := by
  have e1 := at1_AT (t := t) (s := s) (first := first) (seen := seen)
  rw [hb, if_pos rfl] at e1
  have e2 := at1_LIT (t := t) (s := s) (first := first) (seen := Sre.Seen.add (Sre.Seen.add seen 6) 44)
  rw [if_neg (by exact om346 hs), h, if_pos rfl] at e2
  refine Ends.more (a := 1) (n := 4) e1 (Ends.more (a := 1) (n := 3) e2 ?_)
  cases first <;> exact ⟨rfl, rfl, rfl⟩
theorem at1_end {t : Array Nat} {first : Bool} {seen : Sre.Seen} : ∃ n, n ≤ 4 ∧ Ends (at1 t t.size first seen) none n := by
  cases hb : Bol t t.size with
  | false =>
    refine ⟨3, by exact om347, ?_⟩
    have e1 := at1_AT (t := t) (s := t.size) (first := first) (seen := seen)
    rw [hb, if_neg Bool.false_ne_true] at e1
    exact Ends.more (a := 1) (n := 2) e1 (Ends.more (a := 1) (n := 1) (at1_NO.trans (if_neg (Nat.lt_irrefl _))) rfl)
  | true =>
    refine ⟨4, by exact om348, ?_⟩
    have e1 := at1_AT (t := t) (s := t.size) (first := first) (seen := seen)
    rw [hb, if_pos rfl] at e1
    have e2 := at1_LIT (t := t) (s := t.size) (first := first) (seen := Sre.Seen.add (Sre.Seen.add seen 6) 44)
    rw [if_pos (Nat.le_refl _)] at e2
    exact Ends.more (a := 1) (n := 3) e1 (Ends.more (a := 1) (n := 2) e2 (Ends.more (a := 1) (n := 1) (at1_NO.trans (if_neg (Nat.lt_irrefl _))) rfl))

/-- the first dot that opens a line -/
noncomputable def dotAt (t : Array Nat) : Nat → Option (Nat × Nat)
  | 0 => none
  | k + 1 => if Bol t (t.size - (k + 1)) && t.getD (t.size - (k + 1)) 0 == 46 then some (t.size - (k + 1), t.size - (k + 1) + 1) else dotAt t k
theorem at1_all {t : Array Nat} : ∀ (k : Nat) (first : Bool) (seen : Sre.Seen), k ≤ t.size → ∃ n, n ≤ 3 * k + 5 ∧ Ends (at1 t (t.size - k) first seen) (dotAt t k) n
  | 0, first, seen, _ => by
    obtain ⟨n, h1, h2⟩ := at1_end (t := t) (first := first) (seen := seen)
    exact ⟨n, by exact om349 h1, h2⟩
  | k + 1, first, seen, hk => by
    simp only [dotAt]
    by_cases h : (Bol t (t.size - (k + 1)) && t.getD (t.size - (k + 1)) 0 == 46) = true
    · rw [if_pos h]
      rw [Bool.and_eq_true] at h
      exact ⟨5, by exact om350, at1_hit h.1 h.2 (by exact om351 hk)⟩
    · rw [if_neg h]
      obtain ⟨seen', n, h1, h2⟩ := at1_miss (first := first) (seen := seen) (Bool.eq_false_iff.mpr h) (show t.size - (k + 1) < t.size by exact om351 hk)
      have e : t.size - (k + 1) + 1 = t.size - k := by exact om352 hk
      rw [e] at h2
      obtain ⟨n', h3, h4⟩ := at1_all (t := t) k false seen' (by exact om353 hk)
      exact ⟨n + n', by exact om354 h1 h3, Ends.more h2 h4⟩
theorem search1 {t : Array Nat} {s : Nat} (hs : s ≤ t.size) : ∃ n, n ≤ 3 * t.size + 6 ∧ Ends (Sre.forSearch code1 t 0 s t.size false) (dotAt t (t.size - s)) n := by
  by_cases h : s = t.size
  · refine ⟨1, by exact om355 h, ?_⟩
    have e : Sre.forSearch code1 t 0 s t.size false = Sre.M.say { code := code1, text := t, lim := t.size, start := s, pc := 5, pos := s, handed := s, marks := #[], mustAdvance := false, seen := ({} : Sre.Seen).add 14 } false := by
      show (if (decide (s > t.size) || decide (t.size - s < 1)) = true then _ else _) = _
      rw [if_pos (by simp; exact om356 h)]; rfl
    rw [e, h, Nat.sub_self]
    rfl
  · have e : Sre.forSearch code1 t 0 s t.size false = at1 t s true (({} : Sre.Seen).add 14) := by
      show (if (decide (s > t.size) || decide (t.size - s < 1)) = true then _ else _) = _
      rw [if_neg (by simp; exact om357 hs h)]; rfl
    rw [e]
    obtain ⟨n, h1, h2⟩ := at1_all (t := t) (t.size - s) true (({} : Sre.Seen).add 14) (by exact om358 hs)
    rw [show t.size - (t.size - s) = s by exact om359 hs] at h2
    exact ⟨n, by exact om360 hs h1, h2⟩
end Mine

/-! T2 -/
namespace Mine

theorem Ends.step {m : Sre.M} {o : Option (Nat × Nat)} {n : Nat} (h : m.outcome = none) (x : Ends m.step o n) : Ends m o (n + 1) := by
  unfold Ends at *
  rw [runFor_step h]; exact x
theorem lit_exec (m : Sre.M) (h4 : m.code.getD (m.pc + 0) 0 = 16) : m.exec = if m.lim ≤ m.pos then { m with seen := m.seen.add 16, answer := some false } else
    if m.text.getD m.pos 0 == m.code.getD (m.pc + 1) 0 then { m with seen := m.seen.add 16, pc := m.pc + 2, pos := m.pos + 1 } else { m with seen := m.seen.add 16, answer := some false } := by
  have h5 : m.code.getD m.pc 0 = 16 := h4
  unfold Sre.M.exec Sre.M.word
  rw [h4]
  show (if m.lim ≤ m.pos then _ else match Sre.accepts m.code m.pc (m.text.getD m.pos 0) (m.seen.add 16) with
    | .error why => _
    | .ok (false, seen) => _
    | .ok (true, seen) => _) = _
  have ha : Sre.accepts m.code m.pc (m.text.getD m.pos 0) (m.seen.add 16) = .ok (m.text.getD m.pos 0 == m.code.getD (m.pc + 1) 0, m.seen.add 16) := by
    unfold Sre.accepts; rw [h5]; rfl
  rw [ha]
  have hw : Sre.itemWidth m.code m.pc = 2 := by unfold Sre.itemWidth; rw [h5]; rfl
  split
  · rfl
  · cases m.text.getD m.pos 0 == m.code.getD (m.pc + 1) 0
    · rfl
    · show Sre.M.mk .. = _
      simp only [hw]
      rfl
theorem step_exec (m : Sre.M) (h1 : m.outcome = none) (h2 : m.answer = none) (h3 : m.pc < m.code.size) : m.step = m.exec := by
  unfold Sre.M.step
  rw [h1, h2]
  show (if m.pc < m.code.size then m.exec else _) = _
  rw [if_pos h3]
theorem Ends.hit {m : Sre.M} {o : Option (Nat × Nat)} {n : Nat} (h1 : m.outcome = none) (h2 : m.answer = none) (h3 : m.pc < m.code.size) (h4 : m.code.getD (m.pc + 0) 0 = 16) (hp : m.pos < m.lim) (hc : m.text.getD m.pos 0 = m.code.getD (m.pc + 1) 0)
    (x : Ends { m with seen := m.seen.add 16, pc := m.pc + 2, pos := m.pos + 1 } o n) : Ends m o (n + 1) := by
  refine Ends.step h1 ?_
  rw [step_exec m h1 h2 h3, lit_exec m h4, if_neg (Nat.not_le.mpr hp), hc, if_pos (beq_self_eq_true _)]
  exact x
theorem Ends.miss {m : Sre.M} {o : Option (Nat × Nat)} {n : Nat} (h1 : m.outcome = none) (h2 : m.answer = none) (h3 : m.pc < m.code.size) (h4 : m.code.getD (m.pc + 0) 0 = 16) (hc : m.pos < m.lim → m.text.getD m.pos 0 ≠ m.code.getD (m.pc + 1) 0)
    (x : Ends { m with seen := m.seen.add 16, answer := some false } o n) : Ends m o (n + 1) := by
  refine Ends.step h1 ?_
  rw [step_exec m h1 h2 h3, lit_exec m h4]
  by_cases hp : m.lim ≤ m.pos
  · rw [if_pos hp]; exact x
  · rw [if_neg hp, if_neg (by simpa using hc (Nat.not_le.mp hp))]
    exact x

/-- the machine of the second pattern -/
noncomputable def st2 (t : Array Nat) (s : Nat) (first : Bool) (pc pos handed : Nat) (out : Bool) (fr : List Sre.Frame) (wt : Nat) (ans : Option Bool) (seen : Sre.Seen) : Sre.M :=
  { code := code2, text := t, lim := t.size, start := s, lastStart := t.size, wholeText := false, mustAdvance := false, pc := pc, pos := pos, handed := handed, outermost := out, marks := #[], lastmark := -1, lastindex := -1,
    loops := #[], inner := none, frames := fr, weight := wt, answer := ans, seen, outcome := none }
noncomputable abbrev fr0 (s : Nat) (first : Bool) : List Sre.Frame := [{ wait := .nextStart, pc := 10, pos := s, outermost := first }]
noncomputable abbrev frB (pc s : Nat) (first : Bool) : Sre.Frame := { wait := .nextBranch, pc := pc, pos := s, outermost := first }
/-- at a place that its set admits -/
noncomputable def at2 (t : Array Nat) (s : Nat) (first : Bool) (seen : Sre.Seen) : Sre.M := st2 t s first 10 s s first (fr0 s first) 1 none seen
theorem Ends.stepE {m m' : Sre.M} {o : Option (Nat × Nat)} {n : Nat} (h : m.outcome = none) (e : m.step = m') (x : Ends m' o n) : Ends m o (n + 1) := Ends.step h (by rw [e]; exact x)
section
variable {t : Array Nat} {s pc pos handed wt n : Nat} {first out : Bool} {fr : List Sre.Frame} {seen : Sre.Seen} {o : Option (Nat × Nat)}
theorem st2_hit (h3 : pc < code2.size) (h4 : code2.getD (pc + 0) 0 = 16) (hp : pos < t.size) (hc : t.getD pos 0 = code2.getD (pc + 1) 0) (x : Ends (st2 t s first (pc + 2) (pos + 1) handed out fr wt none (seen.add 16)) o n) :
    Ends (st2 t s first pc pos handed out fr wt none seen) o (n + 1) := Ends.hit (m := st2 t s first pc pos handed out fr wt none seen) rfl rfl h3 h4 hp hc x
theorem st2_miss (h3 : pc < code2.size) (h4 : code2.getD (pc + 0) 0 = 16) (hc : pos < t.size → t.getD pos 0 ≠ code2.getD (pc + 1) 0) (x : Ends (st2 t s first pc pos handed out fr wt (some false) (seen.add 16)) o n) :
    Ends (st2 t s first pc pos handed out fr wt none seen) o (n + 1) := Ends.miss (m := st2 t s first pc pos handed out fr wt none seen) rfl rfl h3 h4 hc x
theorem st2_branch (x : Ends (st2 t s first 12 s s first (frB 11 s first :: fr0 s first) 2 none (seen.add 7)) o n) : Ends (st2 t s first 10 s s first (fr0 s first) 1 none seen) o (n + 1) :=
  Ends.stepE rfl rfl x
theorem st2_next1 {pc pos : Nat} (x : Ends (st2 t s first 19 s s first (frB 18 s first :: fr0 s first) 2 none seen) o n) : Ends (st2 t s first pc pos handed out (frB 11 s first :: fr0 s first) 2 (some false) seen) o (n + 1) :=
  Ends.stepE rfl rfl x
theorem st2_next2 {pc pos : Nat} (x : Ends (st2 t s first 24 s s first (frB 23 s first :: fr0 s first) 2 none seen) o n) : Ends (st2 t s first pc pos handed out (frB 18 s first :: fr0 s first) 2 (some false) seen) o (n + 1) :=
  Ends.stepE rfl rfl x
/-- a jump to the end, and the end -/
theorem st2_won {b pc : Nat} (hpc : pc = 16 ∨ pc = 21 ∨ pc = 32) : Ends (st2 t s first pc pos handed first (frB b s first :: fr0 s first) 2 none seen) (some (s, pos)) 5 := by
  rcases hpc with rfl | rfl | rfl
  all_goals
    refine Ends.stepE (m' := st2 t s first 35 pos handed first (frB b s first :: fr0 s first) 2 none (seen.add 15)) rfl rfl ?_
    refine Ends.stepE (m' := st2 t s first 35 pos pos first (frB b s first :: fr0 s first) 2 (some true) ((seen.add 15).add 1)) rfl (by cases first <;> rfl) ?_
    refine Ends.stepE (m' := st2 t s first b s pos first (fr0 s first) 1 (some true) ((seen.add 15).add 1)) rfl rfl ?_
    refine Ends.stepE (m' := st2 t s first 10 s pos first [] 0 (some true) ((seen.add 15).add 1)) rfl rfl ?_
    exact ⟨rfl, rfl, rfl⟩
theorem at2_10 (hs : s < t.size) (hc : t.getD s 0 = 10) : Ends (at2 t s first seen) (some (s, s + 1)) 9 := by
  refine st2_branch (st2_miss (of_decide_eq_true rfl) rfl (fun _ => ?_) (st2_next1 (st2_hit (of_decide_eq_true rfl) rfl hs hc (st2_won (.inr (.inl rfl))))))
  rw [hc]; decide
theorem at2_crlf (hs : s < t.size) (hc : t.getD s 0 = 13) (hs2 : s + 1 < t.size) (hc2 : t.getD (s + 1) 0 = 10) : Ends (at2 t s first seen) (some (s, s + 2)) 8 :=
  st2_branch (st2_hit (of_decide_eq_true rfl) rfl hs hc (st2_hit (of_decide_eq_true rfl) rfl hs2 hc2 (st2_won (.inl rfl))))
theorem st2_assert (x : Ends (st2 t s first 29 (s + 1) (s + 1) false ({ wait := .lookNot, pc := 26, pos := s + 1, outermost := first } :: frB 23 s first :: fr0 s first) 3 none (seen.add 5)) o n) :
    Ends (st2 t s first 26 (s + 1) s first (frB 23 s first :: fr0 s first) 2 none seen) o (n + 1) := by
  refine Ends.stepE rfl ?_ x
  rw [step_exec _ rfl rfl (of_decide_eq_true rfl)]
  rfl
theorem st2_not {pc pos : Nat} (x : Ends (st2 t s first 32 (s + 1) (s + 1) first (frB 23 s first :: fr0 s first) 2 none seen) o n) :
    Ends (st2 t s first pc pos (s + 1) false ({ wait := .lookNot, pc := 26, pos := s + 1, outermost := first } :: frB 23 s first :: fr0 s first) 3 (some false) seen) o (n + 1) :=
  Ends.stepE rfl rfl x
theorem at2_cr (hs : s < t.size) (hc : t.getD s 0 = 13) (hc2 : s + 1 < t.size → t.getD (s + 1) 0 ≠ 10) : Ends (at2 t s first seen) (some (s, s + 1)) 15 := by
  refine st2_branch (st2_hit (of_decide_eq_true rfl) rfl hs hc (st2_miss (of_decide_eq_true rfl) rfl hc2 (st2_next1 (st2_miss (of_decide_eq_true rfl) rfl (fun _ => ?_) (st2_next2 (st2_hit (of_decide_eq_true rfl) rfl hs hc (st2_assert (st2_miss (of_decide_eq_true rfl) rfl hc2 (st2_not (st2_won (.inr (.inr rfl)))))))))))) 
  rw [hc]; decide
end
end Mine

/-! T3 -/
namespace Mine
theorem inSet2 (c : Nat) (seen : Sre.Seen) : ∃ seen', Sre.inSet code2 c code2.size 5 true seen = .ok ((c == 10 || c == 13), seen') := by
  show ∃ seen', (if (c == 10) = true then Except.ok (true, seen.add 16) else if (c == 13) = true then Except.ok (true, (seen.add 16).add 16) else Except.ok (false, ((seen.add 16).add 16).add 0)) = _
  cases h1 : c == 10
  · cases h2 : c == 13
    · exact ⟨_, rfl⟩
    · exact ⟨_, rfl⟩
  · exact ⟨_, rfl⟩
noncomputable def admAt (t : Array Nat) : Nat → Option Nat
  | 0 => none
  | k + 1 => if t.getD (t.size - (k + 1)) 0 == 10 || t.getD (t.size - (k + 1)) 0 == 13 then some (t.size - (k + 1)) else admAt t k
theorem adm2 {t : Array Nat} {m : Sre.M} (h1 : m.code = code2) (h2 : m.text = t) (h3 : m.lim = t.size) : ∀ (k fuel : Nat) (seen : Sre.Seen), k ≤ t.size → k + 1 ≤ fuel → ∃ seen', Sre.M.admitted m fuel (t.size - k) seen = .ok (admAt t k, seen')
  | 0, fuel + 1, seen, _, _ => by
    refine ⟨seen, ?_⟩
    unfold Sre.M.admitted
    rw [h3, if_pos (by exact om361 h3)]; rfl
  | k + 1, fuel + 1, seen, hk, hf => by
    obtain ⟨seen', e⟩ := inSet2 (t.getD (t.size - (k + 1)) 0) seen
    unfold Sre.M.admitted
    rw [h3, if_neg (by exact om362 hk), h1, h2, e]
    simp only [admAt]
    cases hc : (t.getD (t.size - (k + 1)) 0 == 10 || t.getD (t.size - (k + 1)) 0 == 13)
    · obtain ⟨seen2, e2⟩ := adm2 h1 h2 h3 k fuel seen' (by exact om353 hk) (by exact om363 hf)
      refine ⟨seen2, ?_⟩
      show Sre.M.admitted m fuel (t.size - (k + 1) + 1) seen' = _
      rw [show t.size - (k + 1) + 1 = t.size - k by exact om352 hk, e2]; rfl
    · exact ⟨seen', rfl⟩
theorem admAt_is {t : Array Nat} : ∀ {k i : Nat}, k ≤ t.size → admAt t k = some i → t.size - k ≤ i ∧ i < t.size ∧ (t.getD i 0 = 10 ∨ t.getD i 0 = 13)
  | k + 1, i, hk, h => by
    simp only [admAt] at h
    split at h
    · rename_i hc
      cases h
      simp only [Bool.or_eq_true, beq_iff_eq] at hc
      exact ⟨Nat.le_refl _, by exact om351 hk, hc⟩
    · obtain ⟨a, b, c⟩ := admAt_is (by exact om353 hk) h
      exact ⟨by exact om364 hk a c, b, c⟩
/-- where the line end at i is over -/
noncomputable def endOf (t : Array Nat) (i : Nat) : Nat := if t.getD i 0 = 13 ∧ i + 1 < t.size ∧ t.getD (i + 1) 0 = 10 then i + 2 else i + 1
noncomputable def endAt (t : Array Nat) (k : Nat) : Option (Nat × Nat) := (admAt t k).map fun i => (i, endOf t i)
theorem search2 {t : Array Nat} {s : Nat} (hs : s ≤ t.size) : ∃ n, n ≤ 16 ∧ Ends (Sre.forSearch code2 t 0 s t.size false) (endAt t (t.size - s)) n := by
  by_cases h : s = t.size
  · refine ⟨1, by exact om365, ?_⟩
    have e : Sre.forSearch code2 t 0 s t.size false = Sre.M.say { code := code2, text := t, lim := t.size, start := s, pc := 10, pos := s, handed := s, marks := #[], mustAdvance := false, seen := ({} : Sre.Seen).add 14 } false := by
      show (if (decide (s > t.size) || decide (t.size - s < 1)) = true then _ else _) = _
      rw [if_pos (by simp; exact om356 h)]; rfl
    rw [e, h, Nat.sub_self]
    rfl
  · obtain ⟨m0, hm0⟩ : ∃ m0 : Sre.M, m0 = { code := code2, text := t, lim := t.size, start := s, lastStart := t.size, pc := 10, pos := s, handed := s, marks := #[], mustAdvance := false, seen := ({} : Sre.Seen).add 14 } := ⟨_, rfl⟩
    have e : Sre.forSearch code2 t 0 s t.size false = Sre.M.attemptFrom m0 s true := by
      show (if (decide (s > t.size) || decide (t.size - s < 1)) = true then _ else _) = _
      rw [if_neg (by simp; exact om357 hs h), hm0]; rfl
    obtain ⟨seen', e2⟩ := adm2 (t := t) (m := m0) (by rw [hm0]) (by rw [hm0]) (by rw [hm0]) (t.size - s) (t.size + 1 - s) m0.seen (by exact om358 hs) (by exact om366 hs)
    rw [show t.size - (t.size - s) = s by exact om359 hs] at e2
    have e3 : Sre.M.attemptFrom m0 s true = match admAt t (t.size - s) with
      | some i => at2 t i true seen'
      | none => Sre.M.say { m0 with seen := seen' } false := by
      have hf : m0.hasFirstSet = true := by rw [hm0]; rfl
      unfold Sre.M.attemptFrom
      rw [hf, show m0.lim = t.size by rw [hm0], e2]
      cases admAt t (t.size - s)
      · rfl
      · rw [hm0]; rfl
    rw [e, e3]
    unfold endAt
    cases ha : admAt t (t.size - s) with
    | none =>
      refine ⟨1, by exact om365, ?_⟩
      rw [hm0]; rfl
    | some i =>
      obtain ⟨_, h2, h3⟩ := admAt_is (by exact om358 hs) ha
      show ∃ n, n ≤ 16 ∧ Ends (at2 t i true seen') (some (i, endOf t i)) n
      unfold endOf
      by_cases hc : t.getD i 0 = 13 ∧ i + 1 < t.size ∧ t.getD (i + 1) 0 = 10
      · rw [if_pos hc]
        exact ⟨8, by exact om367, at2_crlf h2 hc.1 hc.2.1 hc.2.2⟩
      · rw [if_neg hc]
        rcases h3 with h3 | h3
        · exact ⟨9, by exact om368, at2_10 h2 h3⟩
        · exact ⟨15, by exact om369, at2_cr h2 h3 fun q1 q2 => hc ⟨h3, q1, q2⟩⟩

/-- what a machine that is done says -/
noncomputable def Told (m : Sre.M) (o : Option (Nat × Nat)) : Prop := Ends m o 0
section
variable {M : Model} {A : Around} {E : Value → Shared → Prop} {s : Shared}
theorem r_drive {o : Option (Nat × Nat)} {Q : Sre.M → Shared → Prop} (h : ∀ m', Told m' o → Q m' s) : ∀ (turns n : Nat) (m : Sre.M), Ends m o n → n ≤ 4 * turns → 0 < turns → wpAny M A (Builtin.Re.reDrive turns m) Q E s := by
  intro turns
  induction turns with
  | zero => intro n m x hn h0; omega
  | succ turns ih =>
    intro n m x hn _
    have hsome : (Sre.M.runFor n m).outcome.isSome = true := by
      cases o with
      | none => rw [show (Sre.M.runFor n m).outcome = _ from x]; rfl
      | some p => rw [x.1]; rfl
    show wpAny M A (if (Sre.M.runFor 4 m).outcome.isSome then pure (Sre.M.runFor 4 m) else do rule "sre.turn"; Builtin.Re.reDrive turns (Sre.M.runFor 4 m)) Q E s
    by_cases hd : (Sre.M.runFor 4 m).outcome.isSome = true
    · rw [if_pos hd]
      refine wpAny_pure (h _ ?_)
      have e : Sre.M.runFor 4 m = Sre.M.runFor n m := by
        by_cases hle : n ≤ 4
        · rw [show 4 = n + (4 - n) by exact om370 hle, runFor_add, runFor_done _ hsome]
        · rw [show n = 4 + (n - 4) by exact om371 hle, runFor_add, runFor_done _ hd]
      unfold Told Ends
      rw [runFor_done _ hd, e]
      exact x
    · rw [if_neg hd]
      have hlt : 4 < n := by
        rcases Nat.lt_or_ge 4 n with q | q
        · exact q
        · exfalso; apply hd
          rw [show 4 = n + (4 - n) by exact om372 q, runFor_add, runFor_done _ hsome]; exact hsome
      have x' : Ends (Sre.M.runFor 4 m) o (n - 4) := by
        unfold Ends at x ⊢
        rw [← runFor_add, show 4 + (n - 4) = n by exact om373 hlt]; exact x
      refine wpAny_bind (wpAny_rule ?_)
      exact ih (n - 4) _ x' (by exact om374 hn hlt) (by exact om375 hn hlt)
theorem r_forRule (f : Nat → Bool) (g : Nat → String) : ∀ (l : List Nat) {Q : PUnit → Shared → Prop}, Q ⟨⟩ s → wpAny M A (forIn l PUnit.unit fun i _ => if f i = true then do rule (g i); pure (ForInStep.yield PUnit.unit) else pure (ForInStep.yield PUnit.unit)) Q E s
  | [], _, h => wpAny_pure h
  | i :: l, _, h => by
    rw [List.forIn_cons]
    refine wpAny_bind ?_
    by_cases hf : f i = true
    · rw [if_pos hf]
      exact wpAny_bind (wpAny_rule (wpAny_pure (r_forRule f g l h)))
    · rw [if_neg hf]
      exact wpAny_pure (r_forRule f g l h)
theorem r_runToEnd {o : Option (Nat × Nat)} {n : Nat} {m : Sre.M} {Q : Option Sre.M → Shared → Prop} (x : Ends m o n) (hn : n ≤ 4 * 2 ^ 64)
    (h0 : o = none → Q none s) (h1 : ∀ m' i e, o = some (i, e) → m'.start = i → m'.handed = e → Q (some m') s) : wpAny M A (Builtin.Re.reRunToEnd m) Q E s := by
  unfold Builtin.Re.reRunToEnd
  refine wpAny_bind (r_drive (o := o) (fun m' hm => ?_) (2 ^ 64) n m x hn (Nat.two_pow_pos _))
  refine wpAny_bind (r_forRule (fun i => m'.seen.has i) (fun i => Sre.names.getD i "") _ ?_)
  cases o with
  | none =>
    have e : m'.outcome = some .failed := hm
    rw [e]
    exact wpAny_pure (h0 rfl)
  | some p =>
    obtain ⟨i, j⟩ := p
    have e : m'.outcome = some .matched ∧ m'.start = i ∧ m'.handed = j := hm
    rw [e.1]
    exact wpAny_pure (h1 m' i j rfl e.2.1 e.2.2)
end
end Mine

/-! F1 -/
namespace Mine
theorem slot_sub : Slot "re.Pattern" "sub" "re.Pattern.sub" :=
  .of (owner := "re.Pattern") (n := "sub") (by rw [typeLookup_type, builtinLookup_eq_fast]; kernel_rfl) (by decide +kernel) (by decide +kernel) (by decide +kernel)
    (by first | exact .inl (by decide +kernel) | exact .inr (by decide +kernel)) (by rw [isSubtype_type]; kernel_rfl)
theorem type_sub : typeOf (.builtin "re.Pattern.sub") = pure (.type "method_descriptor") := by show builtinType _ = _; rw [builtinType_eq_fast]; kernel_rfl
theorem entry_sub : entryFor table "re.Pattern.sub" = some Builtin.«re.Pattern.sub» := entryFor_of_tree (by kernel_rfl)
theorem entry_loop : entryFor table "re.Pattern.sub.loop" = some Builtin.«re.Pattern.sub.loop» := entryFor_of_tree (by kernel_rfl)
theorem plain_loop : plainId "re.Pattern.sub.loop" = true := by decide +kernel
theorem plainAttrs_pat : PlainAttrs "re.Pattern" :=
  ⟨⟨"object.__getattribute__", by rw [typeLookup_type, builtinLookup_eq_fast]; kernel_rfl, by decide +kernel⟩, by rw [typeLookup_type, builtinLookup_eq_fast]; kernel_rfl⟩
end Mine

/-! T4 -/
namespace Mine
section
variable {prog : Program} {w : World} {A : Around} {E : Value → Shared → Prop} {s : Shared} {K₀ : Heap} {led : List (Nat × Mo)} {tmp : List (V × Nat)}
theorem r_push {a : Nat} {vs : List V} {v : V} {y : Value} {Q : Unit → Shared → Prop} (R : Rep K₀ ((a, .pl vs) :: led) tmp s.heap) (hl : vs.length ≤ 2 ^ 20) (hv : Bear tmp v y)
    (h : ∀ h', Rep K₀ ((a, .pl (vs ++ [v])) :: led) tmp h' → Q () (St s h' s.toks)) : wpAny (model prog w) A (updateSeq a (·.push y)) Q E s := by
  have R0 := R
  obtain ⟨B, RB⟩ := R
  obtain ⟨items, k, e, rl⟩ := RB.led.1.2.2.1
  have el := rl.length
  rw [Array.length_toList] at el
  have hs : items.size ≤ sizeLine := by rw [el]; exact Nat.le_trans hl (by decide)
  refine wpAny_updateSeq e rfl (h _ (R0.upd (fun b o hb e => (Heap.SameBut.update ..).extBut b o hb e) fun B' RB' => ?_)) hs (by rw [Array.size_push]; exact om376 hs)
  obtain ⟨items', k2, e2, rl'⟩ := RB'.led.1.2.2.1
  have q : items' = items := by
    rw [e] at e2
    simp only [Option.some.injEq, Obj.mk.injEq, Data.seq.injEq, true_and, and_true] at e2
    exact e2.1.symm
  subst q
  obtain ⟨t, rfl, r⟩ := hv B' RB'.tmp
  refine ⟨items'.push (v.conc t), k + 1, ?_, ?_⟩
  · have key := PySem.IsL.update e (fun xs => xs.push (v.conc t))
    unfold IsL at key
    rw [if_neg (by simp)] at key
    exact key
  · rw [Array.toList_push]
    exact rl'.append (RepL.cons r (RepL.nil _))
theorem RepL.strs {B : Bs} : ∀ {ps : List Str} {l : List Value}, RepL B (ps.map V.str) l → ∃ q : List (Str × Tok), l = strValues q ∧ q.map (·.1) = ps
  | [], l, h => by simp only [List.map_nil, RepL] at h; exact ⟨[], h, rfl⟩
  | p :: ps, l, h => by
    simp only [List.map_cons, RepL] at h
    obtain ⟨t, r, rfl, _, b⟩ := h
    obtain ⟨q, rfl, e⟩ := RepL.strs b
    exact ⟨(p, t) :: q, rfl, by rw [List.map_cons, e]⟩
theorem r_join {sep : Str} {t : Tok} {a : Nat} {ps : List Str} {Q : Value → Shared → Prop} (R : Rep K₀ led tmp s.heap) (hm : LAt K₀ led tmp a (ps.map V.str))
    (hl : ps.toArray.foldl (· + ·.length + sep.length) 0 ≤ sizeLine) (hz : (Builtin.Str.glued sep ps).length ≤ sizeLine)
    (h : ∀ tk t, Q (.str (Builtin.Str.glued sep ps) t) (St s s.heap tk)) : wpAny (model prog w) A (call (.builtin "str.join") [.str sep t, .ref a]) Q E s := by
  obtain ⟨B, RB⟩ := R
  obtain ⟨items, hT, rl⟩ := hm B _ RB
  obtain ⟨q, hq, e⟩ := rl.strs
  have hi : items = (strValues q).toArray := by rw [← hq, Array.toArray_toList]
  subst hi
  refine call_meets F.slot_str_join (typeIs_str _ _ _) F.entry_str_join (F.args_str_join_2 _ _) (meets_str_join_list sep t a q (by rw [e]; unfold Builtin.Str.tooLong; exact decide_eq_false (Nat.not_lt.mpr hl))) ⟨hT, ?_⟩
  subst e
  match q with
  | [] => exact ⟨hz, h _ _⟩
  | [p] => exact h _ _
  | p :: r :: q => exact ⟨hz, h _ _⟩
end
end Mine

/-! T5 -/
namespace Mine
/-- a pattern with this code lies at P -/
noncomputable def PatAt (h : Heap) (P : Nat) (code : Array Nat) : Prop := ∃ o f0 f1 f3 f4 C oc items k, h.get? P = some o ∧ o.cls = .type "re.Pattern" ∧ o.dict = none ∧ o.data = .fields #[f0, f1, .int 0 0, f3, f4, .ref C, .int 0 0] ∧
  h.get? C = some oc ∧ oc.data = .seq items k ∧ (items.map Builtin.Re.reRawOf).map (·.toNat) = code
theorem PatAt.keeps {h h' : Heap} {P : Nat} {code : Array Nat} (k : ∀ b o, h.get? b = some o → h'.get? b = some o) : PatAt h P code → PatAt h' P code := by
  intro hp
  obtain ⟨o, f0, f1, f3, f4, C, oc, items, n, a, b, c, d, e, f, g⟩ := hp
  exact ⟨o, f0, f1, f3, f4, C, oc, items, n, k _ _ a, b, c, d, k _ _ e, f, g⟩
noncomputable abbrev subTarget (P : Nat) (x : Str) (t : Tok) (code : Array Nat) : Builtin.Re.ReTarget := { pattern := .ref P, string := .str x t, code, text := x.cps, kind := 0, groups := 0, pos := 0, lim := x.cps.size }
section
variable {M : Model} {A : Around} {E : Value → Shared → Prop} {s : Shared}
theorem r_target {P : Nat} {code : Array Nat} {x : Str} {t : Tok} {Q : Builtin.Re.ReTarget → Shared → Prop} (hp : PatAt s.heap P code) (h : Q (subTarget P x t code) s) :
    wpAny M A (Builtin.Re.reWholeTarget (.ref P) (.str x t)) Q E s := by
  obtain ⟨o, f0, f1, f3, f4, C, oc, items, k, a, b, c, d, e, f, g⟩ := hp
  unfold Builtin.Re.reWholeTarget
  refine wpAny_bind (wpAny_fieldsOf a d ?_)
  show wpAny M A (do
    let code ← Builtin.Re.reRawItems (.ref C)
    pure (subTarget P x t (code.map (·.toNat)))) Q E s
  refine wpAny_bind ?_
  unfold Builtin.Re.reRawItems
  refine wpAny_bind (wpAny_seqItems e f (wpAny_pure ?_))
  show wpAny M A (pure (subTarget P x t ((items.map Builtin.Re.reRawOf).map (·.toNat)))) Q E s
  rw [g]
  exact wpAny_pure h
end

/-- how a pattern is sought -/
structure Srch (code : Array Nat) (F : Array Nat → Nat → Option (Nat × Nat)) : Prop where
  runs : ∀ t s, s ≤ t.size → t.size ≤ 2 ^ 20 → ∃ n, n ≤ 4 * 2 ^ 64 ∧ Ends (Sre.forSearch code t 0 s t.size false) (F t s) n
  sane : ∀ t s i e, s ≤ t.size → F t s = some (i, e) → s ≤ i ∧ i < e ∧ e ≤ t.size
/-- what is said from s on -/
noncomputable def subG (F : Array Nat → Nat → Option (Nat × Nat)) (rep : List Nat) (t : Array Nat) : Nat → Nat → List Nat
  | 0, s => t.toList.drop s
  | f + 1, s => match F t s with
    | none => t.toList.drop s
    | some (i, e) => (t.extract s i).toList ++ rep ++ subG F rep t f e
noncomputable def catL (ps : List Str) : List Nat := ps.flatMap (·.cps.toList)
theorem catL_snoc (ps : List Str) (p : Str) : catL (ps ++ [p]) = catL ps ++ p.cps.toList := by simp [catL]
theorem glued_cat : ∀ ps : List Str, Builtin.Str.glued ⟨#[]⟩ ps = ⟨(catL ps).toArray⟩
  | [] => rfl
  | p :: ps => by
    unfold Builtin.Str.glued
    have key : ∀ (l : List Str) (a : Array Nat), l.foldl (fun acc q => acc ++ (#[] : Array Nat) ++ q.cps) a = a ++ (catL l).toArray := by
      intro l
      induction l with
      | nil => intro a; simp [catL]
      | cons q l ih =>
        intro a
        rw [List.foldl_cons, ih]
        apply Array.toList_inj.mp
        simp [catL]
    show (⟨ps.foldl (fun acc q => acc ++ (#[] : Array Nat) ++ q.cps) p.cps⟩ : Str) = _
    rw [key]
    congr 1
    apply Array.toList_inj.mp
    simp [catL]
theorem glued_sum (ps : List Str) : ps.toArray.foldl (· + ·.length + (⟨#[]⟩ : Str).length) 0 = (catL ps).length := by
  rw [List.foldl_toArray]
  have key : ∀ (l : List Str) (n : Nat), l.foldl (fun k q => k + q.length + 0) n = n + (catL l).length := by
    intro l
    induction l with
    | nil => intro n; simp [catL]
    | cons q l ih =>
      intro n
      rw [List.foldl_cons, ih]
      simp only [catL, List.flatMap_cons, List.length_append, Array.length_toList]
      show n + q.cps.size + 0 + _ = _
      exact om377
  have := key ps 0
  rw [Nat.zero_add] at this
  exact this
section
variable {prog : Program} {w : World} {A : Around} {s : Shared} {K₀ : Heap} {led : List (Nat × Mo)} {tmp : List (V × Nat)} {R' : Result → Shared → Prop}
theorem sub_loop {P a : Nat} {code : Array Nat} {F : Array Nat → Nat → Option (Nat × Nat)} {x rep : Str} {tx tr : Tok} (hS : Srch code F) (hP : PatAt K₀ P code) (hx : x.cps.size ≤ 1000) (hrep : rep.cps.size ≤ 10) :
    ∀ (f : Nat) (st : Nat) (s : Shared) (ps : List Str) (n : Int), st ≤ x.cps.size → x.cps.size - st < f → (catL ps).length ≤ 20 * st → ps.length ≤ 2 * st → Rep K₀ ((a, .pl (ps.map V.str)) :: led) tmp s.heap →
    (∀ h' tk t, Rep K₀ led tmp h' → R' (.ok (.ret (.str ⟨(catL ps ++ subG F rep.cps.toList x.cps f st).toArray⟩ t))) (St s h' tk)) →
    wpAny (model prog w) A.in1 (Builtin.«re.Pattern.sub.loop» ⟨[.ref P, .str x tx, .str rep tr, rawInt 0, rawInt 0, rawInt n, rawInt st, rawInt st, .bool false, .ref a, .bool false], []⟩)
      (fun fin s' => match fin with | .done f => R' (.ok f) s' | .again c' => c'.quiet = true ∧ codeAny (model prog w) A c' R' s') (fun e s' => R' (.error e) s') s := by
  intro f
  induction f with
  | zero => intro st s ps n hst hf; omega
  | succ f ih =>
    intro st s ps n hst hf hc hpl R h
    have hPs : PatAt s.heap P code := by
      obtain ⟨B, RB⟩ := R
      exact hP.keeps RB.keep
    have hxl : x.cps.toList.length = x.cps.size := Array.length_toList
    have hz1 : ∀ i j, (⟨x.cps.extract i j⟩ : Str).length ≤ sizeLine := by
      intro i j
      show (x.cps.extract i j).size ≤ sizeLine
      have q1 : (x.cps.extract i j).size = min j x.cps.size - i := Array.size_extract
      have : (21000 : Nat) ≤ sizeLine := by decide
      exact om378 hx hxl q1 this
    unfold Builtin.«re.Pattern.sub.loop»
    refine wpAny_bind (r_target hPs ?_)
    obtain ⟨N, hN, hE⟩ := hS.runs x.cps st hst (by exact om379 hx hxl)
    refine wpAny_bind (m := Builtin.Re.reLiteralCannotBeTurned (.str rep tr)) (wpAny_pure ?_)
    refine wpAny_bind (m := Builtin.Re.reNextFound (subTarget P x tx code) st false) ?_
    unfold Builtin.Re.reNextFound
    refine r_runToEnd hE hN (fun e => ?_) (fun m' i e e0 e1 e2 => ?_)
    · -- the end
      have fin : ∀ (s2 : Shared) (ps' : List Str), (∃ h₂ tk₂, s2 = (St s h₂ tk₂)) → Rep K₀ ((a, .pl (ps'.map V.str)) :: led) tmp s2.heap → ps'.length ≤ 2 ^ 20 → catL ps' = catL ps ++ x.cps.toList.drop st →
          wpAny (model prog w) A.in1 (Builtin.Re.reSlice x.cps 0 0 0 >>= fun joiner => seqItems? (.ref a) >>= fun xs => if (xs.getD #[]).isEmpty = true then (pure joiner >>= fun text => ret text) else (call (.builtin "str.join") [joiner, .ref a] >>= fun text => ret text))
            (fun fin s' => match fin with | .done f => R' (.ok f) s' | .again c' => c'.quiet = true ∧ codeAny (model prog w) A c' R' s') (fun e s' => R' (.error e) s') s2 := by
        rintro s2 ps' ⟨h₂, tk₂, rfl⟩ R2 hl2 hcat
        have hout : subG F rep.cps.toList x.cps (f + 1) st = x.cps.toList.drop st := by simp only [subG, e]
        rw [hout, ← hcat] at h
        have hz : (catL ps').length ≤ sizeLine := by
          rw [hcat, List.length_append, List.length_drop]
          have q := hxl
          have : (21000 : Nat) ≤ sizeLine := by decide
          exact om380 hx hst hc hxl this
        refine wpAny_bind (wpAny_mkStr (x := ⟨x.cps.extract 0 0⟩) ?_ (hz1 _ _))
        obtain ⟨B, RB⟩ := id R2
        obtain ⟨items, k, ei, rl⟩ := RB.led.1.2.2.1
        refine wpAny_bind (wpAny_seqItems ei rfl ?_)
        have e0 : x.cps.extract 0 0 = #[] := by apply Array.toList_inj.mp; simp
        rw [e0]
        by_cases hem : (Option.getD (some items) #[]).isEmpty = true
        · rw [if_pos hem]
          have hn : ps' = [] := by
            have h1 := rl.length
            have h2 : items = #[] := by simpa using hem
            rw [h2] at h1
            cases ps' with
            | nil => rfl
            | cons p r => simp at h1
          subst hn
          exact wpAny_bind (wpAny_pure (wpAny_pure (h _ _ _ R2.dropLed)))
        · rw [if_neg hem]
          refine wpAny_bind (r_join R2 (LAt.ofPl List.mem_cons_self) ?_ ?_ fun tk t => ?_)
          · rw [glued_sum]; exact hz
          · rw [glued_cat]; show (catL ps').toArray.size ≤ _
            rw [List.size_toArray]; exact hz
          · rw [glued_cat]
            exact wpAny_pure (h _ _ _ R2.dropLed)
      by_cases hlt : st < x.cps.size
      · show wpAny (model prog w) A.in1 (if st < x.cps.size then _ else _) _ _ s
        rw [if_pos hlt]
        refine wpAny_bind (m := mkStr ⟨x.cps.extract st x.cps.size⟩) (wpAny_mkStr ?_ (hz1 _ _))
        refine wpAny_bind (r_push R (by rw [List.length_map]; exact om381 hx hpl hxl hlt) (Bear.str (x := ⟨x.cps.extract st x.cps.size⟩)) fun h' R2 => ?_)
        refine fin _ (ps ++ [⟨x.cps.extract st x.cps.size⟩]) ⟨_, _, rfl⟩ (by rw [List.map_append]; exact R2) (by rw [List.length_append]; show _ + 1 ≤ _; exact om382 hx hpl hxl hlt) ?_
        rw [catL_snoc]
        congr 1
        show (x.cps.extract st x.cps.size).toList = _
        rw [Array.toList_extract, List.extract_eq_take_drop, List.take_of_length_le (by rw [List.length_drop]; exact om383 hxl hlt)]
      · show wpAny (model prog w) A.in1 (if st < x.cps.size then _ else _) _ _ s
        rw [if_neg hlt]
        refine fin s ps ⟨_, _, rfl⟩ R (by exact om384 hx hst hpl hxl hlt) ?_
        rw [List.drop_of_length_le (by have q := hxl; exact om385 hst hxl hlt), List.append_nil]
    · obtain ⟨hi1, hi2, hi3⟩ := hS.sane _ _ _ _ hst e0
      have hout : subG F rep.cps.toList x.cps (f + 1) st = (x.cps.extract st i).toList ++ rep.cps.toList ++ subG F rep.cps.toList x.cps f e := by simp only [subG, e0]
      rw [hout] at h
      have goon : ∀ (s2 : Shared) (ps' : List Str), (∃ h₂ tk₂, s2 = (St s h₂ tk₂)) → Rep K₀ ((a, .pl (ps'.map V.str)) :: led) tmp s2.heap → ps'.length ≤ 2 * st + 1 → catL ps' = catL ps ++ (x.cps.extract st i).toList →
          wpAny (model prog w) A.in1 ((updateSeq a (·.push (Value.str rep tr))) >>= fun _ => again (.builtin "re.Pattern.sub.loop" ⟨[.ref P, .str x tx, .str rep tr, rawInt 0, rawInt 0, rawInt (n + 1), rawInt m'.handed, rawInt m'.handed, .bool (m'.handed == i), .ref a, .bool false], []⟩))
            (fun fin s' => match fin with | .done f => R' (.ok f) s' | .again c' => c'.quiet = true ∧ codeAny (model prog w) A c' R' s') (fun e s' => R' (.error e) s') s2 := by
        rintro s2 ps' ⟨h₂, tk₂, rfl⟩ R2 hl2 hcat
        refine wpAny_bind (r_push R2 (by rw [List.length_map]; exact om386 hx hst hxl hl2) (Bear.str (x := rep)) fun h' R3 => ?_)
        rw [e2, show (e == i) = false from by simp; exact om387 hi2]
        refine wpAny_pure ⟨plainId_quiet plain_loop _, codeAny_builtin entry_loop ?_⟩
        rw [Around.under_plainId plain_loop]
        refine ih e _ (ps' ++ [rep]) (n + 1) hi3 (by exact om388 hst hf hxl hi1 hi2 hi3) ?_ ?_ (by rw [List.map_append]; exact R3) fun h' tk t R4 => ?_
        · rw [catL_snoc, hcat, List.length_append, List.length_append]
          have q1 : (x.cps.extract st i).toList.length = min i x.cps.size - st := by rw [Array.length_toList, Array.size_extract]
          have q2 : rep.cps.toList.length = rep.cps.size := Array.length_toList
          exact om389 hrep hc hxl hi1 hi2 hi3 q1 q2
        · rw [List.length_append]; show _ + 1 ≤ _; exact om390 hi1 hi2 hl2
        · rw [catL_snoc, hcat]
          simp only [List.append_assoc] at h ⊢
          exact h _ _ _ R4
      by_cases hlt : st < i
      · show wpAny (model prog w) A.in1 (if st < m'.start then _ else _) _ _ s
        rw [e1, if_pos hlt]
        refine wpAny_bind (m := mkStr ⟨x.cps.extract st i⟩) (wpAny_mkStr ?_ (hz1 _ _))
        refine wpAny_bind (r_push R (by rw [List.length_map]; exact om391 hx hst hpl hxl) (Bear.str (x := ⟨x.cps.extract st i⟩)) fun h' R2 => ?_)
        refine wpAny_bind (m := pure (Value.str rep tr)) (wpAny_pure ?_)
        refine goon _ (ps ++ [⟨x.cps.extract st i⟩]) ⟨h', s.toks + 1, rfl⟩ (by rw [List.map_append]; exact R2) (by rw [List.length_append]; show _ + 1 ≤ _; exact om392 hpl) ?_
        rw [catL_snoc]
      · show wpAny (model prog w) A.in1 (if st < m'.start then _ else _) _ _ s
        rw [e1, if_neg hlt]
        refine wpAny_bind (m := pure (Value.str rep tr)) (wpAny_pure ?_)
        refine goon s ps ⟨_, _, rfl⟩ R (by exact om393 hpl hi1 hlt) ?_
        have : (x.cps.extract st i).toList = [] := by
          have : i = st := by exact om394 hi1 hlt
          subst this; simp
        rw [this, List.append_nil]
end
end Mine

/-! T6 -/
namespace Mine
theorem owner_pat : Manifest.owners.lookup (String.ofList ['n', 'r', 'e', 't', 't', 'a', 'P', '.', 'e', 'r'].reverse) = some Manifest.sig_re_Pattern := by kernel_rfl
theorem args_sub_3 (a b c : Value) : argsOk "re.Pattern.sub" ⟨[a, b, c], []⟩ := by
  unfold argsOk; rw [signature?_of (id := "re.Pattern.sub") (n := ['b', 'u', 's']) (o := ['n', 'r', 'e', 't', 't', 'a', 'P', '.', 'e', 'r']) (by kernel_rfl) owner_pat]; kernel_rfl
theorem str_no_call : typeLookup (.type "str") "__call__" = pure none := by rw [typeLookup_type, builtinLookup_eq_fast]; kernel_rfl
section
variable {prog : Program} {w : World} {A : Around} {E : Value → Shared → Prop} {s : Shared} {K₀ : Heap} {led : List (Nat × Mo)} {tmp : List (V × Nat)}
theorem named_sub (a b : Value) : Builtin.Re.reNamed "re.Pattern.sub" "sub" ["repl", "string", "count"] 2 [a, b] [] = pure [some a, some b, none] := by
  rfl
theorem r_sub {P : Nat} {code : Array Nat} {F : Array Nat → Nat → Option (Nat × Nat)} {x rep : Str} {tx tr : Tok} {Q : Value → Shared → Prop} (hS : Srch code F) (R : Rep K₀ led tmp s.heap) (hP : PatAt K₀ P code) (hx : x.cps.size ≤ 1000) (hrep : rep.cps.size ≤ 10)
    (h92 : rep.cps.contains 92 = false)
    (h : ∀ h' tk t, Rep K₀ led tmp h' → Q (.str ⟨(subG F rep.cps.toList x.cps (x.cps.size + 1) 0).toArray⟩ t) (St s h' tk)) :
    wpAny (model prog w) A (call (.builtin "re.Pattern.sub") [.ref P, .str rep tr, .str x tx]) Q E s := by
  have hPs : PatAt s.heap P code := by
    obtain ⟨B, RB⟩ := R
    exact hP.keeps RB.keep
  have hT : s.TypeIs (.ref P) "re.Pattern" := by
    obtain ⟨o, f0, f1, f3, f4, C, oc, items, k, a, b, c, d, e, f, g⟩ := hPs
    exact ⟨o, a, b⟩
  refine wpAny_call (codeAny_call_builtin slot_sub.plain entry_sub (slot_sub.check _ _ _ _ _ _ _ _ hT (args_sub_3 _ _ _) ?_))
  unfold Builtin.«re.Pattern.sub» Builtin.Re.reSubstitute
  refine wpAny_bind (wpAny_of_eq (named_sub _ _) ?_)
  refine wpAny_bind (m := pure 0) (wpAny_pure ?_)
  refine wpAny_bind (wpAny_specialOf (typeIs_str _ _ _) str_no_call ?_)
  refine wpAny_bind (m := asStr? (.str rep tr)) (wpAny_pure ?_)
  refine wpAny_bind (m := pure (!rep.cps.contains 92)) (wpAny_pure ?_)
  rw [h92]
  refine wpAny_bind (m := pure (Value.str rep tr, (0 : Int))) (wpAny_pure ?_)
  refine wpAny_bind (wpAny_holding (r_target hPs ?_))
  refine wpAny_bind (m := newList []) (wpAny_newList ?_ (by decide))
  have R2 : Rep K₀ ((s.heap.objs.size, .pl (([] : List Str).map V.str)) :: led) tmp (s.heap.push { cls := .type "list", data := .seq ([] : List Value).toArray }) :=
    R.fresh (push_keeps _ _) (Rep.none_at_size _) fun B RB => ⟨#[], 0, Heap.get?_push_size _ rfl, RepL.nil B⟩
  refine wpAny_pure ⟨plainId_quiet plain_loop _, codeAny_builtin entry_loop ?_⟩
  rw [Around.under_plainId plain_loop]
  refine sub_loop (R' := wants Q E) (A := A) hS hP hx hrep (x.cps.size + 1) 0 { s with heap := s.heap.push { cls := .type "list", data := .seq ([] : List Value).toArray } } [] 0 (Nat.zero_le _) (by exact om395 hx) (by simp [catL]) (by simp) R2 fun h' tk t R3 => ?_
  exact h _ _ _ R3
end
theorem srch1 : Srch code1 (fun t s => dotAt t (t.size - s)) where
  runs := fun t s hs ht => by
    obtain ⟨n, h1, h2⟩ := search1 hs
    exact ⟨n, by have : (3 * 2 ^ 20 + 6 : Nat) ≤ 4 * 2 ^ 64 := by decide
                 exact om396 ht h1, h2⟩
  sane := fun t s i e hs h => by
    have key : ∀ k, k ≤ t.size → dotAt t k = some (i, e) → t.size - k ≤ i ∧ i < e ∧ e ≤ t.size := by
      intro k
      induction k with
      | zero => intro _ h; cases h
      | succ k ih =>
        intro hk h
        simp only [dotAt] at h
        split at h
        · cases h; exact om397 hk
        · have := ih (by exact om353 hk) h; exact om398 hk this
    have := key _ (by exact om358 hs) h
    exact om399 hs this
theorem srch2 : Srch code2 (fun t s => endAt t (t.size - s)) where
  runs := fun t s hs ht => by
    obtain ⟨n, h1, h2⟩ := search2 hs
    exact ⟨n, by have : (16 : Nat) ≤ 4 * 2 ^ 64 := by decide
                 exact om400 h1, h2⟩
  sane := fun t s i e hs h => by
    unfold endAt at h
    cases ha : admAt t (t.size - s) with
    | none => rw [ha] at h; cases h
    | some j =>
      rw [ha] at h
      obtain ⟨h1, h2, h3⟩ := admAt_is (by exact om358 hs) ha
      have he : j < endOf t j ∧ endOf t j ≤ t.size := by
        unfold endOf
        by_cases hc : t.getD j 0 = 13 ∧ j + 1 < t.size ∧ t.getD (j + 1) 0 = 10
        · rw [if_pos hc]; have := hc.2.1; exact om401 hc
        · rw [if_neg hc]; exact om402 h2
      cases h
      exact ⟨by exact om403 hs h1 h3, he.1, he.2⟩
end Mine

/-! T7 -/
namespace Mine
/-- each line end a return and a feed -/
noncomputable def crlfL : List Nat → List Nat
  | [] => []
  | [c] => if c = 10 ∨ c = 13 then [13, 10] else [c]
  | c :: d :: r => if c = 13 ∧ d = 10 then 13 :: 10 :: crlfL r else if c = 10 ∨ c = 13 then 13 :: 10 :: crlfL (d :: r) else c :: crlfL (d :: r)
/-- a dot that opens a line twice -/
noncomputable def dotL : Bool → List Nat → List Nat
  | _, [] => []
  | b, c :: r => if (b && c == 46) = true then 46 :: 46 :: dotL false r else c :: dotL (c == 10) r

theorem drop_cons {t : Array Nat} {s : Nat} (h : s < t.size) : t.toList.drop s = t.getD s 0 :: t.toList.drop (s + 1) := by
  rw [List.drop_eq_getElem_cons (by simpa using h)]
  congr 1
  simp [Array.getD, h]
theorem ext_cons {t : Array Nat} {s i : Nat} (h : s < i) (hi : i ≤ t.size) : (t.extract s i).toList = t.getD s 0 :: (t.extract (s + 1) i).toList := by
  rw [Array.toList_extract, Array.toList_extract, List.extract_eq_take_drop, List.extract_eq_take_drop, drop_cons (by exact om404 h hi), show i - s = (i - (s + 1)) + 1 by exact om405 h, List.take_succ_cons]
theorem ext_nil {t : Array Nat} {s : Nat} : (t.extract s s).toList = [] := by simp

theorem subG_step {code : Array Nat} {F : Array Nat → Nat → Option (Nat × Nat)} (hS : Srch code F) {rep : List Nat} {t : Array Nat} {f s : Nat} (hs : s < t.size) (e : F t s = F t (s + 1)) :
    subG F rep t (f + 1) s = t.getD s 0 :: subG F rep t (f + 1) (s + 1) := by
  simp only [subG, e]
  cases h : F t (s + 1) with
  | none => exact drop_cons hs
  | some p =>
    obtain ⟨i, j⟩ := p
    have := hS.sane t (s + 1) i j hs h
    show (t.extract s i).toList ++ rep ++ _ = _
    rw [ext_cons (by exact om406 this) (by exact om407 this)]
    rfl
theorem subG_hit {F : Array Nat → Nat → Option (Nat × Nat)} {rep : List Nat} {t : Array Nat} {f s e : Nat} (h : F t s = some (s, e)) : subG F rep t (f + 1) s = rep ++ subG F rep t f e := by
  simp only [subG, h, ext_nil, List.nil_append]
noncomputable abbrev F1 (t : Array Nat) (s : Nat) : Option (Nat × Nat) := dotAt t (t.size - s)
noncomputable abbrev F2 (t : Array Nat) (s : Nat) : Option (Nat × Nat) := endAt t (t.size - s)
theorem dot_is {t : Array Nat} : ∀ (k f s : Nat), t.size - s = k → s ≤ t.size → k < f → subG F1 [46, 46] t f s = dotL (Bol t s) (t.toList.drop s)
  | 0, f + 1, s, hk, hs, _ => by
    have e : t.toList.drop s = [] := List.drop_of_length_le (by rw [Array.length_toList]; exact om408 hk)
    rw [e]
    simp only [subG, F1, hk, dotAt, e, dotL]
  | k + 1, f + 1, s, hk, hs, hf => by
    have hlt : s < t.size := by exact om409 hk hs
    have hB : Bol t (s + 1) = (t.getD s 0 == 10) := by simp [Bol]
    rw [drop_cons hlt]
    by_cases hh : (Bol t s && t.getD s 0 == 46) = true
    · have e : F1 t s = some (s, s + 1) := by
        simp only [F1, hk, dotAt, show t.size - (k + 1) = s by exact om410 hk hlt, hh, if_true]
      rw [subG_hit e, dot_is k f (s + 1) (by exact om411 hk hlt) (by exact om412 hlt) (by exact om413 hf), hB]
      simp only [dotL, hh, if_true]
      rw [Bool.and_eq_true] at hh
      have h46 : t.getD s 0 = 46 := by simpa using hh.2
      rw [h46]; rfl
    · have e : F1 t s = F1 t (s + 1) := by
        simp only [F1, hk, dotAt, show t.size - (k + 1) = s by exact om410 hk hlt, hh, if_false]
        rw [show t.size - (s + 1) = k by exact om411 hk hlt]; rfl
      rw [subG_step srch1 hlt e, dot_is k (f + 1) (s + 1) (by exact om411 hk hlt) (by exact om412 hlt) (by exact om414 hf), hB]
      simp only [dotL, hh, if_false]
      rfl
theorem crlfL_not {c : Nat} {r : List Nat} (h : ¬ (c = 10 ∨ c = 13)) : crlfL (c :: r) = c :: crlfL r := by
  cases r with
  | nil => simp only [crlfL, if_neg h]
  | cons d r =>
    simp only [crlfL]
    rw [if_neg (fun q => h (.inr q.1)), if_neg h]
theorem crlfL_lf {r : List Nat} : crlfL (10 :: r) = 13 :: 10 :: crlfL r := by
  cases r with
  | nil => rfl
  | cons d r => simp only [crlfL]; rw [if_neg (by simp), if_pos (by simp)]
theorem crlfL_cr {r : List Nat} (h : ∀ r', r ≠ 10 :: r') : crlfL (13 :: r) = 13 :: 10 :: crlfL r := by
  cases r with
  | nil => rfl
  | cons d r =>
    simp only [crlfL]
    rw [if_neg (fun q => h r (by rw [q.2])), if_pos (by simp)]
theorem end_is {t : Array Nat} : ∀ (k f s : Nat), t.size - s ≤ k → s ≤ t.size → t.size - s < f → subG F2 [13, 10] t f s = crlfL (t.toList.drop s)
  | 0, f + 1, s, hk, hs, _ => by
    have e : t.toList.drop s = [] := List.drop_of_length_le (by rw [Array.length_toList]; exact om415 hk)
    have e0 : t.size - s = 0 := by exact om416 hk
    rw [e]
    simp only [subG, F2, e0, endAt, admAt, Option.map, e, crlfL]
  | k + 1, f + 1, s, hk, hs, hf => by
    by_cases hz : t.size - s = 0
    · exact end_is 0 (f + 1) s (by exact om417 hz) hs hf
    have hlt : s < t.size := by exact om418 hs hz
    rw [drop_cons hlt]
    obtain ⟨k', hk'⟩ : ∃ k', t.size - s = k' + 1 := ⟨t.size - s - 1, by exact om419 hz hlt⟩
    by_cases hh : t.getD s 0 = 10 ∨ t.getD s 0 = 13
    · have e : F2 t s = some (s, endOf t s) := by
        have hb : (t.getD s 0 == 10 || t.getD s 0 == 13) = true := by simpa using hh
        simp only [F2, endAt, hk', admAt, show t.size - (k' + 1) = s by exact om420 hz hlt hk' hh, hb, if_true, Option.map]
      have hsane := srch2.sane t s s (endOf t s) hs e
      rw [subG_hit e, end_is k f (endOf t s) (by exact om421 hk hz hlt hk' hh hsane) (by exact om422 hsane) (by exact om423 hf hz hlt hk' hh hsane)]
      unfold endOf
      by_cases hc : t.getD s 0 = 13 ∧ s + 1 < t.size ∧ t.getD (s + 1) 0 = 10
      · rw [if_pos hc, hc.1, drop_cons hc.2.1, hc.2.2]
        rfl
      · rw [if_neg hc]
        rcases hh with h10 | h13
        · rw [h10, crlfL_lf]; rfl
        · rw [h13, crlfL_cr]
          · rfl
          · intro r' q
            have h2 : s + 1 < t.size := by
              rcases Nat.lt_or_ge (s + 1) t.size with h | h
              · exact h
              · rw [List.drop_of_length_le (by rw [Array.length_toList]; exact om424 h)] at q; cases q
            rw [drop_cons h2] at q
            exact hc ⟨h13, h2, (List.cons.inj q).1⟩
    · have e : F2 t s = F2 t (s + 1) := by
        have hb : (t.getD s 0 == 10 || t.getD s 0 == 13) = false := by
          cases q : (t.getD s 0 == 10 || t.getD s 0 == 13)
          · rfl
          · exact absurd (by simpa using q) hh
        simp only [F2, endAt, hk', admAt, show t.size - (k' + 1) = s by exact om425 hz hlt hk' hh, hb, if_false, show t.size - (s + 1) = k' by exact om426 hz hlt hk' hh]
        rfl
      rw [subG_step srch2 hlt e, end_is k (f + 1) (s + 1) (by exact om427 hk hz hlt hk' hh) (by exact om412 hlt) (by exact om428 hf hz hlt hk' hh), crlfL_not hh]
theorem crlfL_len : ∀ (l : List Nat), (crlfL l).length ≤ 2 * l.length
  | [] => Nat.le_refl _
  | [c] => by simp only [crlfL]; split <;> simp
  | c :: d :: r => by
    simp only [crlfL]
    have h1 := crlfL_len r
    have h2 := crlfL_len (d :: r)
    simp only [List.length_cons] at h2
    split
    · simp only [List.length_cons]; exact om429 h1
    · split <;> simp only [List.length_cons] <;> omega
/-- what quotedata says -/
noncomputable def quoteL (l : List Nat) : List Nat := dotL true (crlfL l)
end Mine

/-! S15 -/
namespace Mine

theorem r_getSub {prog : Program} {w : World} {A : Around} {E : Value → Shared → Prop} {s : Shared} {K₀ : Heap} {led : List (Nat × Mo)} {tmp : List (V × Nat)} {P : Nat} {code : Array Nat} {pl : Sem Bool} {Q : Value × List Value → Shared → Prop}
    (R : Rep K₀ led tmp s.heap) (hP : PatAt K₀ P code) (h : Q (.builtin "re.Pattern.sub", [.ref P]) s) : wpAny (model prog w) A (getMethod (.ref P) "sub" pl) Q E s := by
  obtain ⟨B, RB⟩ := R
  obtain ⟨o, f0, f1, f3, f4, C, oc, items, k, a, b, c, d, e, f, g⟩ := hP.keeps RB.keep
  exact getMethod_builtin ⟨o, a, b⟩ plainAttrs_pat slot_sub type_sub (fun x e => by cases e; exact ⟨o, a, c⟩) h
theorem r_subE {prog : Program} {w : World} {A : Around} {E : Value → Shared → Prop} {s : Shared} {K₀ : Heap} {led : List (Nat × Mo)} {tmp : List (V × Nat)} {P : Nat} {code : Array Nat} {F : Array Nat → Nat → Option (Nat × Nat)} {x rep : Str} {tx tr : Tok} {rl out : List Nat} {Q : Value → Shared → Prop} (hS : Srch code F) (R : Rep K₀ led tmp s.heap) (hP : PatAt K₀ P code) (hx : x.cps.size ≤ 1000)
    (hr : rep.cps.toList = rl) (hrep : rl.length ≤ 10) (h92 : rep.cps.contains 92 = false) (ho : subG F rl x.cps (x.cps.size + 1) 0 = out)
    (h : ∀ h' tk t, Rep K₀ led tmp h' → Q (.str ⟨out.toArray⟩ t) (St s h' tk)) :
    wpAny (model prog w) A (call (.builtin "re.Pattern.sub") [.ref P, .str rep tr, .str x tx]) Q E s := by
  subst ho
  subst hr
  exact r_sub hS R hP hx (by rw [← Array.length_toList]; exact hrep) h92 h
theorem quote_1 {x : Str} : subG F2 [13, 10] x.cps (x.cps.size + 1) 0 = crlfL x.cps.toList := by
  rw [end_is _ _ _ (Nat.le_refl _) (Nat.zero_le _) (by exact om84)]; rfl
theorem quote_2 {l : List Nat} : subG F1 [46, 46] (crlfL l).toArray ((crlfL l).toArray.size + 1) 0 = quoteL l := by
  rw [dot_is _ _ _ rfl (Nat.zero_le _) (by exact om84)]; rfl
theorem spec_quote {w : World} {A : Around} {E : Value → Shared → Prop} {s : Shared} {K₀ : Heap} {led : List (Nat × Mo)} {tmp : List (V × Nat)} {Q : Value → Shared → Prop} {k : Nat} {x : Str} {tx : Nat}
    (AO : AOk A (k + 3)) (S : Stat (hd.heap_39 w.params) K₀) (R : Rep K₀ led tmp s.heap) (hx : x.cps.size ≤ 400)
    (h : ∀ h' tk t, Rep K₀ led tmp h' → Q (.str ⟨(quoteL x.cps.toList).toArray⟩ t) (St s h' tk)) :
    wpAny (model PySem.Challenge.rw_uk0010_01.row.prog w) A (call (.ref 48) [.str x tx]) Q E s := by
  revert AO S R h
  k_fill
  intro AO S R h
  have hP1 : PatAt K₀ 36 code1 := ⟨_, _, _, _, _, 35, _, _, _, S.x 36 _ (by k_is), rfl, rfl, rfl, S.x 35 _ (by k_is), rfl, by simp [Builtin.Re.reRawOf, code1]⟩
  have hP2 : PatAt K₀ 41 code2 := ⟨_, _, _, _, _, 40, _, _, _, S.x 41 _ (by k_is), rfl, rfl, rfl, S.x 40 _ (by k_is), rfl, by simp [Builtin.Re.reRawOf, code2]⟩
  refine' r_enter (l := [("data", .str x)]) AO S R ?ho ?hcd ?hbind ?hcell ?hloc ?hrep ?_ ?c1 ?c2 ?c3
  ((case ho => k_is); (case hcd => k_is); (case hbind => first | exact BindsTo.of_eq rfl | exact binds_K (Rep.stat R S).x rfl (by k_is) rfl rfl rfl); (case hcell => decide); (case hloc => exact locs rfl); (case c1 => rfl); (case c2 => rfl); (case c3 => rfl))
  case hrep => intro B RB; exact (show Binds tmp _ _ by ((try dsimp only [List.reverse, List.reverseAux]); repeat (first | exact Binds.nil | (refine Binds.cons ?_ ?_; (with_reducible first | exact Bear.int | exact Bear.float | exact Bear.str | exact Bear.bool | exact Bear.none | (refine' Bear.tup ?zb3; (case zb3 => (repeat (with_reducible first | exact List.mem_cons_self | refine List.mem_cons_of_mem _ ?_)))) | (refine' Bear.lst ?zb3; (case zb3 => (repeat (with_reducible first | exact List.mem_cons_self | refine List.mem_cons_of_mem _ ?_)))) | exact Bear.raw))))) B RB.tmp
  clear R AO
  intro L h₁ tk env A' AO EO R
  ((with_reducible refine wpAny_execs_cons ?_); (with_reducible refine wpAny_Return_some ?_); (refine MethodCall_ ?_); (refine' r_glob EO S R ?ze ?_ ?zhx ?zhd; (case zhx => exact rfl); (case ze => k_is); (case zhd => decide)))
  refine' r_getSub R hP1 ?_
  ((refine callWith_method1 ?_); (refine wpAny_items_cons ?_); (with_reducible refine q_cstr ?_); (refine wpAny_items_cons ?_); (refine MethodCall_ ?_); (refine' r_glob EO S R ?ze ?_ ?zhx ?zhd; (case zhx => exact rfl); (case ze => k_is); (case zhd => decide)))
  refine' r_getSub R hP2 ?_
  ((refine callWith_method1 ?_); (refine wpAny_items_cons ?_); (refine' r_glob EO S R ?ze ?_ ?zhx ?zhd; (case zhx => exact rfl); (case ze => k_is); (case zhd => decide)); (refine wpAny_items_cons ?_); (refine' r_locS EO R ?zhv ?zhf ?_ ?zhx ?zhd; (case zhx => exact rfl); (case zhv => exact rfl); (case zhf => exact rfl); (case zhd => decide); intro _); (with_reducible refine wpAny_items_nil ?_))
  show wpAny _ _ (call (.builtin "re.Pattern.sub") [.ref 41, .str (Str.ofString "\r\n") _, .str x _]) _ _ _
  refine' r_subE srch2 R hP2 ?g1 (rl := [13, 10]) ?g2 ?g3 ?g4 quote_1 ?_
  case g1 => exact om85 hx
  case g2 => decide +kernel
  case g3 => decide
  case g4 => decide +kernel
  clear R; intro h' tk t R
  ((with_reducible refine wpAny_items_nil ?_))
  show wpAny _ _ (call (.builtin "re.Pattern.sub") [.ref 36, .str (Str.ofString "..") _, .str ⟨(crlfL x.cps.toList).toArray⟩ _]) _ _ _
  refine' r_subE srch1 R hP1 ?g1 (rl := [46, 46]) ?g2 ?g3 ?g4 quote_2 ?_
  case g1 =>
    have := crlfL_len x.cps.toList
    have h2 : x.cps.toList.length = x.cps.size := Array.length_toList
    show (crlfL x.cps.toList).toArray.size ≤ _
    rw [List.size_toArray]; exact om86 hx this h2
  case g2 => decide +kernel
  case g3 => decide
  case g4 => decide +kernel
  clear R; intro h' tk t R
  exact h _ _ _ R.dropLed

end Mine

/-! T8 -/
namespace Mine
noncomputable def rowS (tl : List Nat) (l d : Int) (e : List Nat) : List Nat := (List.replicate (1 - l).toNat tl).flatten ++ (List.replicate d.toNat [46]).flatten ++ e
noncomputable def endL : Nat → List Nat
  | 0 => [10] | 1 => [13] | _ => [13, 10]
noncomputable def NoEnd (r : List Nat) : Prop := ∀ c ∈ r, c ≠ 10 ∧ c ≠ 13
theorem crlf_row : ∀ {r : List Nat} (rest : List Nat), NoEnd r → crlfL (r ++ rest) = r ++ crlfL rest
  | [], _, _ => rfl
  | c :: r, rest, h => by
    have hc := h c (.head _)
    rw [List.cons_append, crlfL_not (by exact om430 hc), crlf_row rest fun x hx => h x (.tail _ hx)]; rfl
theorem crlf_end {j : Nat} {rest : List Nat} (h : j = 1 → ∀ r, rest ≠ 10 :: r) : crlfL (endL j ++ rest) = 13 :: 10 :: crlfL rest := by
  match j, h with
  | 0, _ => exact crlfL_lf
  | 1, h => exact crlfL_cr (h rfl)
  | j + 2, _ =>
    show crlfL (13 :: 10 :: rest) = _
    rw [crlfL]
    rw [if_pos (by simp)]
theorem dotL_false : ∀ {r : List Nat}, NoEnd r → dotL false r = r
  | [], _ => rfl
  | c :: r, h => by
    have hc := h c (.head _)
    have e : (c == 10) = false := by simpa using hc.1
    simp only [dotL, e, Bool.false_and, Bool.false_eq_true, if_false]
    rw [dotL_false fun x hx => h x (.tail _ hx)]
theorem dotL_row : ∀ {b : Bool} {r : List Nat} (rest : List Nat), NoEnd r → dotL b (r ++ 13 :: 10 :: rest) = dotL b r ++ 13 :: 10 :: dotL true rest
  | b, [], rest, _ => by simp [dotL]
  | b, c :: r, rest, h => by
    have hc := h c (.head _)
    have e : (c == 10) = false := by simpa using hc.1
    rw [List.cons_append]
    simp only [dotL]
    by_cases hh : (b && c == 46) = true
    · rw [if_pos hh, if_pos hh, dotL_row rest fun x hx => h x (.tail _ hx)]; rfl
    · rw [if_neg hh, if_neg hh, dotL_row rest fun x hx => h x (.tail _ hx)]; rfl
theorem NoEnd.append {a b : List Nat} (ha : NoEnd a) (hb : NoEnd b) : NoEnd (a ++ b) := fun c hc => (List.mem_append.mp hc).elim (ha c) (hb c)
theorem NoEnd.rep {a : List Nat} {k : Nat} (ha : NoEnd a) : NoEnd (List.replicate k a).flatten := fun c hc => by
  obtain ⟨l, hl, hc⟩ := List.mem_flatten.mp hc
  rw [(List.mem_replicate.mp hl).2] at hc
  exact ha c hc
theorem NoEnd.dot : NoEnd [46] := fun c hc => by rw [List.mem_singleton.mp hc]; decide
theorem NoEnd.nil : NoEnd [] := fun c hc => by cases hc
theorem rowS_noEnd {tl e : List Nat} {l d : Int} (ht : NoEnd tl) (he : NoEnd e) : NoEnd (rowS tl l d e) := (ht.rep.append NoEnd.dot.rep).append he
theorem dot_rowS {ch : Nat} {e : List Nat} {l d : Int} (hl : l = 0 ∨ l = 1) (hd : 1 ≤ d) (hc : ch ≠ 10 ∧ ch ≠ 13 ∧ ch ≠ 46) (he : NoEnd e) : dotL true (rowS [ch, 46] l d e) = rowS [ch, 46] l (d + l) e := by
  have ht : NoEnd [ch, 46] := fun c h => by
    rcases List.mem_cons.mp h with rfl | h
    · exact ⟨hc.1, hc.2.1⟩
    · rw [List.mem_singleton.mp h]; decide
  have hn := rowS_noEnd (l := l) (d := d) ht he
  rcases hl with rfl | rfl
  · have e1 : (ch == 46) = false := by simpa using hc.2.2
    have e2 : (ch == 10) = false := by simpa using hc.1
    have er : rowS [ch, 46] 0 d e = ch :: ([46] ++ (List.replicate d.toNat [46]).flatten ++ e) := by
      show (List.replicate 1 [ch, 46]).flatten ++ _ ++ _ = _
      simp
    rw [Int.add_zero]
    rw [er] at hn ⊢
    simp only [dotL, e1, e2, Bool.and_false, Bool.false_eq_true, if_false]
    rw [dotL_false fun x hx => hn x (.tail _ hx)]
  · obtain ⟨k, hk⟩ : ∃ k : Nat, d = (k : Int) + 1 := ⟨(d - 1).toNat, by exact om431 hd⟩
    subst hk
    have er : rowS [ch, 46] 1 ((k : Int) + 1) e = 46 :: ((List.replicate k [46]).flatten ++ e) := by
      show (List.replicate 0 [ch, 46]).flatten ++ _ ++ _ = _
      rw [show ((k : Int) + 1).toNat = k + 1 by exact om432 hd, List.replicate_succ]
      simp
    have er2 : rowS [ch, 46] 1 ((k : Int) + 1 + 1) e = 46 :: 46 :: ((List.replicate k [46]).flatten ++ e) := by
      show (List.replicate 0 [ch, 46]).flatten ++ _ ++ _ = _
      rw [show ((k : Int) + 1 + 1).toNat = k + 1 + 1 by exact om433 hd, List.replicate_succ, List.replicate_succ]
      simp
    rw [er2]
    rw [er] at hn ⊢
    simp only [dotL]
    rw [if_pos (by simp), dotL_false fun x hx => hn x (.tail _ hx)]
theorem rowS_length {tl e : List Nat} {l d : Int} (ht : tl.length ≤ 2) (he : e.length ≤ 2) (hl : 0 ≤ l) (hd : d ≤ 20) : (rowS tl l d e).length ≤ 30 := by
  unfold rowS
  rw [List.length_append, List.length_append, List.length_flatten, List.length_flatten, List.map_replicate, List.map_replicate, List.sum_replicate_nat, List.sum_replicate_nat]
  have h1 : (1 - l).toNat ≤ 1 := by exact om434 hl
  have h2 : (1 - l).toNat * tl.length ≤ 1 * 2 := Nat.mul_le_mul h1 ht
  have h3 : d.toNat ≤ 20 := by exact om435 hd
  show _ + d.toNat * 1 + _ ≤ 30
  exact om436 he h2 h3
/-- the mail that is sent, its ends told by j -/
noncomputable def mailL (r0 r1 r2 r3 : List Nat) (j0 j1 j2 : Nat) : List Nat := r0 ++ endL j0 ++ r1 ++ endL j1 ++ r2 ++ endL j2 ++ endL j0 ++ r3
theorem mail_is {ch : Nat} {l0 l1 l2 d0 d1 d2 d3 : Int} {j : Nat} (hj : j < 3) (hc : ch ≠ 10 ∧ ch ≠ 13 ∧ ch ≠ 46) (h0 : l0 = 0 ∨ l0 = 1) (h1 : l1 = 0 ∨ l1 = 1) (h2 : l2 = 0 ∨ l2 = 1) (g0 : 1 ≤ d0) (g1 : 1 ≤ d1) (g2 : 1 ≤ d2) (g3 : 1 ≤ d3) :
    quoteL (mailL (rowS [ch, 46] l0 d0 [ch, 46]) (rowS [ch, 46] l1 d1 [ch, 46]) (rowS [ch, 46] l2 d2 [ch, 46]) (rowS [ch, 46] 1 d3 []) j ((j + 1) % 3) ((j + 2) % 3)) =
      rowS [ch, 46] l0 (d0 + l0) [ch, 46] ++ 13 :: 10 :: (rowS [ch, 46] l1 (d1 + l1) [ch, 46] ++ 13 :: 10 :: (rowS [ch, 46] l2 (d2 + l2) [ch, 46] ++ 13 :: 10 :: 13 :: 10 :: rowS [ch, 46] 1 (d3 + 1) [])) := by
  have ht : NoEnd [ch, 46] := fun c h => by
    rcases List.mem_cons.mp h with rfl | h
    · exact ⟨hc.1, hc.2.1⟩
    · rw [List.mem_singleton.mp h]; decide
  have n0 := rowS_noEnd (l := l0) (d := d0) ht ht
  have n1 := rowS_noEnd (l := l1) (d := d1) ht ht
  have n2 := rowS_noEnd (l := l2) (d := d2) ht ht
  have n3 := rowS_noEnd (l := 1) (d := d3) ht NoEnd.nil
  have start : ∀ {r : List Nat} {x : List Nat}, NoEnd r → r ≠ [] → ∀ q, r ++ x ≠ 10 :: q := by
    intro r x hr hne q e
    cases r with
    | nil => exact hne rfl
    | cons c r => exact (hr c (.head _)).1 (List.cons.inj e).1
  have ne : ∀ {l d : Int} {e : List Nat}, 1 ≤ d → rowS [ch, 46] l d e ≠ [] := by
    intro l d e hd q
    have := congrArg List.length q
    unfold rowS at this
    rw [List.length_append, List.length_append, List.length_flatten, List.length_flatten, List.map_replicate, List.map_replicate, List.sum_replicate_nat, List.sum_replicate_nat] at this
    have h3 : d.toNat * List.length [46] = d.toNat := Nat.mul_one _
    simp only [List.length_nil] at this
    exact om437 hd this h3
  unfold quoteL mailL
  simp only [List.append_assoc]
  rw [crlf_row _ n0, crlf_end fun _ => start n1 (ne g1), crlf_row _ n1, crlf_end fun _ => start n2 (ne g2), crlf_row _ n2]
  rw [crlf_end (j := (j + 2) % 3) (by
    intro hj2 r
    have : j = 2 := by exact om438 hj hj2
    subst this
    intro e; cases e)]
  rw [crlf_end fun _ => by
    have := start (x := []) n3 (ne g3)
    simpa using this]
  have e3 : crlfL (rowS [ch, 46] 1 d3 []) = rowS [ch, 46] 1 d3 [] := by
    have := crlf_row [] n3
    simpa [crlfL] using this
  rw [e3, dotL_row _ n0, dotL_row _ n1, dotL_row _ n2]
  have e4 : dotL true (13 :: 10 :: rowS [ch, 46] 1 d3 []) = 13 :: 10 :: dotL true (rowS [ch, 46] 1 d3 []) := by
    have := dotL_row (b := true) (rowS [ch, 46] 1 d3 []) NoEnd.nil
    simpa [dotL] using this
  rw [e4, dot_rowS h0 g0 hc ht, dot_rowS h1 g1 hc ht, dot_rowS h2 g2 hc ht, dot_rowS (.inr rfl) g3 hc NoEnd.nil]
end Mine

/-! S18 -/
namespace Mine
/-- what _law_lights does when a paint is made -/
noncomputable def forBody : List Stmt → Option (List Stmt)
  | [] => none
  | .For _ _ body _ _ :: _ => some body
  | _ :: r => forBody r
noncomputable def ifBody : List Stmt → Option (List Stmt)
  | [] => none
  | .If _ body _ _ :: _ => some body
  | _ :: r => ifBody r
noncomputable def lightsOf (K : Frag) : Option (Scope × List Stmt) := match K.lookup 173 with
  | some ⟨_, _, .func fd, _⟩ => (match fd.body with
    | .stmts b => (match forBody b with
      | some fb => (match ifBody fb with
        | some ib => some (fd.scope, ib.drop 3)
        | none => none)
      | none => none)
    | _ => none)
  | _ => none
noncomputable abbrev tailsV (ch : Nat) : List V := [.str (strL [ch, 46]), .str (strL [ch, 46]), .str (strL [ch, 46]), .str (strL [])]
noncomputable abbrev endsV : List V := [.str (strL [10]), .str (strL [13]), .str (strL [13, 10])]
theorem pick3 {fa fb fc : UInt64} {x0 x1 x2 : Int} {g : Int → Int} (h0 : okF fa x0 = true) (h1 : okF fb x1 = true) (h2 : okF fc x2 = true) {i : Nat} {v u : V} (hi : [V.float fa, V.float fb, V.float fc][i]? = some v) (hu : [V.int (g x0), .int (g x1), .int (g x2)][i]? = some u) :
    ∃ f x, v = .float f ∧ u = .int (g x) ∧ Float64.isFinite f = true ∧ Float64.isFinite (mil f) = true ∧ rnd f = x ∧ rnd (mil f) = 10 ^ 6 * x := by
  have key : ∀ {f x}, okF f x = true → Float64.isFinite f = true ∧ Float64.isFinite (mil f) = true ∧ rnd f = x ∧ rnd (mil f) = 10 ^ 6 * x := by
    intro f x h
    unfold okF at h
    simp only [Bool.and_eq_true, beq_iff_eq] at h
    exact ⟨h.1.1.1, h.1.1.2, h.1.2, h.2⟩
  match i, hi, hu with
  | 0, hi, hu => cases hi; cases hu; exact ⟨_, _, rfl, rfl, key h0⟩
  | 1, hi, hu => cases hi; cases hu; exact ⟨_, _, rfl, rfl, key h1⟩
  | 2, hi, hu => cases hi; cases hu; exact ⟨_, _, rfl, rfl, key h2⟩
  | i + 3, hi, _ => cases hi
theorem sDotL : (Str.ofString ".").cps.toList = [46] := by decide +kernel
noncomputable abbrev rowsV (ch : Nat) (x0 x1 x2 d0 d1 d2 d3 : Int) : List V := [.str (strL (rowS [ch, 46] x0 d0 [ch, 46])), .str (strL (rowS [ch, 46] x1 d1 [ch, 46])), .str (strL (rowS [ch, 46] x2 d2 [ch, 46])), .str (strL (rowS [ch, 46] 1 d3 []))]
theorem rows_at {ch : Nat} {x0 x1 x2 d0 d1 d2 d3 : Int} (hx0 : x0 = 0 ∨ x0 = 1) (hx1 : x1 = 0 ∨ x1 = 1) (hx2 : x2 = 0 ∨ x2 = 1) (hd0 : 1 ≤ d0 ∧ d0 ≤ 20) (hd1 : 1 ≤ d1 ∧ d1 ≤ 20) (hd2 : 1 ≤ d2 ∧ d2 ≤ 20) (hd3 : 1 ≤ d3 ∧ d3 ≤ 20) {i : Nat} {u : V}
    (hik : i < 4) (hu : (rowsV ch x0 x1 x2 d0 d1 d2 d3)[i]? = some u) :
    ∃ x d tl, [V.int x0, .int x1, .int x2, .int 1][Int.toNat (i : Int)]? = some (.int x) ∧ [V.int d0, .int d1, .int d2, .int d3][Int.toNat (i : Int)]? = some (.int d) ∧ (tailsV ch)[Int.toNat (i : Int)]? = some (.str (strL tl)) ∧ u = V.str (strL (rowS [ch, 46] x d tl)) ∧ 0 ≤ x ∧ x ≤ 1 ∧ 1 ≤ d ∧ d ≤ 20 ∧ tl.length ≤ 2 := by
  match i, hik, hu with
  | 0, _, hu => cases hu; exact ⟨_, _, _, rfl, rfl, rfl, rfl, by exact om124 hx0 hx1 hx2, by exact om125 hx0 hx1 hx2, hd0.1, hd0.2, by simp⟩
  | 1, _, hu => cases hu; exact ⟨_, _, _, rfl, rfl, rfl, rfl, by exact om126 hx1 hx2, by exact om127 hx1 hx2, hd1.1, hd1.2, by simp⟩
  | 2, _, hu => cases hu; exact ⟨_, _, _, rfl, rfl, rfl, rfl, by exact om128 hx2, by exact om129 hx2, hd2.1, hd2.2, by simp⟩
  | 3, _, hu => cases hu; exact ⟨_, _, _, rfl, rfl, rfl, rfl, by exact om21, by exact om130, hd3.1, hd3.2, by simp⟩
theorem joined_is {a b c d : List Nat} : Builtin.Str.glued (Str.ofString "\r\n") [strL a, strL b, strL c, Str.ofString "", strL d] = strL (a ++ 13 :: 10 :: (b ++ 13 :: 10 :: (c ++ 13 :: 10 :: 13 :: 10 :: d))) := by
  rw [show Str.ofString "\r\n" = strL [13, 10] from by decide +kernel, show Str.ofString "" = strL [] from by decide +kernel]
  unfold Builtin.Str.glued
  simp
theorem join_len {a b c d : List Nat} (ha : a.length ≤ 30) (hb : b.length ≤ 30) (hc : c.length ≤ 30) (hd : d.length ≤ 30) : ([strL a, strL b, strL c, Str.ofString "", strL d] : List Str).toArray.foldl (· + ·.length + (Str.ofString "\r\n").length) 0 ≤ sizeLine := by
  rw [show Str.ofString "\r\n" = strL [13, 10] from by decide +kernel, show Str.ofString "" = strL [] from by decide +kernel]
  have h : (1000 : Nat) ≤ sizeLine := by decide
  rw [List.foldl_toArray]
  show 0 + a.length + 2 + b.length + 2 + c.length + 2 + 0 + 2 + d.length + 2 ≤ sizeLine
  exact om131 ha hb hc hd h
theorem glued_len {a b c d : List Nat} (ha : a.length ≤ 30) (hb : b.length ≤ 30) (hc : c.length ≤ 30) (hd : d.length ≤ 30) : (Builtin.Str.glued (Str.ofString "\r\n") [strL a, strL b, strL c, Str.ofString "", strL d]).length ≤ sizeLine := by
  rw [joined_is]
  show (List.toArray _).size ≤ _
  rw [List.size_toArray]
  simp only [List.length_append, List.length_cons]
  have h : (1000 : Nat) ≤ sizeLine := by decide
  exact om132 ha hb hc hd h
theorem lights_rest {w : World} {A : Around} {s : Shared} {K₀ : Heap} {led : List (Nat × Mo)} {tmp : List (V × Nat)} {n ch : Nat} {k kind : Int} {fa fb fc : UInt64} {x0 x1 x2 d0 d1 d2 d3 : Int} {env : Env} {L cL cT cD cA : Nat} {vp vc vt vr : V} {lv : Option V} {I : Nat × Mo} {qual : Str} {code : Value} {cl : List (Str × Addr)} {sc : Scope} {rest : List Stmt}
    (e : lightsOf (hd.heap_39 w.params) = some (sc, rest)) (hcl : cl = [(("lit" : Str), cL), ("tails", cT), ("dots", cD), ("tail", cA)])
    (EO : EnvOk env sc L cl qual code) (AO : AOk A (n + 9)) (S : Stat (hd.heap_39 w.params) K₀)
    (R : Rep K₀ ((L, Mo.ns [("light", V.tup [.float fa, .float fb, .float fc]), ("p", vp), ("c", vc), ("turns", vt), ("row", vr), ("kind", V.int kind), ("ends", V.lst endsV), ("k", V.int k)]) :: I :: (cL, Mo.cell lv) :: (cT, Mo.cell (some (.lst (tailsV ch)))) :: (cD, Mo.cell (some (.lst [.int d0, .int d1, .int d2, .int d3]))) :: (cA, Mo.cell (some (.str (strL [ch, 46])))) :: led) tmp s.heap)
    (hk0 : 0 ≤ kind + k) (hk1 : kind + k ≤ 100) (hch : ch ≠ 10 ∧ ch ≠ 13 ∧ ch ≠ 46) (hfa : okF fa x0 = true) (hfb : okF fb x1 = true) (hfc : okF fc x2 = true) (hx0 : x0 = 0 ∨ x0 = 1) (hx1 : x1 = 0 ∨ x1 = 1) (hx2 : x2 = 0 ∨ x2 = 1)
    (hd0 : 1 ≤ d0 ∧ d0 ≤ 19) (hd1 : 1 ≤ d1 ∧ d1 ≤ 19) (hd2 : 1 ≤ d2 ∧ d2 ≤ 19) (hd3 : 1 ≤ d3 ∧ d3 ≤ 19) :
    wpAny (model PySem.Challenge.rw_uk0010_01.row.prog w) A (execs rest env) (fun fl s' => fl = .next ∧ ∃ lv' h' tk, Rep K₀ ((L, Mo.ns [("p", vp), ("c", vc), ("turns", vt), ("row", vr), ("kind", V.int kind), ("ends", V.lst endsV), ("k", V.int k)]) :: I :: (cL, Mo.cell lv') :: (cT, Mo.cell (some (.lst (tailsV ch)))) :: (cD, Mo.cell (some (.lst [.int (d0 + x0), .int (d1 + x1), .int (d2 + x2), .int (d3 + 1)]))) :: (cA, Mo.cell (some (.str (strL [ch, 46])))) :: led) tmp h' ∧
      s' = (St s h' tk)) (fun _ _ => False) s := by
  subst hcl
  revert S
  k_fill
  intro S
  refine' inner_is ?e0 e ?_
  case e0 => with_unfolding_all exact rfl
  intro q0
  cases q0
  clear e
  dsimp only [List.drop] at EO ⊢
  ((with_reducible refine wpAny_execs_cons ?_); (refine wpAny_Assign_Name ?_); (with_reducible refine wpAny_BinOp ?_))
  refine' r_listComp EO ?hclos rfl ?hnames ?_ ?hs
  case hclos => exact rfl
  case hs => intro _; rfl
  case hnames => decide
  ((refine' r_loc EO R ?zhv ?_ ?zhx ?zhd; (case zhx => exact rfl); (case zhv => exact rfl); (case zhd => decide); clear R; intro _ R))
  show wpAny _ _ (pyIter (.ref _)) _ _ _
  refine' r_compT AO EO R ?hm (outs := [.int x0, .int x1, .int x2]) ?g1 ?g2 ?hcell rfl ?hx ?turn ?_
  case hm => exact List.mem_cons_self
  case g1 => rfl
  case g2 => exact of_decide_eq_true rfl
  case hcell => decide
  case hx => rfl
  case turn =>
    clear R
    intro J C D i v u t s E' hi hu EO R
    obtain ⟨f, x, rfl, rfl, hf1, hf2, hf3, hf4⟩ := pick3 (g := id) hfa hfb hfc hi hu
    ((refine Call_ ?_); (refine' r_bi EO S R ?ze ?zhv ?_ ?zhn ?zhx ?zhd; (case zhx => exact rfl); (case ze => k_is); (case zhv => boot_fast); (case zhn => decide); (case zhd => decide)); (refine callWith_method1 ?_); (refine wpAny_items_cons ?_); (refine' r_locS EO R ?zhv ?zhf ?_ ?zhx ?zhd; (case zhx => exact rfl); (case zhv => exact rfl); (case zhf => exact rfl); (case zhd => decide); intro _); (with_reducible refine wpAny_items_nil ?_); (refine' r_round AO ?zhb ?_; (case zhb => assumption); intro _ _))
    exact ⟨_, _, _, Bear.intE hf3, fun q hq => by (repeat (with_reducible first | assumption | exact List.mem_cons_self | refine List.mem_cons_of_mem _ ?_)), R, rfl⟩
  clear R
  intro C D l h' tk R0
  refine compEnd R0 fun h' R => ?_
  clear R0
  (first | show wpAny _ _ _ _ _ (St s h' _) | show wpAny _ _ _ _ _ (St s _ _) | show codeAny _ _ _ _ (St s _ _) | show ite _ (wpAny _ _ _ _ _ (St s _ _)) (wpAny _ _ _ _ _ (St s _ _)))
  ((with_reducible refine List_ ?_); (refine wpAny_items_cons ?_); (with_reducible refine q_cint ?_); (with_reducible refine wpAny_items_nil ?_); (refine' r_newList R ?zhv ?_ ?zhs; (case zhv => (repeat (first | exact Bears.nil | (apply Bears.cons; (with_reducible first | exact Bear.int | exact Bear.float | exact Bear.str | exact Bear.bool | exact Bear.none | (refine' Bear.tup ?zb3; (case zb3 => (repeat (with_reducible first | exact List.mem_cons_self | refine List.mem_cons_of_mem _ ?_)))) | (refine' Bear.lst ?zb3; (case zb3 => (repeat (with_reducible first | exact List.mem_cons_self | refine List.mem_cons_of_mem _ ?_)))) | exact Bear.raw))))); (case zhs => exact of_decide_eq_true (by rfl)); clear R; intro _ h' R; (try (first | show wpAny _ _ _ _ _ (St s h' _) | show wpAny _ _ _ _ _ (St s _ _) | show codeAny _ _ _ _ (St s _ _) | show ite _ (wpAny _ _ _ _ _ (St s _ _)) (wpAny _ _ _ _ _ (St s _ _))))); (refine' r_addL R ?zha ?zhb ?zhl ?_; (case zha => exact LAt.ofTmp (by (repeat (with_reducible first | assumption | exact List.mem_cons_self | refine List.mem_cons_of_mem _ ?_)))); (case zhb => exact LAt.ofTmp (by (repeat (with_reducible first | assumption | exact List.mem_cons_self | refine List.mem_cons_of_mem _ ?_)))); (case zhl => first | exact of_decide_eq_true rfl | omega); clear R; intro _ h' R; (try (first | show wpAny _ _ _ _ _ (St s h' _) | show wpAny _ _ _ _ _ (St s _ _) | show codeAny _ _ _ _ (St s _ _) | show ite _ (wpAny _ _ _ _ _ (St s _ _)) (wpAny _ _ _ _ _ (St s _ _))))))
  show wpAny _ _ (storeName env _ (.ref _)) _ _ _
  replace R := Rep.up2 R
  refine' r_storeC1 EO R ?hx ?hc (v := .lst [.int x0, .int x1, .int x2, .int 1]) ?hb ?_
  case hx => rfl
  case hc => rfl
  case hb => exact Bear.lst (show (V.lst ([.int x0, .int x1, .int x2] ++ [.int 1]), _) ∈ _ from List.mem_cons_self)
  clear R; intro h' R
  replace R := Rep.tmps tmp (Rep.dn2 R) (fun q hq => by (repeat (with_reducible first | assumption | exact List.mem_cons_self | refine List.mem_cons_of_mem _ ?_)))
  (first | show wpAny _ _ _ _ _ (St s h' _) | show wpAny _ _ _ _ _ (St s _ _) | show codeAny _ _ _ _ (St s _ _) | show ite _ (wpAny _ _ _ _ _ (St s _ _)) (wpAny _ _ _ _ _ (St s _ _)))
  ((with_reducible refine wpAny_execs_cons ?_); (with_reducible refine wpAny_If ?_); (with_reducible refine wpAny_isTrue_Compare1 ?_))
  -- the check
  refine' r_listComp EO ?hclos rfl ?hnames ?_ ?hs
  case hclos => exact rfl
  case hs => intro _; rfl
  case hnames => decide
  ((refine' r_loc EO R ?zhv ?_ ?zhx ?zhd; (case zhx => exact rfl); (case zhv => exact rfl); (case zhd => decide); clear R; intro _ R))
  show wpAny _ _ (pyIter (.ref _)) _ _ _
  refine' r_compT AO EO R ?hm (outs := [.int (10 ^ 6 * x0), .int (10 ^ 6 * x1), .int (10 ^ 6 * x2)]) ?g1 ?g2 ?hcell rfl ?hx ?turn ?_
  case hm => exact List.mem_cons_self
  case g1 => rfl
  case g2 => exact of_decide_eq_true rfl
  case hcell => decide
  case hx => rfl
  case turn =>
    clear R
    intro J C D i v u t s E' hi hu EO R
    obtain ⟨f, x, rfl, rfl, hf1, hf2, hf3, hf4⟩ := pick3 (g := fun x => 10 ^ 6 * x) hfa hfb hfc hi hu
    have pwE : (10 : Int) ^ Int.toNat 6 = 10 ^ 6 := rfl
    ((refine Call_ ?_); (refine' r_bi EO S R ?ze ?zhv ?_ ?zhn ?zhx ?zhd; (case zhx => exact rfl); (case ze => k_is); (case zhv => boot_fast); (case zhn => decide); (case zhd => decide)); (refine callWith_method1 ?_); (refine wpAny_items_cons ?_); (with_reducible refine wpAny_BinOp ?_); (with_reducible refine wpAny_BinOp ?_); (with_reducible refine q_cint ?_); (with_reducible refine q_cint ?_); (refine' r_powE ?zhe ?zh0 ?zhk ?zha ?_; (case zhe => with_reducible first | exact pwE | exact pwE2 | exact pwE3 | exact rfl); (case zh0 => exact om133); (case zhk => exact om134); (case zha => exact om135); intro _ _); (refine' r_locS EO R ?zhv ?zhf ?_ ?zhx ?zhd; (case zhx => exact rfl); (case zhv => exact rfl); (case zhf => exact rfl); (case zhd => decide); intro _); (refine' r_mulif AO ?zhb ?_; (case zhb => (first | exact om136 | assumption | decide)); intro _ _); (with_reducible refine wpAny_items_nil ?_); (refine' r_round AO ?zhb ?_; (case zhb => assumption); intro _ _))
    exact ⟨_, _, _, Bear.intE hf4, fun q hq => by (repeat (with_reducible first | assumption | exact List.mem_cons_self | refine List.mem_cons_of_mem _ ?_)), R, rfl⟩
  clear R
  intro C D l h' tk R0
  refine compEnd R0 fun h' R => ?_
  clear R0
  (first | show wpAny _ _ _ _ _ (St s h' _) | show wpAny _ _ _ _ _ (St s _ _) | show codeAny _ _ _ _ (St s _ _) | show ite _ (wpAny _ _ _ _ _ (St s _ _)) (wpAny _ _ _ _ _ (St s _ _)))
  skip
  refine' r_listComp EO ?hclos rfl ?hnames ?_ ?hs
  case hclos => exact rfl
  case hs => intro _; rfl
  case hnames => decide
  ((refine Call_ ?_); (refine' r_bi EO S R ?ze ?zhv ?_ ?zhn ?zhx ?zhd; (case zhx => exact rfl); (case ze => k_is); (case zhv => boot_fast); (case zhn => decide); (case zhd => decide)); (refine Pv.callWith_type1 ?_); (refine wpAny_items_cons ?_); (with_reducible refine q_cint ?_); (with_reducible refine wpAny_items_nil ?_))
  show wpAny _ _ (call (.type "range") [.int 3 _]) _ _ _
  refine' r_range1 R ?_
  clear R; intro r h' tk2 t u v R
  (first | show wpAny _ _ _ _ _ (St s h' _) | show wpAny _ _ _ _ _ (St s _ _) | show codeAny _ _ _ _ (St s _ _) | show ite _ (wpAny _ _ _ _ _ (St s _ _)) (wpAny _ _ _ _ _ (St s _ _)))
  refine' r_compR AO EO R (k := 3) (outs := [.int (10 ^ 6 * x0), .int (10 ^ 6 * x1), .int (10 ^ 6 * x2)]) ?g1 ?g2 ?g3 ?g4 ?g5 ?hcell rfl ?hx ?turn ?_
  case g1 => decide
  case g2 => decide
  case g3 => decide
  case g4 => rfl
  case g5 => decide
  case hcell => decide
  case hx => rfl
  case turn =>
    clear R
    intro J C D i v u t s E' hi hu EO R
    obtain ⟨hik, rfl⟩ := rangeV_get hi
    have hi0 : (0 : Int) + (i : Int) = i := Int.zero_add _
    rw [hi0] at R
    obtain ⟨x, hx, rfl⟩ : ∃ x, [V.int x0, .int x1, .int x2, .int 1][Int.toNat (i : Int)]? = some (.int x) ∧ u = .int (10 ^ 6 * x) := by
      match i, hik, hu with
      | 0, _, hu => cases hu; exact ⟨_, rfl, rfl⟩
      | 1, _, hu => cases hu; exact ⟨_, rfl, rfl⟩
      | 2, _, hu => cases hu; exact ⟨_, rfl, rfl⟩
    have pwE : (10 : Int) ^ Int.toNat 6 = 10 ^ 6 := rfl
    have hmo : IntMulOk (10 ^ 6) x := IntMulOk.of_left (bits_le (by decide))
    ((with_reducible refine wpAny_BinOp ?_); (with_reducible refine wpAny_BinOp ?_); (with_reducible refine q_cint ?_); (with_reducible refine q_cint ?_); (refine' r_powE ?zhe ?zh0 ?zhk ?zha ?_; (case zhe => with_reducible first | exact pwE | exact pwE2 | exact pwE3 | exact rfl); (case zh0 => exact om133); (case zhk => exact om134); (case zha => exact om135); intro _ _); (refine Subscript_ ?_); (refine' r_cell EO R ?zhc ?zhm ?_ ?zhx ?zhd ?zhn; (case zhx => (first | exact Or.inl rfl | exact Or.inr rfl)); (case zhc => first | assumption | exact rfl); (case zhm => (repeat (with_reducible first | assumption | exact List.mem_cons_self | refine List.mem_cons_of_mem _ ?_))); (case zhd => decide); (case zhn => decide); clear R; intro _ R); (refine' r_locS EO R ?zhv ?zhf ?_ ?zhx ?zhd; (case zhx => exact rfl); (case zhv => exact rfl); (case zhf => exact rfl); (case zhd => decide); intro _); (refine' r_itemL R ?zhm ?zi1 ?zi2 ?zhv ?_ ?zhs; (case zhm => (repeat (with_reducible first | assumption | exact List.mem_cons_self | refine List.mem_cons_of_mem _ ?_))); (case zhs => with_unfolding_all rfl); (case zhv => first | with_reducible assumption | exact rfl); (case zi1 => exact om122 hik); (case zi2 => exact om123 hik); clear R; intro _ R); (refine' r_mul ?zhe ?zhm ?_; (case zhe => with_reducible first | exact muE | exact muE2 | exact rfl); (case zhm => first | assumption | mul_fits); intro _ _))
    replace R := Rep.loc [("i", V.int (0 + (i : Int)))] R ⟨by rw [hi0]; rfl, trivial⟩
    exact ⟨_, _, _, Bear.int, fun q hq => by (repeat (with_reducible first | assumption | exact List.mem_cons_self | refine List.mem_cons_of_mem _ ?_)), R, rfl⟩
  clear R
  intro C D l h' tk R0
  refine compEnd R0 fun h' R => ?_
  clear R0
  (first | show wpAny _ _ _ _ _ (St s h' _) | show wpAny _ _ _ _ _ (St s _ _) | show codeAny _ _ _ _ (St s _ _) | show ite _ (wpAny _ _ _ _ _ (St s _ _)) (wpAny _ _ _ _ _ (St s _ _)))
  skip
  refine r_neSame (xs := [10 ^ 6 * x0, 10 ^ 6 * x1, 10 ^ 6 * x2]) AO R (LAt.ofTmp (show (V.lst [.int (10 ^ 6 * x0), .int (10 ^ 6 * x1), .int (10 ^ 6 * x2)], _) ∈ _ by (repeat (with_reducible first | assumption | exact List.mem_cons_self | refine List.mem_cons_of_mem _ ?_)))) (LAt.ofTmp (show (V.lst [.int (10 ^ 6 * x0), .int (10 ^ 6 * x1), .int (10 ^ 6 * x2)], _) ∈ _ by (repeat (with_reducible first | assumption | exact List.mem_cons_self | refine List.mem_cons_of_mem _ ?_)))) ?_
  replace R := Rep.tmps tmp R (fun q hq => by (repeat (with_reducible first | assumption | exact List.mem_cons_self | refine List.mem_cons_of_mem _ ?_)))
  ((with_reducible refine wpAny_truthy_bool ?_); (refine PySem.W.ite_neg (by (first | (with_reducible exact Bool.false_ne_true) | (simp only [decide_eq_true_eq, beq_iff_eq, bne_iff_ne, ne_eq, Bool.false_eq_true, not_false_eq_true]; first | done | assumption | omega) | omega)) ?_); (with_reducible refine wpAny_execs_nil ?_); (with_reducible refine wpAny_execs_cons ?_))
  -- rows
  refine' r_asgComp EO ?hsw ?hclos rfl ?hnames ?_ ?hs
  case hsw => exact rfl
  case hclos => exact rfl
  case hs => intro _; rfl
  case hnames => decide
  ((refine Call_ ?_); (refine' r_bi EO S R ?ze ?zhv ?_ ?zhn ?zhx ?zhd; (case zhx => exact rfl); (case ze => k_is); (case zhv => boot_fast); (case zhn => decide); (case zhd => decide)); (refine Pv.callWith_type1 ?_); (refine wpAny_items_cons ?_); (with_reducible refine q_cint ?_); (with_reducible refine wpAny_items_nil ?_))
  show wpAny _ _ (call (.type "range") [.int 4 _]) _ _ _
  refine' r_range1 R ?_
  clear R; intro r h' tk2 t u v R
  (first | show wpAny _ _ _ _ _ (St s h' _) | show wpAny _ _ _ _ _ (St s _ _) | show codeAny _ _ _ _ (St s _ _) | show ite _ (wpAny _ _ _ _ _ (St s _ _)) (wpAny _ _ _ _ _ (St s _ _)))
  refine' r_compR AO EO R (k := 4) (outs := rowsV ch x0 x1 x2 d0 d1 d2 d3) ?g1 ?g2 ?g3 ?g4 ?g5 ?hcell rfl ?hx ?turn ?_
  case g1 => decide
  case g2 => decide
  case g3 => decide
  case g4 => rfl
  case g5 => decide
  case hcell => decide
  case hx => rfl
  case turn =>
    clear R
    intro J C D i v u t s E' hi hu EO R
    obtain ⟨hik, rfl⟩ := rangeV_get hi
    have hi0 : (0 : Int) + (i : Int) = i := Int.zero_add _
    rw [hi0] at R
    obtain ⟨x, d, tl, hx, hd, ht, rfl, b1, b2, b3, b4, b5⟩ := rows_at hx0 hx1 hx2 ⟨hd0.1, by exact om137 hd0⟩ ⟨hd1.1, by exact om137 hd1⟩ ⟨hd2.1, by exact om137 hd2⟩ ⟨hd3.1, by exact om137 hd3⟩ hik hu
    ((with_reducible refine wpAny_BinOp ?_); (with_reducible refine wpAny_BinOp ?_); (with_reducible refine wpAny_BinOp ?_); (refine' r_cellS EO R ?zhx ?zhc ?zhm ?zhf ?_ ?zhd ?zhn; (case zhx => (first | exact Or.inl rfl | exact Or.inr rfl)); (case zhc => first | assumption | exact rfl); (case zhm => (repeat (with_reducible first | assumption | exact List.mem_cons_self | refine List.mem_cons_of_mem _ ?_))); (case zhf => exact rfl); (case zhd => decide); (case zhn => decide); intro _); (with_reducible refine wpAny_BinOp ?_); (with_reducible refine q_cint ?_); (refine Subscript_ ?_); (refine' r_cell EO R ?zhc ?zhm ?_ ?zhx ?zhd ?zhn; (case zhx => (first | exact Or.inl rfl | exact Or.inr rfl)); (case zhc => first | assumption | exact rfl); (case zhm => (repeat (with_reducible first | assumption | exact List.mem_cons_self | refine List.mem_cons_of_mem _ ?_))); (case zhd => decide); (case zhn => decide); clear R; intro _ R); (refine' r_locS EO R ?zhv ?zhf ?_ ?zhx ?zhd; (case zhx => exact rfl); (case zhv => exact rfl); (case zhf => exact rfl); (case zhd => decide); intro _); (refine' r_itemL R ?zhm ?zi1 ?zi2 ?zhv ?_ ?zhs; (case zhm => (repeat (with_reducible first | assumption | exact List.mem_cons_self | refine List.mem_cons_of_mem _ ?_))); (case zhs => with_unfolding_all rfl); (case zhv => first | with_reducible assumption | exact rfl); (case zi1 => exact om138 hik); (case zi2 => exact om139 hik); clear R; intro _ R); (with_reducible refine q_subi ?_); (refine' r_strMulE ?zex ?zh1 ?zh2 ?zh3 ?_; (case zex => with_reducible first | exact sDotL | exact strL_toList _); (case zh1 => exact om140 b1 b2); (case zh2 => exact om141 b1 b2); (case zh3 => first | exact of_decide_eq_true rfl | omega); intro _ _); (with_reducible refine wpAny_BinOp ?_); (with_reducible refine q_cstr ?_); (refine Subscript_ ?_); (refine' r_cell EO R ?zhc ?zhm ?_ ?zhx ?zhd ?zhn; (case zhx => (first | exact Or.inl rfl | exact Or.inr rfl)); (case zhc => first | assumption | exact rfl); (case zhm => (repeat (with_reducible first | assumption | exact List.mem_cons_self | refine List.mem_cons_of_mem _ ?_))); (case zhd => decide); (case zhn => decide); clear R; intro _ R); (refine' r_locS EO R ?zhv ?zhf ?_ ?zhx ?zhd; (case zhx => exact rfl); (case zhv => exact rfl); (case zhf => exact rfl); (case zhd => decide); intro _); (refine' r_itemL R ?zhm ?zi1 ?zi2 ?zhv ?_ ?zhs; (case zhm => (repeat (with_reducible first | assumption | exact List.mem_cons_self | refine List.mem_cons_of_mem _ ?_))); (case zhs => with_unfolding_all rfl); (case zhv => first | with_reducible assumption | exact rfl); (case zi1 => exact om138 hik); (case zi2 => exact om139 hik); clear R; intro _ R); (refine' r_strMulE ?zex ?zh1 ?zh2 ?zh3 ?_; (case zex => with_reducible first | exact sDotL | exact strL_toList _); (case zh1 => exact om142 b3 b4); (case zh2 => exact om143 b3 b4); (case zh3 => first | exact of_decide_eq_true rfl | omega); intro _ _); (refine' r_strAddE ?zex ?zey ?zh3 ?_; (case zex => exact strL_toList _); (case zey => exact strL_toList _); (case zh3 => ((try simp only [rep_len, List.length_append, List.length_cons, List.length_nil]); exact om144 b1 b2 b3 b4)); intro _ _); (refine Subscript_ ?_); (refine' r_cell EO R ?zhc ?zhm ?_ ?zhx ?zhd ?zhn; (case zhx => (first | exact Or.inl rfl | exact Or.inr rfl)); (case zhc => first | assumption | exact rfl); (case zhm => (repeat (with_reducible first | assumption | exact List.mem_cons_self | refine List.mem_cons_of_mem _ ?_))); (case zhd => decide); (case zhn => decide); clear R; intro _ R); (refine' r_locS EO R ?zhv ?zhf ?_ ?zhx ?zhd; (case zhx => exact rfl); (case zhv => exact rfl); (case zhf => exact rfl); (case zhd => decide); intro _); (refine' r_itemL R ?zhm ?zi1 ?zi2 ?zhv ?_ ?zhs; (case zhm => (repeat (with_reducible first | assumption | exact List.mem_cons_self | refine List.mem_cons_of_mem _ ?_))); (case zhs => with_unfolding_all rfl); (case zhv => first | with_reducible assumption | exact rfl); (case zi1 => exact om138 hik); (case zi2 => exact om139 hik); clear R; intro _ R); (refine' r_strAddE ?zex ?zey ?zh3 ?_; (case zex => exact strL_toList _); (case zey => exact strL_toList _); (case zh3 => ((try simp only [rep_len, List.length_append, List.length_cons, List.length_nil]); exact om145 b1 b2 b3 b4 b5)); intro _ _))
    replace R := Rep.loc [("i", V.int (0 + (i : Int)))] R ⟨by rw [hi0]; rfl, trivial⟩
    exact ⟨_, _, _, Bear.strE rfl, fun q hq => by (repeat (with_reducible first | assumption | exact List.mem_cons_self | refine List.mem_cons_of_mem _ ?_)), R, rfl⟩
  clear R
  intro C D l h' tk R0
  refine compEndA EO R0 ?hy fun h' tk' R => ?_
  case hy => rfl
  clear R0
  (first | show wpAny _ _ _ _ _ (St s h' _) | show wpAny _ _ _ _ _ (St s _ _) | show codeAny _ _ _ _ (St s _ _) | show ite _ (wpAny _ _ _ _ _ (St s _ _)) (wpAny _ _ _ _ _ (St s _ _)))
  obtain ⟨j, hj⟩ : ∃ j : Nat, (kind + k).fmod 3 = j := ⟨((kind + k).fmod 3).toNat, by have := Int.fmod_nonneg_of_pos (kind + k) (show (0 : Int) < 3 by decide); exact om2 this⟩
  have hj3 : j < 3 := by have := Int.fmod_lt_of_pos (kind + k) (show (0 : Int) < 3 by decide); exact om146 hj this
  have hej : ∀ i : Nat, i < 3 → endsV[i]? = some (.str (strL (endL i))) := fun i hi => by
    match i, hi with
    | 0, _ => rfl
    | 1, _ => rfl
    | 2, _ => rfl
  have hel : ∀ i : Nat, (endL i).length ≤ 2 := fun i => by unfold endL; split <;> simp
  have hj1 : (kind + k + 1).fmod 3 = (((j + 1) % 3 : Nat) : Int) := by
    rw [Int.fmod_eq_emod_of_nonneg _ (by decide)] at hj ⊢; exact om147 hj
  have hj2 : (kind + k + 2).fmod 3 = (((j + 2) % 3 : Nat) : Int) := by
    rw [Int.fmod_eq_emod_of_nonneg _ (by decide)] at hj ⊢; exact om148 hj hj1
  have he0 : endsV[((kind + k).fmod 3).toNat]? = some (.str (strL (endL j))) := by rw [hj, Int.toNat_natCast]; exact hej j hj3
  have he1 : endsV[((kind + k + 1).fmod 3).toNat]? = some (.str (strL (endL ((j + 1) % 3)))) := by rw [hj1, Int.toNat_natCast]; exact hej _ (Nat.mod_lt _ (by decide))
  have he2 : endsV[((kind + k + 2).fmod 3).toNat]? = some (.str (strL (endL ((j + 2) % 3)))) := by rw [hj2, Int.toNat_natCast]; exact hej _ (Nat.mod_lt _ (by decide))
  have hl0 := hel j
  have hl1 := hel ((j + 1) % 3)
  have hl2 := hel ((j + 2) % 3)
  have hr0 : (rowS [ch, 46] x0 d0 [ch, 46]).length ≤ 30 := rowS_length (by simp) (by simp) (by exact om124 hx0 hx1 hx2) (by exact om137 hd0)
  have hr1 : (rowS [ch, 46] x1 d1 [ch, 46]).length ≤ 30 := rowS_length (by simp) (by simp) (by exact om126 hx1 hx2) (by exact om137 hd1)
  have hr2 : (rowS [ch, 46] x2 d2 [ch, 46]).length ≤ 30 := rowS_length (by simp) (by simp) (by exact om128 hx2) (by exact om137 hd2)
  have hr3 : (rowS [ch, 46] 1 d3 []).length ≤ 30 := rowS_length (by simp) (by simp) (by exact om21) (by exact om137 hd3)
  ((with_reducible refine wpAny_execs_cons ?_); (refine wpAny_Assign_Name ?_); (with_reducible refine wpAny_BinOp ?_); (with_reducible refine wpAny_BinOp ?_); (with_reducible refine wpAny_BinOp ?_); (refine Subscript_ ?_); (refine' r_loc EO R ?zhv ?_ ?zhx ?zhd; (case zhx => exact rfl); (case zhv => exact rfl); (case zhd => decide); clear R; intro _ R); (with_reducible refine q_cint ?_); (refine' r_itemL R ?zhm ?zi1 ?zi2 ?zhv ?_ ?zhs; (case zhm => (repeat (with_reducible first | assumption | exact List.mem_cons_self | refine List.mem_cons_of_mem _ ?_))); (case zhs => with_unfolding_all rfl); (case zhv => first | with_reducible assumption | exact rfl); (case zi1 => exact om110); (case zi2 => exact om111); clear R; intro _ R); (refine Subscript_ ?_); (refine' r_loc EO R ?zhv ?_ ?zhx ?zhd; (case zhx => exact rfl); (case zhv => exact rfl); (case zhd => decide); clear R; intro _ R); (with_reducible refine wpAny_BinOp ?_); (refine r_ev EO AO R ?_; ((repeat (refine And.intro ?zc ?_; (case zc => (first | assumption | (with_unfolding_all decide +kernel) | omega)))); intro _ _)); (with_reducible refine q_cint ?_); (refine' q_modi (b := _) ?zhb ?_; (case zhb => (first | exact om58 | assumption | decide))); (refine' r_itemL R ?zhm ?zi1 ?zi2 ?zhv ?_ ?zhs; (case zhm => (repeat (with_reducible first | assumption | exact List.mem_cons_self | refine List.mem_cons_of_mem _ ?_))); (case zhs => with_unfolding_all rfl); (case zhv => first | with_reducible assumption | exact rfl); (case zi1 => exact om149 hj hj3 hj1 hj2); (case zi2 => exact om150 hj hj3 hj1 hj2); clear R; intro _ R); (refine' r_strAddE ?zex ?zey ?zh3 ?_; (case zex => exact strL_toList _); (case zey => exact strL_toList _); (case zh3 => ((try simp only [rep_len, List.length_append, List.length_cons, List.length_nil]); exact om151 hl0 hr0)); intro _ _); (refine Subscript_ ?_); (refine' r_loc EO R ?zhv ?_ ?zhx ?zhd; (case zhx => exact rfl); (case zhv => exact rfl); (case zhd => decide); clear R; intro _ R); (with_reducible refine q_cint ?_); (refine' r_itemL R ?zhm ?zi1 ?zi2 ?zhv ?_ ?zhs; (case zhm => (repeat (with_reducible first | assumption | exact List.mem_cons_self | refine List.mem_cons_of_mem _ ?_))); (case zhs => with_unfolding_all rfl); (case zhv => first | with_reducible assumption | exact rfl); (case zi1 => exact om21); (case zi2 => exact om22); clear R; intro _ R); (refine' r_strAddE ?zex ?zey ?zh3 ?_; (case zex => exact strL_toList _); (case zey => exact strL_toList _); (case zh3 => ((try simp only [rep_len, List.length_append, List.length_cons, List.length_nil]); exact om152 hl0 hr0 hr1)); intro _ _); (refine Subscript_ ?_); (refine' r_loc EO R ?zhv ?_ ?zhx ?zhd; (case zhx => exact rfl); (case zhv => exact rfl); (case zhd => decide); clear R; intro _ R); (with_reducible refine wpAny_BinOp ?_); (refine r_ev EO AO R ?_; ((repeat (refine And.intro ?zc ?_; (case zc => (first | assumption | (with_unfolding_all decide +kernel) | omega)))); intro _ _)); (with_reducible refine q_cint ?_); (refine' q_modi (b := _) ?zhb ?_; (case zhb => (first | exact om58 | assumption | decide))); (refine' r_itemL R ?zhm ?zi1 ?zi2 ?zhv ?_ ?zhs; (case zhm => (repeat (with_reducible first | assumption | exact List.mem_cons_self | refine List.mem_cons_of_mem _ ?_))); (case zhs => with_unfolding_all rfl); (case zhv => first | with_reducible assumption | exact rfl); (case zi1 => exact om153 hj1 hj2); (case zi2 => exact om154 hj1 hj2); clear R; intro _ R); (refine' r_strAddE ?zex ?zey ?zh3 ?_; (case zex => exact strL_toList _); (case zey => exact strL_toList _); (case zh3 => ((try simp only [rep_len, List.length_append, List.length_cons, List.length_nil]); exact om155 hl0 hl1 hr0 hr1)); intro _ _); (refine' r_store EO R ?zhx ?zhv ?_; (case zhx => exact rfl); (case zhv => (with_reducible first | exact Bear.int | exact Bear.float | exact Bear.str | exact Bear.bool | exact Bear.none | (refine' Bear.tup ?zb3; (case zb3 => (repeat (with_reducible first | exact List.mem_cons_self | refine List.mem_cons_of_mem _ ?_)))) | (refine' Bear.lst ?zb3; (case zb3 => (repeat (with_reducible first | exact List.mem_cons_self | refine List.mem_cons_of_mem _ ?_)))) | exact Bear.raw)); clear R; intro h' _ R; (try (first | show wpAny _ _ _ _ _ (St s h' _) | show wpAny _ _ _ _ _ (St s _ _) | show codeAny _ _ _ _ (St s _ _) | show ite _ (wpAny _ _ _ _ _ (St s _ _)) (wpAny _ _ _ _ _ (St s _ _))))); (with_reducible refine wpAny_execs_cons ?_); (refine wpAny_Assign_Name ?_); (with_reducible refine wpAny_BinOp ?_); (with_reducible refine wpAny_BinOp ?_); (with_reducible refine wpAny_BinOp ?_); (with_reducible refine wpAny_BinOp ?_); (refine' r_locS EO R ?zhv ?zhf ?_ ?zhx ?zhd; (case zhx => exact rfl); (case zhv => exact rfl); (case zhf => exact rfl); (case zhd => decide); intro _); (refine Subscript_ ?_); (refine' r_loc EO R ?zhv ?_ ?zhx ?zhd; (case zhx => exact rfl); (case zhv => exact rfl); (case zhd => decide); clear R; intro _ R); (with_reducible refine q_cint ?_); (refine' r_itemL R ?zhm ?zi1 ?zi2 ?zhv ?_ ?zhs; (case zhm => (repeat (with_reducible first | assumption | exact List.mem_cons_self | refine List.mem_cons_of_mem _ ?_))); (case zhs => with_unfolding_all rfl); (case zhv => first | with_reducible assumption | exact rfl); (case zi1 => exact om156); (case zi2 => exact om157); clear R; intro _ R); (refine' r_strAddE ?zex ?zey ?zh3 ?_; (case zex => exact strL_toList _); (case zey => exact strL_toList _); (case zh3 => ((try simp only [rep_len, List.length_append, List.length_cons, List.length_nil]); exact om158 hl0 hl1 hr0 hr1 hr2)); intro _ _); (refine Subscript_ ?_); (refine' r_loc EO R ?zhv ?_ ?zhx ?zhd; (case zhx => exact rfl); (case zhv => exact rfl); (case zhd => decide); clear R; intro _ R); (with_reducible refine wpAny_BinOp ?_); (refine r_ev EO AO R ?_; ((repeat (refine And.intro ?zc ?_; (case zc => (first | assumption | (with_unfolding_all decide +kernel) | omega)))); intro _ _)); (with_reducible refine q_cint ?_); (refine' q_modi (b := _) ?zhb ?_; (case zhb => (first | exact om58 | assumption | decide))); (refine' r_itemL R ?zhm ?zi1 ?zi2 ?zhv ?_ ?zhs; (case zhm => (repeat (with_reducible first | assumption | exact List.mem_cons_self | refine List.mem_cons_of_mem _ ?_))); (case zhs => with_unfolding_all rfl); (case zhv => first | with_reducible assumption | exact rfl); (case zi1 => exact om159 hj1 hj2); (case zi2 => exact om160 hj1 hj2); clear R; intro _ R); (refine' r_strAddE ?zex ?zey ?zh3 ?_; (case zex => exact strL_toList _); (case zey => exact strL_toList _); (case zh3 => ((try simp only [rep_len, List.length_append, List.length_cons, List.length_nil]); exact om161 hl0 hl1 hl2 hr0 hr1 hr2)); intro _ _); (refine Subscript_ ?_); (refine' r_loc EO R ?zhv ?_ ?zhx ?zhd; (case zhx => exact rfl); (case zhv => exact rfl); (case zhd => decide); clear R; intro _ R); (with_reducible refine wpAny_BinOp ?_); (refine r_ev EO AO R ?_; ((repeat (refine And.intro ?zc ?_; (case zc => (first | assumption | (with_unfolding_all decide +kernel) | omega)))); intro _ _)); (with_reducible refine q_cint ?_); (refine' q_modi (b := _) ?zhb ?_; (case zhb => (first | exact om58 | assumption | decide))); (refine' r_itemL R ?zhm ?zi1 ?zi2 ?zhv ?_ ?zhs; (case zhm => (repeat (with_reducible first | assumption | exact List.mem_cons_self | refine List.mem_cons_of_mem _ ?_))); (case zhs => with_unfolding_all rfl); (case zhv => first | with_reducible assumption | exact rfl); (case zi1 => exact om149 hj hj3 hj1 hj2); (case zi2 => exact om150 hj hj3 hj1 hj2); clear R; intro _ R); (refine' r_strAddE ?zex ?zey ?zh3 ?_; (case zex => exact strL_toList _); (case zey => exact strL_toList _); (case zh3 => ((try simp only [rep_len, List.length_append, List.length_cons, List.length_nil]); exact om162 hl0 hl1 hl2 hr0 hr1 hr2)); intro _ _); (refine Subscript_ ?_); (refine' r_loc EO R ?zhv ?_ ?zhx ?zhd; (case zhx => exact rfl); (case zhv => exact rfl); (case zhd => decide); clear R; intro _ R); (with_reducible refine q_cint ?_); (refine' r_itemL R ?zhm ?zi1 ?zi2 ?zhv ?_ ?zhs; (case zhm => (repeat (with_reducible first | assumption | exact List.mem_cons_self | refine List.mem_cons_of_mem _ ?_))); (case zhs => with_unfolding_all rfl); (case zhv => first | with_reducible assumption | exact rfl); (case zi1 => exact om163); (case zi2 => exact om164); clear R; intro _ R); (refine' r_strAddE ?zex ?zey ?zh3 ?_; (case zex => exact strL_toList _); (case zey => exact strL_toList _); (case zh3 => ((try simp only [rep_len, List.length_append, List.length_cons, List.length_nil]); exact om165 hl0 hl1 hl2 hr0 hr1 hr2 hr3)); intro _ _); (refine' r_store EO R ?zhx ?zhv ?_; (case zhx => exact rfl); (case zhv => (with_reducible first | exact Bear.int | exact Bear.float | exact Bear.str | exact Bear.bool | exact Bear.none | (refine' Bear.tup ?zb3; (case zb3 => (repeat (with_reducible first | exact List.mem_cons_self | refine List.mem_cons_of_mem _ ?_)))) | (refine' Bear.lst ?zb3; (case zb3 => (repeat (with_reducible first | exact List.mem_cons_self | refine List.mem_cons_of_mem _ ?_)))) | exact Bear.raw)); clear R; intro h' _ R; (try (first | show wpAny _ _ _ _ _ (St s h' _) | show wpAny _ _ _ _ _ (St s _ _) | show codeAny _ _ _ _ (St s _ _) | show ite _ (wpAny _ _ _ _ _ (St s _ _)) (wpAny _ _ _ _ _ (St s _ _))))); (with_reducible refine wpAny_execs_cons ?_))
  replace R := Rep.loc [("mail", V.str (strL (mailL (rowS [ch, 46] x0 d0 [ch, 46]) (rowS [ch, 46] x1 d1 [ch, 46]) (rowS [ch, 46] x2 d2 [ch, 46]) (rowS [ch, 46] 1 d3 []) j ((j + 1) % 3) ((j + 2) % 3)))), ("p", vp), ("c", vc), ("turns", vt), ("row", vr), ("kind", V.int kind), ("ends", V.lst endsV), ("k", V.int k)] R ⟨rfl, rfl, rfl, rfl, rfl, rfl, rfl, rfl, trivial⟩
  replace R := Rep.tmps tmp R (fun q hq => by (repeat (with_reducible first | assumption | exact List.mem_cons_self | refine List.mem_cons_of_mem _ ?_)))
  (first | show wpAny _ _ _ _ _ (St s h' _) | show wpAny _ _ _ _ _ (St s _ _) | show codeAny _ _ _ _ (St s _ _) | show ite _ (wpAny _ _ _ _ _ (St s _ _)) (wpAny _ _ _ _ _ (St s _ _)))
  refine' wpAny_Assign_Name ?_ ?hsw
  case hsw => exact (swaps_is EO).trans rfl
  refine' r_listComp EO ?hclos rfl ?hnames ?_ ?hs
  case hclos => exact rfl
  case hs => intro _; rfl
  case hnames => decide
  ((refine Call_ ?_); (refine' r_bi EO S R ?ze ?zhv ?_ ?zhn ?zhx ?zhd; (case zhx => exact rfl); (case ze => k_is); (case zhv => boot_fast); (case zhn => decide); (case zhd => decide)); (refine Pv.callWith_type1 ?_); (refine wpAny_items_cons ?_); (with_reducible refine q_cint ?_); (with_reducible refine wpAny_items_nil ?_))
  show wpAny _ _ (call (.type "range") [.int 4 _]) _ _ _
  refine' r_range1 R ?_
  clear R; intro r h' tk2 t u v R
  (first | show wpAny _ _ _ _ _ (St s h' _) | show wpAny _ _ _ _ _ (St s _ _) | show codeAny _ _ _ _ (St s _ _) | show ite _ (wpAny _ _ _ _ _ (St s _ _)) (wpAny _ _ _ _ _ (St s _ _)))
  refine' r_compR AO EO R (k := 4) (outs := [.int (d0 + x0), .int (d1 + x1), .int (d2 + x2), .int (d3 + 1)]) ?g1 ?g2 ?g3 ?g4 ?g5 ?hcell rfl ?hx ?turn ?_
  case g1 => decide
  case g2 => decide
  case g3 => decide
  case g4 => rfl
  case g5 => decide
  case hcell => decide
  case hx => rfl
  case turn =>
    clear R
    intro J C D i v u t s E' hi hu EO R
    obtain ⟨hik, rfl⟩ := rangeV_get hi
    have hi0 : (0 : Int) + (i : Int) = i := Int.zero_add _
    rw [hi0] at R
    obtain ⟨x, d, hx, hd, rfl⟩ : ∃ x d, [V.int x0, .int x1, .int x2, .int 1][Int.toNat (i : Int)]? = some (.int x) ∧ [V.int d0, .int d1, .int d2, .int d3][Int.toNat (i : Int)]? = some (.int d) ∧ u = .int (d + x) := by
      match i, hik, hu with
      | 0, _, hu => cases hu; exact ⟨_, _, rfl, rfl, rfl⟩
      | 1, _, hu => cases hu; exact ⟨_, _, rfl, rfl, rfl⟩
      | 2, _, hu => cases hu; exact ⟨_, _, rfl, rfl, rfl⟩
      | 3, _, hu => cases hu; exact ⟨_, _, rfl, rfl, rfl⟩
    ((with_reducible refine wpAny_BinOp ?_); (refine Subscript_ ?_); (refine' r_cell EO R ?zhc ?zhm ?_ ?zhx ?zhd ?zhn; (case zhx => (first | exact Or.inl rfl | exact Or.inr rfl)); (case zhc => first | assumption | exact rfl); (case zhm => (repeat (with_reducible first | assumption | exact List.mem_cons_self | refine List.mem_cons_of_mem _ ?_))); (case zhd => decide); (case zhn => decide); clear R; intro _ R); (refine' r_locS EO R ?zhv ?zhf ?_ ?zhx ?zhd; (case zhx => exact rfl); (case zhv => exact rfl); (case zhf => exact rfl); (case zhd => decide); intro _); (refine' r_itemL R ?zhm ?zi1 ?zi2 ?zhv ?_ ?zhs; (case zhm => (repeat (with_reducible first | assumption | exact List.mem_cons_self | refine List.mem_cons_of_mem _ ?_))); (case zhs => with_unfolding_all rfl); (case zhv => first | with_reducible assumption | exact rfl); (case zi1 => exact om138 hik); (case zi2 => exact om139 hik); clear R; intro _ R); (refine Subscript_ ?_); (refine' r_cell EO R ?zhc ?zhm ?_ ?zhx ?zhd ?zhn; (case zhx => (first | exact Or.inl rfl | exact Or.inr rfl)); (case zhc => first | assumption | exact rfl); (case zhm => (repeat (with_reducible first | assumption | exact List.mem_cons_self | refine List.mem_cons_of_mem _ ?_))); (case zhd => decide); (case zhn => decide); clear R; intro _ R); (refine' r_locS EO R ?zhv ?zhf ?_ ?zhx ?zhd; (case zhx => exact rfl); (case zhv => exact rfl); (case zhf => exact rfl); (case zhd => decide); intro _); (refine' r_itemL R ?zhm ?zi1 ?zi2 ?zhv ?_ ?zhs; (case zhm => (repeat (with_reducible first | assumption | exact List.mem_cons_self | refine List.mem_cons_of_mem _ ?_))); (case zhs => with_unfolding_all rfl); (case zhv => first | with_reducible assumption | exact rfl); (case zi1 => exact om138 hik); (case zi2 => exact om139 hik); clear R; intro _ R); (with_reducible refine q_addi ?_))
    replace R := Rep.loc [("i", V.int (0 + (i : Int)))] R ⟨by rw [hi0]; rfl, trivial⟩
    exact ⟨_, _, _, Bear.int, fun q hq => by (repeat (with_reducible first | assumption | exact List.mem_cons_self | refine List.mem_cons_of_mem _ ?_)), R, rfl⟩
  clear R
  intro C D l h' tk R0
  refine compEnd R0 fun h' R => ?_
  clear R0
  (first | show wpAny _ _ _ _ _ (St s h' _) | show wpAny _ _ _ _ _ (St s _ _) | show codeAny _ _ _ _ (St s _ _) | show ite _ (wpAny _ _ _ _ _ (St s _ _)) (wpAny _ _ _ _ _ (St s _ _)))
  replace R := Rep.up4 R
  refine' r_storeC1 EO R ?hx ?hc (v := .lst [.int (d0 + x0), .int (d1 + x1), .int (d2 + x2), .int (d3 + 1)]) ?hb ?_
  case hx => rfl
  case hc => rfl
  case hb => exact Bear.lst List.mem_cons_self
  clear R; intro h' R
  replace R := Rep.tmps tmp (Rep.dn4 R) (fun q hq => by (repeat (with_reducible first | assumption | exact List.mem_cons_self | refine List.mem_cons_of_mem _ ?_)))
  (first | show wpAny _ _ _ _ _ (St s h' _) | show wpAny _ _ _ _ _ (St s _ _) | show codeAny _ _ _ _ (St s _ _) | show ite _ (wpAny _ _ _ _ _ (St s _ _)) (wpAny _ _ _ _ _ (St s _ _)))
  ((with_reducible refine wpAny_execs_cons ?_))
  refine' r_asgComp EO ?hsw ?hclos rfl ?hnames ?_ ?hs
  case hsw => exact rfl
  case hclos => exact rfl
  case hs => intro _; rfl
  case hnames => decide
  ((refine Call_ ?_); (refine' r_bi EO S R ?ze ?zhv ?_ ?zhn ?zhx ?zhd; (case zhx => exact rfl); (case ze => k_is); (case zhv => boot_fast); (case zhn => decide); (case zhd => decide)); (refine Pv.callWith_type1 ?_); (refine wpAny_items_cons ?_); (with_reducible refine q_cint ?_); (with_reducible refine wpAny_items_nil ?_))
  show wpAny _ _ (call (.type "range") [.int 4 _]) _ _ _
  refine' r_range1 R ?_
  clear R; intro r h' tk2 t u v R
  (first | show wpAny _ _ _ _ _ (St s h' _) | show wpAny _ _ _ _ _ (St s _ _) | show codeAny _ _ _ _ (St s _ _) | show ite _ (wpAny _ _ _ _ _ (St s _ _)) (wpAny _ _ _ _ _ (St s _ _)))
  refine' r_compR AO EO R (k := 4) (outs := rowsV ch x0 x1 x2 (d0 + x0) (d1 + x1) (d2 + x2) (d3 + 1)) ?g1 ?g2 ?g3 ?g4 ?g5 ?hcell rfl ?hx ?turn ?_
  case g1 => decide
  case g2 => decide
  case g3 => decide
  case g4 => rfl
  case g5 => decide
  case hcell => decide
  case hx => rfl
  case turn =>
    clear R
    intro J C D i v u t s E' hi hu EO R
    obtain ⟨hik, rfl⟩ := rangeV_get hi
    have hi0 : (0 : Int) + (i : Int) = i := Int.zero_add _
    rw [hi0] at R
    obtain ⟨x, d, tl, hx, hd, ht, rfl, b1, b2, b3, b4, b5⟩ := rows_at hx0 hx1 hx2 (by exact om166 hx0 hx1 hx2 hd0) (by exact om167 hx1 hx2 hd1) (by exact om168 hx2 hd2) (by exact om169 hd3) hik hu
    ((with_reducible refine wpAny_BinOp ?_); (with_reducible refine wpAny_BinOp ?_); (with_reducible refine wpAny_BinOp ?_); (refine' r_cellS EO R ?zhx ?zhc ?zhm ?zhf ?_ ?zhd ?zhn; (case zhx => (first | exact Or.inl rfl | exact Or.inr rfl)); (case zhc => first | assumption | exact rfl); (case zhm => (repeat (with_reducible first | assumption | exact List.mem_cons_self | refine List.mem_cons_of_mem _ ?_))); (case zhf => exact rfl); (case zhd => decide); (case zhn => decide); intro _); (with_reducible refine wpAny_BinOp ?_); (with_reducible refine q_cint ?_); (refine Subscript_ ?_); (refine' r_cell EO R ?zhc ?zhm ?_ ?zhx ?zhd ?zhn; (case zhx => (first | exact Or.inl rfl | exact Or.inr rfl)); (case zhc => first | assumption | exact rfl); (case zhm => (repeat (with_reducible first | assumption | exact List.mem_cons_self | refine List.mem_cons_of_mem _ ?_))); (case zhd => decide); (case zhn => decide); clear R; intro _ R); (refine' r_locS EO R ?zhv ?zhf ?_ ?zhx ?zhd; (case zhx => exact rfl); (case zhv => exact rfl); (case zhf => exact rfl); (case zhd => decide); intro _); (refine' r_itemL R ?zhm ?zi1 ?zi2 ?zhv ?_ ?zhs; (case zhm => (repeat (with_reducible first | assumption | exact List.mem_cons_self | refine List.mem_cons_of_mem _ ?_))); (case zhs => with_unfolding_all rfl); (case zhv => first | with_reducible assumption | exact rfl); (case zi1 => exact om138 hik); (case zi2 => exact om139 hik); clear R; intro _ R); (with_reducible refine q_subi ?_); (refine' r_strMulE ?zex ?zh1 ?zh2 ?zh3 ?_; (case zex => with_reducible first | exact sDotL | exact strL_toList _); (case zh1 => exact om140 b1 b2); (case zh2 => exact om141 b1 b2); (case zh3 => first | exact of_decide_eq_true rfl | omega); intro _ _); (with_reducible refine wpAny_BinOp ?_); (with_reducible refine q_cstr ?_); (refine Subscript_ ?_); (refine' r_cell EO R ?zhc ?zhm ?_ ?zhx ?zhd ?zhn; (case zhx => (first | exact Or.inl rfl | exact Or.inr rfl)); (case zhc => first | assumption | exact rfl); (case zhm => (repeat (with_reducible first | assumption | exact List.mem_cons_self | refine List.mem_cons_of_mem _ ?_))); (case zhd => decide); (case zhn => decide); clear R; intro _ R); (refine' r_locS EO R ?zhv ?zhf ?_ ?zhx ?zhd; (case zhx => exact rfl); (case zhv => exact rfl); (case zhf => exact rfl); (case zhd => decide); intro _); (refine' r_itemL R ?zhm ?zi1 ?zi2 ?zhv ?_ ?zhs; (case zhm => (repeat (with_reducible first | assumption | exact List.mem_cons_self | refine List.mem_cons_of_mem _ ?_))); (case zhs => with_unfolding_all rfl); (case zhv => first | with_reducible assumption | exact rfl); (case zi1 => exact om138 hik); (case zi2 => exact om139 hik); clear R; intro _ R); (refine' r_strMulE ?zex ?zh1 ?zh2 ?zh3 ?_; (case zex => with_reducible first | exact sDotL | exact strL_toList _); (case zh1 => exact om142 b3 b4); (case zh2 => exact om143 b3 b4); (case zh3 => first | exact of_decide_eq_true rfl | omega); intro _ _); (refine' r_strAddE ?zex ?zey ?zh3 ?_; (case zex => exact strL_toList _); (case zey => exact strL_toList _); (case zh3 => ((try simp only [rep_len, List.length_append, List.length_cons, List.length_nil]); exact om144 b1 b2 b3 b4)); intro _ _); (refine Subscript_ ?_); (refine' r_cell EO R ?zhc ?zhm ?_ ?zhx ?zhd ?zhn; (case zhx => (first | exact Or.inl rfl | exact Or.inr rfl)); (case zhc => first | assumption | exact rfl); (case zhm => (repeat (with_reducible first | assumption | exact List.mem_cons_self | refine List.mem_cons_of_mem _ ?_))); (case zhd => decide); (case zhn => decide); clear R; intro _ R); (refine' r_locS EO R ?zhv ?zhf ?_ ?zhx ?zhd; (case zhx => exact rfl); (case zhv => exact rfl); (case zhf => exact rfl); (case zhd => decide); intro _); (refine' r_itemL R ?zhm ?zi1 ?zi2 ?zhv ?_ ?zhs; (case zhm => (repeat (with_reducible first | assumption | exact List.mem_cons_self | refine List.mem_cons_of_mem _ ?_))); (case zhs => with_unfolding_all rfl); (case zhv => first | with_reducible assumption | exact rfl); (case zi1 => exact om138 hik); (case zi2 => exact om139 hik); clear R; intro _ R); (refine' r_strAddE ?zex ?zey ?zh3 ?_; (case zex => exact strL_toList _); (case zey => exact strL_toList _); (case zh3 => ((try simp only [rep_len, List.length_append, List.length_cons, List.length_nil]); exact om145 b1 b2 b3 b4 b5)); intro _ _))
    replace R := Rep.loc [("i", V.int (0 + (i : Int)))] R ⟨by rw [hi0]; rfl, trivial⟩
    exact ⟨_, _, _, Bear.strE rfl, fun q hq => by (repeat (with_reducible first | assumption | exact List.mem_cons_self | refine List.mem_cons_of_mem _ ?_)), R, rfl⟩
  clear R
  intro C D l h' tk R0
  refine compEndA EO R0 ?hy fun h' tk' R => ?_
  case hy => rfl
  clear R0
  (first | show wpAny _ _ _ _ _ (St s h' _) | show wpAny _ _ _ _ _ (St s _ _) | show codeAny _ _ _ _ (St s _ _) | show ite _ (wpAny _ _ _ _ _ (St s _ _)) (wpAny _ _ _ _ _ (St s _ _)))
  ((with_reducible refine wpAny_execs_cons ?_); (with_reducible refine wpAny_If ?_); (with_reducible refine wpAny_isTrue_Compare1 ?_); (refine Call_ ?_); (refine' r_glob EO S R ?ze ?_ ?zhx ?zhd; (case zhx => exact rfl); (case ze => k_is); (case zhd => decide)); (refine' callWith_K ?zx ?zk ?_; (case zx => exact S.x); (case zk => k_is)); (refine wpAny_items_cons ?_); (refine' r_locS EO R ?zhv ?zhf ?_ ?zhx ?zhd; (case zhx => exact rfl); (case zhv => exact rfl); (case zhf => exact rfl); (case zhd => decide); intro _); (with_reducible refine wpAny_items_nil ?_); (refine ⟨(Rep.stat R S).x, ?_⟩))
  show wpAny _ _ (call (.ref 48) [.str (strL (mailL (rowS [ch, 46] x0 d0 [ch, 46]) (rowS [ch, 46] x1 d1 [ch, 46]) (rowS [ch, 46] x2 d2 [ch, 46]) (rowS [ch, 46] 1 d3 []) j ((j + 1) % 3) ((j + 2) % 3))) _]) _ _ _
  refine' spec_quote (AO.le (show 3 ≤ n + 9 by exact om170)) S R ?g1 ?_
  case g1 =>
    show (List.toArray _).size ≤ 400
    rw [List.size_toArray]
    unfold mailL
    simp only [List.length_append]
    exact om171 hl0 hl1 hl2 hr0 hr1 hr2 hr3
  clear R; intro h' tk t R
  rw [show (strL (mailL (rowS [ch, 46] x0 d0 [ch, 46]) (rowS [ch, 46] x1 d1 [ch, 46]) (rowS [ch, 46] x2 d2 [ch, 46]) (rowS [ch, 46] 1 d3 []) j ((j + 1) % 3) ((j + 2) % 3))).cps.toList = _ from rfl, mail_is hj3 hch hx0 hx1 hx2 hd0.1 hd1.1 hd2.1 hd3.1]
  (first | show wpAny _ _ _ _ _ (St s h' _) | show wpAny _ _ _ _ _ (St s _ _) | show codeAny _ _ _ _ (St s _ _) | show ite _ (wpAny _ _ _ _ _ (St s _ _)) (wpAny _ _ _ _ _ (St s _ _)))
  ((refine MethodCall_ ?_); (with_reducible refine q_cstr ?_))
  refine GM.join ?_
  repeat ((first | ((refine callWith_method1 ?_)) | ((refine wpAny_items_cons ?_)) | ((with_reducible refine wpAny_BinOp ?_))))
  refine r_slice (K₀ := K₀) ?_
  ((refine' r_loc EO R ?zhv ?_ ?zhx ?zhd; (case zhx => exact rfl); (case zhv => exact rfl); (case zhd => decide); clear R; intro _ R))
  ((with_reducible refine q_cint ?_))
  refine ⟨_, 3, _, _, _, _, rfl, rfl, ?b1, ?b2, LAt.ofTmp List.mem_cons_self, R, fun d h' R2 => ?_⟩
  case b1 => exact of_decide_eq_true rfl
  case b2 => exact of_decide_eq_true rfl
  replace R := R2
  (first | show wpAny _ _ _ _ _ (St s h' _) | show wpAny _ _ _ _ _ (St s _ _) | show codeAny _ _ _ _ (St s _ _) | show ite _ (wpAny _ _ _ _ _ (St s _ _)) (wpAny _ _ _ _ _ (St s _ _)))
  ((with_reducible refine List_ ?_); (refine wpAny_items_cons ?_); (with_reducible refine q_cstr ?_); (refine wpAny_items_cons ?_); (refine Subscript_ ?_); (refine' r_loc EO R ?zhv ?_ ?zhx ?zhd; (case zhx => exact rfl); (case zhv => exact rfl); (case zhd => decide); clear R; intro _ R); (with_reducible refine q_cint ?_); (refine' r_itemL R ?zhm ?zi1 ?zi2 ?zhv ?_ ?zhs; (case zhm => (repeat (with_reducible first | assumption | exact List.mem_cons_self | refine List.mem_cons_of_mem _ ?_))); (case zhs => with_unfolding_all rfl); (case zhv => first | with_reducible assumption | exact rfl); (case zi1 => exact om163); (case zi2 => exact om164); clear R; intro _ R); (with_reducible refine wpAny_items_nil ?_); (refine' r_newList R ?zhv ?_ ?zhs; (case zhv => (repeat (first | exact Bears.nil | (apply Bears.cons; (with_reducible first | exact Bear.int | exact Bear.float | exact Bear.str | exact Bear.bool | exact Bear.none | (refine' Bear.tup ?zb3; (case zb3 => (repeat (with_reducible first | exact List.mem_cons_self | refine List.mem_cons_of_mem _ ?_)))) | (refine' Bear.lst ?zb3; (case zb3 => (repeat (with_reducible first | exact List.mem_cons_self | refine List.mem_cons_of_mem _ ?_)))) | exact Bear.raw))))); (case zhs => exact of_decide_eq_true (by rfl)); clear R; intro _ h' R; (try (first | show wpAny _ _ _ _ _ (St s h' _) | show wpAny _ _ _ _ _ (St s _ _) | show codeAny _ _ _ _ (St s _ _) | show ite _ (wpAny _ _ _ _ _ (St s _ _)) (wpAny _ _ _ _ _ (St s _ _))))); (refine' r_addL R ?zha ?zhb ?zhl ?_; (case zha => exact LAt.ofTmp (by (repeat (with_reducible first | assumption | exact List.mem_cons_self | refine List.mem_cons_of_mem _ ?_)))); (case zhb => exact LAt.ofTmp (by (repeat (with_reducible first | assumption | exact List.mem_cons_self | refine List.mem_cons_of_mem _ ?_)))); (case zhl => first | exact of_decide_eq_true rfl | omega); clear R; intro _ h' R; (try (first | show wpAny _ _ _ _ _ (St s h' _) | show wpAny _ _ _ _ _ (St s _ _) | show codeAny _ _ _ _ (St s _ _) | show ite _ (wpAny _ _ _ _ _ (St s _ _)) (wpAny _ _ _ _ _ (St s _ _))))); (with_reducible refine wpAny_items_nil ?_))
  show wpAny _ _ (call (.builtin "str.join") [.str (Str.ofString "\r\n") _, .ref _]) _ _ _
  have q0 : (rowS [ch, 46] x0 (d0 + x0) [ch, 46]).length ≤ 30 := rowS_length (by simp) (by simp) (by exact om124 hx0 hx1 hx2) (by exact om172 hx0 hx1 hx2 hd0)
  have q1 : (rowS [ch, 46] x1 (d1 + x1) [ch, 46]).length ≤ 30 := rowS_length (by simp) (by simp) (by exact om126 hx1 hx2) (by exact om173 hx1 hx2 hd1)
  have q2 : (rowS [ch, 46] x2 (d2 + x2) [ch, 46]).length ≤ 30 := rowS_length (by simp) (by simp) (by exact om128 hx2) (by exact om174 hx2 hd2)
  have q3 : (rowS [ch, 46] 1 (d3 + 1) []).length ≤ 30 := rowS_length (by simp) (by simp) (by exact om21) (by exact om175 hd3)
  refine' r_join R (LAt.ofTmp (show (V.lst (List.map V.str [strL (rowS [ch, 46] x0 (d0 + x0) [ch, 46]), strL (rowS [ch, 46] x1 (d1 + x1) [ch, 46]), strL (rowS [ch, 46] x2 (d2 + x2) [ch, 46]), Str.ofString "", strL (rowS [ch, 46] 1 (d3 + 1) [])]), _) ∈ _ from List.mem_cons_self)) (join_len q0 q1 q2 q3) (glued_len q0 q1 q2 q3) ?_
  intro tk t
  refine r_neStrSame joined_is.symm ?_
  ((with_reducible refine wpAny_truthy_bool ?_); (refine PySem.W.ite_neg (by (first | (with_reducible exact Bool.false_ne_true) | (simp only [decide_eq_true_eq, beq_iff_eq, bne_iff_ne, ne_eq, Bool.false_eq_true, not_false_eq_true]; first | done | assumption | omega) | omega)) ?_); (with_reducible refine wpAny_execs_nil ?_); (with_reducible refine wpAny_execs_nil ?_))
  exact ⟨rfl, _, _, _, Rep.tmps tmp (Rep.loc _ R ⟨rfl, rfl, rfl, rfl, rfl, rfl, rfl, trivial⟩) (fun q hq => by (repeat (with_reducible first | assumption | exact List.mem_cons_self | refine List.mem_cons_of_mem _ ?_))), rfl⟩

end Mine

/-! S17 -/
namespace Mine
noncomputable def sixOf (p c t0 t1 : Int) (ps : List (Int × Int)) (k : Int) : Int := (t0 * (ps.getD (k - 1).toNat (0, 0)).1 + t1 * (ps.getD (bisL (keys ps) ((c - k).fmod p) ps.length 0 ps.length) (0, 0)).1).fmod 6
noncomputable def dotsAt (p c t0 t1 : Int) (ps : List (Int × Int)) : Nat → List Int
  | 0 => [1, 1, 1, 1]
  | i + 1 => if 0 < (c - (1 + (i : Int))).fmod p then List.zipWith (· + ·) (dotsAt p c t0 t1 ps i) (litT (sixOf p c t0 t1 ps (1 + (i : Int))).toNat ++ [1]) else dotsAt p c t0 t1 ps i
noncomputable abbrev siteL : List (Pos × Str) := [(⟨236, 47, 236, 65⟩, "_law_lights.<locals>.<lambda>")]
theorem RepM.of {B : Bs} {mm : Str → Option Value} : ∀ {l : List (Str × V)}, (∀ p ∈ l, ∃ t, mm p.1 = some (p.2.conc t) ∧ RepT B p.2 t) → RepM B l mm
  | [], _ => RepM.nil
  | (k, u) :: l, h => by
    intro x v e
    simp only [lk] at e
    by_cases hx : x = k
    · simp only [hx, if_true, Option.some.injEq] at e
      subst e hx
      exact h _ (.head _)
    · simp only [hx, if_false] at e
      exact RepM.of (fun p hp => h p (.tail _ hp)) x v e
theorem sN : Str.ofString "\n" = strL [10] := by decide +kernel
theorem sR : Str.ofString "\r" = strL [13] := by decide +kernel
theorem sRN : Str.ofString "\r\n" = strL [13, 10] := by decide +kernel
theorem s0 : Str.ofString "" = strL [] := by decide +kernel
theorem sDot : Str.ofString "." = strL [46] := by decide +kernel
theorem zip_length : ∀ {a b : List Int}, a.length = 4 → b.length = 4 → (List.zipWith (· + ·) a b).length = 4 := fun h1 h2 => by rw [List.length_zipWith, h1, h2]; rfl
theorem litT_length (k : Nat) : (litT k ++ [1]).length = 4 := by
  unfold litT
  split <;> rfl
theorem dotsAt_length {p c t0 t1 : Int} {ps : List (Int × Int)} : ∀ i, (dotsAt p c t0 t1 ps i).length = 4
  | 0 => rfl
  | i + 1 => by
    simp only [dotsAt]
    split
    · exact zip_length (dotsAt_length i) (litT_length _)
    · exact dotsAt_length i
theorem litT_three (k : Nat) : ∃ x y z, litT k = [x, y, z] ∧ (x = 0 ∨ x = 1) ∧ (y = 0 ∨ y = 1) ∧ (z = 0 ∨ z = 1) := by
  unfold litT
  split
  all_goals exact ⟨_, _, _, rfl, by decide, by decide, by decide⟩
theorem dotsAt_four {p c t0 t1 : Int} {ps : List (Int × Int)} : ∀ i : Nat, ∃ d0 d1 d2 d3, dotsAt p c t0 t1 ps i = [d0, d1, d2, d3] ∧ (1 ≤ d0 ∧ d0 ≤ 1 + (i : Int)) ∧ (1 ≤ d1 ∧ d1 ≤ 1 + (i : Int)) ∧ (1 ≤ d2 ∧ d2 ≤ 1 + (i : Int)) ∧ (1 ≤ d3 ∧ d3 ≤ 1 + (i : Int))
  | 0 => ⟨1, 1, 1, 1, rfl, by exact om87, by exact om87, by exact om87, by exact om87⟩
  | i + 1 => by
    obtain ⟨d0, d1, d2, d3, e, h0, h1, h2, h3⟩ := dotsAt_four (p := p) (c := c) (t0 := t0) (t1 := t1) (ps := ps) i
    obtain ⟨x, y, z, e2, g0, g1, g2⟩ := litT_three (sixOf p c t0 t1 ps (1 + (i : Int))).toNat
    simp only [dotsAt]
    split
    · rw [e, e2]
      exact ⟨d0 + x, d1 + y, d2 + z, d3 + 1, rfl, by exact om88 h0 g0 g1 g2, by exact om89 h1 g1 g2, by exact om90 h2 g2, by exact om91 h3⟩
    · exact ⟨_, _, _, _, e, by exact om92 h0, by exact om92 h1, by exact om92 h2, by exact om92 h3⟩
theorem ite_join {M : Model} {A : Around} {E : Value → Shared → Prop} {s : Shared} {α : Type} {b : Bool} {x1 x2 : Sem α} {Q : α → Shared → Prop} (Mid : α → Shared → Prop) (mid : ∀ fl s', Mid fl s' → Q fl s') (h1 : b = true → wpAny M A x1 Mid E s) (h2 : b ≠ true → wpAny M A x2 Mid E s) :
    if b = true then wpAny M A x1 Q E s else wpAny M A x2 Q E s := by
  by_cases hb : b = true
  · rw [if_pos hb]; exact wpAny_mono (h1 hb) mid fun _ _ x => x
  · rw [if_neg hb]; exact wpAny_mono (h2 hb) mid fun _ _ x => x
theorem prs_at {ps : List (Int × Int)} {i : Nat} (h : i < ps.length) : (prs ps)[i]? = some (V.tup [.int (ps.getD i (0, 0)).1, .int (ps.getD i (0, 0)).2]) := by
  rw [prs, List.getElem?_map, List.getElem?_eq_getElem h]
  simp [List.getD, h]
theorem spec_lights {w : World} {A : Around} {E : Value → Shared → Prop} {s : Shared} {K₀ : Heap} {led : List (Nat × Mo)} {tmp : List (V × Nat)} {Q : Value → Shared → Prop} {n p ch : Nat} {c t0 t1 kind : Int} {ps : List (Int × Int)} {tp tc tt tr ta tk : Nat}
    (AO : AOk A (n + 10)) (S : Stat (hd.heap_39 w.params) K₀) (hC : CodeHd K₀ 172 170) (R : Rep K₀ led tmp s.heap) (hT : (170, Mo.tab siteL) ∈ led)
    (hp : 2 ≤ p) (hp2 : p ≤ 19) (hk0 : 0 ≤ kind) (hk3 : kind < 3) (hch : ch ≠ 10 ∧ ch ≠ 13 ∧ ch ≠ 46) (ht0 : 0 ≤ t0 ∧ t0 ≤ 6) (ht1 : 0 ≤ t1 ∧ t1 ≤ 6) (hps : ps.length = p - 1)
    (hbis : ∀ m : Nat, 0 < m → m < p → bisL (keys ps) m ps.length 0 ps.length < ps.length) (hmt : (V.lst [.int t0, .int t1], tt) ∈ tmp) (hmr : (V.lst (prs ps), tr) ∈ tmp)
    (h : ∀ h' tk t, Rep K₀ led ((.lst (((dotsAt p c t0 t1 ps (p - 1)).take 3).map fun d => V.int (d - 1)), t) :: tmp) h' → Q (.ref t) (St s h' tk)) :
    wpAny (model PySem.Challenge.rw_uk0010_01.row.prog w) A (call (.ref 173) [.int p tp, .int c tc, .ref tt, .ref tr, .str (strL [ch, 46]) ta, .int kind tk]) Q E s := by
  revert AO S R h
  k_fill
  intro AO S R h
  refine' r_enterC (l := [("p", .int p), ("c", .int c), ("turns", .lst [.int t0, .int t1]), ("row", .lst (prs ps)), ("kind", .int kind)]) (cs := fun L => [("lit", L + 1 + 1 + 1 + 1), ("tails", L + 1 + 1 + 1), ("dots", L + 1 + 1), ("tail", L + 1)]) (cv := lk [("tail", .str (strL [ch, 46]))]) AO S R ?ho ?hcd ?hbind ?hcs ?hcu ?hkind ?hrep ?hrepC ?_ ?c1 ?c2 ?c3
  case ho => k_is
  case hcd => k_is
  case hbind => exact rfl
  case hcs => intro L; rfl
  case hcu => intro L p hp; simp only [List.mem_cons, List.not_mem_nil, or_false] at hp; rcases hp with rfl | rfl | rfl | rfl <;> rfl
  case hkind => intro L x hx; change x ∈ [(_, _), (_, _), (_, _), (_, _), (_, _), (_, _)] at hx; simp only [List.mem_cons, List.not_mem_nil, or_false] at hx; rcases hx with rfl | rfl | rfl | rfl | rfl | rfl <;> first | exact .inl rfl | exact .inr ⟨rfl, rfl⟩
  case hrep =>
    intro B hB
    refine RepM.of fun p hp => ?_
    simp only [List.mem_cons, List.not_mem_nil, or_false] at hp
    rcases hp with rfl | rfl | rfl | rfl | rfl
    · exact ⟨tp, rfl, by simp only [RepT]⟩
    · exact ⟨tc, rfl, by simp only [RepT]⟩
    · exact ⟨tt, rfl, hB _ hmt⟩
    · exact ⟨tr, rfl, hB _ hmr⟩
    · exact ⟨tk, rfl, by simp only [RepT]⟩
  case hrepC =>
    intro B hB L p hp; simp only [List.mem_cons, List.not_mem_nil, or_false] at hp
    rcases hp with rfl | rfl | rfl | rfl
    · exact rfl
    · exact rfl
    · exact rfl
    · exact ⟨ta, rfl, by simp only [RepT]⟩
  case c1 => rfl
  case c2 => rfl
  case c3 => rfl
  clear R AO
  intro L h₁ tk env A' AO EO R
  obtain ⟨pre, post, rfl⟩ := List.append_of_mem hT
  clear hT
  replace R : Rep K₀ ((L, .ns [("p", .int p), ("c", .int c), ("turns", .lst [.int t0, .int t1]), ("row", .lst (prs ps)), ("kind", .int kind)]) :: (L + 1 + 1 + 1 + 1, .cell none) :: (L + 1 + 1 + 1, .cell none) :: (L + 1 + 1, .cell none) :: (L + 1, .cell (some (.str (strL [ch, 46])))) :: (pre ++ (170, .tab siteL) :: post)) tmp h₁ := R
  replace R : Rep K₀ ((170, .tab siteL) :: (L, .ns [("p", .int p), ("c", .int c), ("turns", .lst [.int t0, .int t1]), ("row", .lst (prs ps)), ("kind", .int kind)]) :: (L + 1 + 1 + 1 + 1, .cell none) :: (L + 1 + 1 + 1, .cell none) :: (L + 1 + 1, .cell none) :: (L + 1, .cell (some (.str (strL [ch, 46])))) :: (pre ++ post)) tmp h₁ := Rep.up (pre := [(L, .ns [("p", .int p), ("c", .int c), ("turns", .lst [.int t0, .int t1]), ("row", .lst (prs ps)), ("kind", .int kind)]), (L + 1 + 1 + 1 + 1, .cell none), (L + 1 + 1 + 1, .cell none), (L + 1 + 1, .cell none), (L + 1, .cell (some (.str (strL [ch, 46]))))] ++ pre) (post := post) R
  replace R := Rep.dn5 R
  ((with_reducible refine wpAny_execs_cons ?_))
  refine' r_asgTup EO ?hw ?_ ?hs
  case hw => rfl
  case hs => rfl
  ((with_reducible refine Tuple_ ?_); (refine wpAny_items_cons ?_); (with_reducible refine List_ ?_); (refine wpAny_items_cons ?_); (with_reducible refine q_cstr ?_); (refine wpAny_items_cons ?_); (with_reducible refine q_cstr ?_); (refine wpAny_items_cons ?_); (with_reducible refine q_cstr ?_); (with_reducible refine wpAny_items_nil ?_); (refine' r_newList R ?zhv ?_ ?zhs; (case zhv => (repeat (first | exact Bears.nil | (apply Bears.cons; (with_reducible first | exact Bear.int | exact Bear.float | exact Bear.str | exact Bear.bool | exact Bear.none | (refine' Bear.tup ?zb3; (case zb3 => (repeat (with_reducible first | exact List.mem_cons_self | refine List.mem_cons_of_mem _ ?_)))) | (refine' Bear.lst ?zb3; (case zb3 => (repeat (with_reducible first | exact List.mem_cons_self | refine List.mem_cons_of_mem _ ?_)))) | exact Bear.raw))))); (case zhs => exact of_decide_eq_true (by rfl)); clear R; intro _ h' R; (try (first | show wpAny _ _ _ _ _ (St s h' _) | show wpAny _ _ _ _ _ (St s _ _) | show codeAny _ _ _ _ (St s _ _) | show ite _ (wpAny _ _ _ _ _ (St s _ _)) (wpAny _ _ _ _ _ (St s _ _))))); (refine wpAny_items_cons ?_); (with_reducible refine List_ ?_); (refine wpAny_items_cons ?_); (with_reducible refine q_cint ?_); (refine wpAny_items_cons ?_); (with_reducible refine q_cint ?_); (refine wpAny_items_cons ?_); (with_reducible refine q_cint ?_); (refine wpAny_items_cons ?_); (with_reducible refine q_cint ?_); (with_reducible refine wpAny_items_nil ?_); (refine' r_newList R ?zhv ?_ ?zhs; (case zhv => (repeat (first | exact Bears.nil | (apply Bears.cons; (with_reducible first | exact Bear.int | exact Bear.float | exact Bear.str | exact Bear.bool | exact Bear.none | (refine' Bear.tup ?zb3; (case zb3 => (repeat (with_reducible first | exact List.mem_cons_self | refine List.mem_cons_of_mem _ ?_)))) | (refine' Bear.lst ?zb3; (case zb3 => (repeat (with_reducible first | exact List.mem_cons_self | refine List.mem_cons_of_mem _ ?_)))) | exact Bear.raw))))); (case zhs => exact of_decide_eq_true (by rfl)); clear R; intro _ h' R; (try (first | show wpAny _ _ _ _ _ (St s h' _) | show wpAny _ _ _ _ _ (St s _ _) | show codeAny _ _ _ _ (St s _ _) | show ite _ (wpAny _ _ _ _ _ (St s _ _)) (wpAny _ _ _ _ _ (St s _ _))))); (refine wpAny_items_cons ?_); (with_reducible refine List_ ?_); (refine wpAny_items_cons ?_); (refine' r_cellS EO R ?zhx ?zhc ?zhm ?zhf ?_ ?zhd ?zhn; (case zhx => (first | exact Or.inl rfl | exact Or.inr rfl)); (case zhc => first | assumption | exact rfl); (case zhm => (repeat (with_reducible first | assumption | exact List.mem_cons_self | refine List.mem_cons_of_mem _ ?_))); (case zhf => exact rfl); (case zhd => decide); (case zhn => decide); intro _); (refine wpAny_items_cons ?_); (refine' r_cellS EO R ?zhx ?zhc ?zhm ?zhf ?_ ?zhd ?zhn; (case zhx => (first | exact Or.inl rfl | exact Or.inr rfl)); (case zhc => first | assumption | exact rfl); (case zhm => (repeat (with_reducible first | assumption | exact List.mem_cons_self | refine List.mem_cons_of_mem _ ?_))); (case zhf => exact rfl); (case zhd => decide); (case zhn => decide); intro _); (refine wpAny_items_cons ?_); (refine' r_cellS EO R ?zhx ?zhc ?zhm ?zhf ?_ ?zhd ?zhn; (case zhx => (first | exact Or.inl rfl | exact Or.inr rfl)); (case zhc => first | assumption | exact rfl); (case zhm => (repeat (with_reducible first | assumption | exact List.mem_cons_self | refine List.mem_cons_of_mem _ ?_))); (case zhf => exact rfl); (case zhd => decide); (case zhn => decide); intro _); (refine wpAny_items_cons ?_); (with_reducible refine q_cstr ?_); (with_reducible refine wpAny_items_nil ?_); (refine' r_newList R ?zhv ?_ ?zhs; (case zhv => (repeat (first | exact Bears.nil | (apply Bears.cons; (with_reducible first | exact Bear.int | exact Bear.float | exact Bear.str | exact Bear.bool | exact Bear.none | (refine' Bear.tup ?zb3; (case zb3 => (repeat (with_reducible first | exact List.mem_cons_self | refine List.mem_cons_of_mem _ ?_)))) | (refine' Bear.lst ?zb3; (case zb3 => (repeat (with_reducible first | exact List.mem_cons_self | refine List.mem_cons_of_mem _ ?_)))) | exact Bear.raw))))); (case zhs => exact of_decide_eq_true (by rfl)); clear R; intro _ h' R; (try (first | show wpAny _ _ _ _ _ (St s h' _) | show wpAny _ _ _ _ _ (St s _ _) | show codeAny _ _ _ _ (St s _ _) | show ite _ (wpAny _ _ _ _ _ (St s _ _)) (wpAny _ _ _ _ _ (St s _ _))))); (with_reducible refine wpAny_items_nil ?_); (refine' r_newTuple R ?zhv ?_ ?zhs; (case zhv => (repeat (first | exact Bears.nil | (apply Bears.cons; (with_reducible first | exact Bear.int | exact Bear.float | exact Bear.str | exact Bear.bool | exact Bear.none | (refine' Bear.tup ?zb3; (case zb3 => (repeat (with_reducible first | exact List.mem_cons_self | refine List.mem_cons_of_mem _ ?_)))) | (refine' Bear.lst ?zb3; (case zb3 => (repeat (with_reducible first | exact List.mem_cons_self | refine List.mem_cons_of_mem _ ?_)))) | exact Bear.raw))))); (case zhs => exact of_decide_eq_true (by rfl)); clear R; intro _ h' R; (try (first | show wpAny _ _ _ _ _ (St s h' _) | show wpAny _ _ _ _ _ (St s _ _) | show codeAny _ _ _ _ (St s _ _) | show ite _ (wpAny _ _ _ _ _ (St s _ _)) (wpAny _ _ _ _ _ (St s _ _))))); (refine' r_asgTup3 AO R ?zhm rfl ?_; (case zhm => (repeat (with_reducible first | assumption | exact List.mem_cons_self | refine List.mem_cons_of_mem _ ?_))); clear R; intro h' _ _ _ R; (try (first | show wpAny _ _ _ _ _ (St s h' _) | show wpAny _ _ _ _ _ (St s _ _) | show codeAny _ _ _ _ (St s _ _) | show ite _ (wpAny _ _ _ _ _ (St s _ _)) (wpAny _ _ _ _ _ (St s _ _))))); (refine wpAny_assign_Name ?_); (refine' r_store EO R ?zhx ?zhv ?_; (case zhx => exact rfl); (case zhv => (with_reducible first | exact Bear.int | exact Bear.float | exact Bear.str | exact Bear.bool | exact Bear.none | (refine' Bear.tup ?zb3; (case zb3 => (repeat (with_reducible first | exact List.mem_cons_self | refine List.mem_cons_of_mem _ ?_)))) | (refine' Bear.lst ?zb3; (case zb3 => (repeat (with_reducible first | exact List.mem_cons_self | refine List.mem_cons_of_mem _ ?_)))) | exact Bear.raw)); clear R; intro h' _ R; (try (first | show wpAny _ _ _ _ _ (St s h' _) | show wpAny _ _ _ _ _ (St s _ _) | show codeAny _ _ _ _ (St s _ _) | show ite _ (wpAny _ _ _ _ _ (St s _ _)) (wpAny _ _ _ _ _ (St s _ _))))); (refine wpAny_assign_Name ?_))
  rw [sN, sR, sRN, s0] at R
  rename_i q2 q3 _
  show wpAny _ _ (storeName env _ (.ref q2)) _ _ _
  replace R := Rep.up3 R
  refine' r_storeC1 EO R ?hx ?hc (v := .lst [.int 1, .int 1, .int 1, .int 1]) ?hb ?_
  case hx => rfl
  case hc => rfl
  case hb => exact Bear.lst (by (repeat (with_reducible first | assumption | exact List.mem_cons_self | refine List.mem_cons_of_mem _ ?_)))
  clear R; intro h' R
  replace R := Rep.up2 (Rep.dn3 R)
  ((refine wpAny_assign_Name ?_))
  show wpAny _ _ (storeName env _ (.ref q3)) _ _ _
  refine' r_storeC1 EO R ?hx ?hc (v := .lst (tailsV ch)) ?hb ?_
  case hx => rfl
  case hc => rfl
  case hb => exact Bear.lst (by (repeat (with_reducible first | assumption | exact List.mem_cons_self | refine List.mem_cons_of_mem _ ?_)))
  clear R; intro h' R
  replace R := Rep.dn2 R
  ((with_reducible refine wpAny_execs_cons ?_))
  refine wpAny_For ?_
  ((refine Call_ ?_); (refine' r_bi EO S R ?ze ?zhv ?_ ?zhn ?zhx ?zhd; (case zhx => exact rfl); (case ze => k_is); (case zhv => boot_fast); (case zhn => decide); (case zhd => decide)); (refine Pv.callWith_type1 ?_); (refine wpAny_items_cons ?_); (with_reducible refine q_cint ?_); (refine wpAny_items_cons ?_); (refine' r_locS EO R ?zhv ?zhf ?_ ?zhx ?zhd; (case zhx => exact rfl); (case zhv => exact rfl); (case zhf => exact rfl); (case zhd => decide); intro _); (with_reducible refine wpAny_items_nil ?_))
  show wpAny _ _ (call (.type "range") [.int 1 _, .int (p : Int) _]) _ _ _
  refine' r_range2 R ?_
  clear R; intro r h' tk2 t u v R
  refine' r_pyIterRange1 R (k := p - 1) ?g1 ?g2 ?g3 ?_
  case g1 => exact om93 hp hp2
  case g2 => decide
  case g3 => exact om94 hp hp2
  clear R; intro I h' R
  replace R := Rep.loc [("p", V.int (p : Int)), ("c", V.int c), ("turns", V.lst [.int t0, .int t1]), ("row", V.lst (prs ps)), ("kind", V.int kind), ("ends", V.lst endsV)] R ⟨rfl, rfl, rfl, rfl, rfl, rfl, trivial⟩
  replace R := Rep.tmps tmp R (fun q hq => by (repeat (with_reducible first | assumption | exact List.mem_cons_self | refine List.mem_cons_of_mem _ ?_)))
  (first | show wpAny _ _ _ _ _ (St s h' _) | show wpAny _ _ _ _ _ (St s _ _) | show codeAny _ _ _ _ (St s _ _) | show ite _ (wpAny _ _ _ _ _ (St s _ _)) (wpAny _ _ _ _ _ (St s _ _)))
  refine' r_forLoop (fun i l led' => l = [(("p" : Str), V.int (p : Int)), ("c", V.int c), ("turns", V.lst [.int t0, .int t1]), ("row", V.lst (prs ps)), ("kind", V.int kind), ("ends", V.lst endsV)] ∧
      ∃ lv, led' = (L + 1 + 1 + 1 + 1, Mo.cell lv) :: (L + 1 + 1 + 1, Mo.cell (some (.lst (tailsV ch)))) :: (L + 1 + 1, Mo.cell (some (.lst ((dotsAt p c t0 t1 ps i).map V.int)))) :: (L + 1, Mo.cell (some (.str (strL [ch, 46])))) :: (170, Mo.tab siteL) :: (pre ++ post))
    (Iter.range AO) EO ?htp ?hx ?turn ⟨rfl, _, rfl⟩ R ?_
  case htp => intro p hp; cases hp
  case hx => rfl
  case turn =>
    clear R
    rintro i v l led' t s hi ⟨rfl, lv, rfl⟩ R
    obtain ⟨hik, rfl⟩ := rangeV_get hi
    obtain ⟨k, hk⟩ : ∃ k : Nat, 1 + (i : Int) = k := ⟨1 + i, by exact om95⟩
    rw [hk] at R
    have hk1 : 1 ≤ k := by exact om96 hk
    have hkp : k < p := by exact om97 hp hp2 hik hk
    by_cases hm0 : 0 < (c - (k : Int)).fmod (p : Int)
    · ((with_reducible refine wpAny_execs_cons ?_); (refine wpAny_Assign_Name ?_); (with_reducible refine wpAny_BinOp ?_); (refine r_ev EO AO R ?_; ((repeat (refine And.intro ?zc ?_; (case zc => (first | assumption | (with_unfolding_all decide +kernel) | omega)))); intro _ _)); (refine' r_locS EO R ?zhv ?zhf ?_ ?zhx ?zhd; (case zhx => exact rfl); (case zhv => exact rfl); (case zhf => exact rfl); (case zhd => decide); intro _); (refine' q_modi (b := _) ?zhb ?_; (case zhb => (first | exact om98 hp hp2 | assumption | decide))); (refine' r_store EO R ?zhx ?zhv ?_; (case zhx => exact rfl); (case zhv => (with_reducible first | exact Bear.int | exact Bear.float | exact Bear.str | exact Bear.bool | exact Bear.none | (refine' Bear.tup ?zb3; (case zb3 => (repeat (with_reducible first | exact List.mem_cons_self | refine List.mem_cons_of_mem _ ?_)))) | (refine' Bear.lst ?zb3; (case zb3 => (repeat (with_reducible first | exact List.mem_cons_self | refine List.mem_cons_of_mem _ ?_)))) | exact Bear.raw)); clear R; intro h' _ R; (try (first | show wpAny _ _ _ _ _ (St s h' _) | show wpAny _ _ _ _ _ (St s _ _) | show codeAny _ _ _ _ (St s _ _) | show ite _ (wpAny _ _ _ _ _ (St s _ _)) (wpAny _ _ _ _ _ (St s _ _))))); (with_reducible refine wpAny_execs_cons ?_); (with_reducible refine wpAny_If ?_); (with_reducible refine wpAny_isTrue_Compare1 ?_); (refine' r_locS EO R ?zhv ?zhf ?_ ?zhx ?zhd; (case zhx => exact rfl); (case zhv => exact rfl); (case zhf => exact rfl); (case zhd => decide); intro _); (with_reducible refine q_cint ?_); (with_reducible refine P.gt_int ?_); (with_reducible refine wpAny_truthy_bool ?_); (refine PySem.W.ite_pos (by (first | rfl | (simp only [decide_eq_true_eq, beq_iff_eq, bne_iff_ne, ne_eq]; first | assumption | omega) | omega)) ?_); (with_reducible refine wpAny_execs_cons ?_); (refine wpAny_Assign_Name ?_); (refine r_callKw ?_); (refine' r_glob EO S R ?ze ?_ ?zhx ?zhd; (case zhx => exact rfl); (case ze => k_is); (case zhd => decide)); (refine' r_callWithKw S ?zk ?_; (case zk => k_is)); (refine wpAny_items_cons ?_); (refine' r_loc EO R ?zhv ?_ ?zhx ?zhd; (case zhx => exact rfl); (case zhv => exact rfl); (case zhd => decide); clear R; intro _ R); (refine wpAny_items_cons ?_); (refine' r_locS EO R ?zhv ?zhf ?_ ?zhx ?zhd; (case zhx => exact rfl); (case zhv => exact rfl); (case zhf => exact rfl); (case zhd => decide); intro _); (with_reducible refine wpAny_items_nil ?_))
      (first | show wpAny _ _ _ _ _ (St s h' _) | show wpAny _ _ _ _ _ (St s _ _) | show codeAny _ _ _ _ (St s _ _) | show ite _ (wpAny _ _ _ _ _ (St s _ _)) (wpAny _ _ _ _ _ (St s _ _)))
      replace R := Rep.up6 R
      refine' r_lambda EO S hC R ?hs ?hu ?hcl ?_ ?hdef
      case hs => exact .head _
      case hu => intro s hs _ _; simp only [siteL, List.mem_cons, List.not_mem_nil, or_false] at hs; subst hs; rfl
      case hcl => exact rfl
      case hdef => exact rfl
      clear R; intro f h' tk pm c' ctv R
      refine ⟨(Rep.stat R S).x, ?_⟩
      (first | show wpAny _ _ _ _ _ (St s h' _) | show wpAny _ _ _ _ _ (St s _ _) | show codeAny _ _ _ _ (St s _ _) | show ite _ (wpAny _ _ _ _ _ (St s _ _)) (wpAny _ _ _ _ _ (St s _ _)))
      show wpAny _ _ (call (.ref 126) [.ref _, .int ((c - (k : Int)).fmod (p : Int)) _] [("key", .ref f)]) _ _ _
      refine' spec_bisL (AO.le (show 2 ≤ n + 9 by exact om99)) S R (ps := ps) (.inl ?hA) ?hl List.mem_cons_self spec_key ?_
      case hA => (repeat (with_reducible first | assumption | exact List.mem_cons_self | refine List.mem_cons_of_mem _ ?_))
      case hl => exact om100 hp hp2 hps
      clear R; intro h' tk t' R
      (first | show wpAny _ _ _ _ _ (St s h' _) | show wpAny _ _ _ _ _ (St s _ _) | show codeAny _ _ _ _ (St s _ _) | show ite _ (wpAny _ _ _ _ _ (St s _ _)) (wpAny _ _ _ _ _ (St s _ _)))
      replace R := Rep.dn6 R.dropLed
      obtain ⟨m, hm⟩ : ∃ m : Nat, (c - (k : Int)).fmod (p : Int) = m := ⟨((c - (k : Int)).fmod (p : Int)).toNat, by exact om101 hm0⟩
      have hmp : m < p := by
        have : (c - (k : Int)).fmod (p : Int) < p := Int.fmod_lt_of_pos _ (by exact om102 hp hp2)
        exact om103 hm this
      have hb := hbis m (by exact om104 hm0 hm) hmp
      rw [← hm] at hb
      have hg1 := prs_at (ps := ps) (i := ((k : Int) - 1).toNat) (by exact om105 hps hik hk)
      have hg2 := prs_at (ps := ps) (i := (((bisL (keys ps) ((c - (k : Int)).fmod (p : Int)) ps.length 0 ps.length : Nat) : Int)).toNat) (by rw [Int.toNat_natCast]; exact hb)
      have hmo1 : IntMulOk t0 (ps.getD ((k : Int) - 1).toNat (0, 0)).1 := IntMulOk.of_left (bits_le (by exact om106 ht0))
      have hmo2 : IntMulOk t1 (ps.getD (((bisL (keys ps) ((c - (k : Int)).fmod (p : Int)) ps.length 0 ps.length : Nat) : Int)).toNat (0, 0)).1 := IntMulOk.of_left (bits_le (by exact om106 ht1))
      obtain ⟨six, hsix, hs6⟩ : ∃ six : Nat, sixOf p c t0 t1 ps k = six ∧ six < 6 := by
        have h1 := Int.fmod_nonneg_of_pos (t0 * (ps.getD ((k : Int) - 1).toNat (0, 0)).1 + t1 * (ps.getD (bisL (keys ps) ((c - (k : Int)).fmod p) ps.length 0 ps.length) (0, 0)).1) (show (0 : Int) < 6 by decide)
        have h2 := Int.fmod_lt_of_pos (t0 * (ps.getD ((k : Int) - 1).toNat (0, 0)).1 + t1 * (ps.getD (bisL (keys ps) ((c - (k : Int)).fmod p) ps.length 0 ps.length) (0, 0)).1) (show (0 : Int) < 6 by decide)
        refine ⟨(sixOf p c t0 t1 ps k).toNat, ?_, ?_⟩
        · unfold sixOf; exact om107 h1 h2
        · unfold sixOf; exact om108 h1 h2
      obtain ⟨d0, d1, d2, d3, hds, b0, b1, b2, b3⟩ := dotsAt_four (p := p) (c := c) (t0 := t0) (t1 := t1) (ps := ps) i
      obtain ⟨y0, y1, y2, hlit2, hx0, hx1, hx2⟩ := litT_three six
      obtain ⟨fa, fb, fc, x0, x1, x2, hlit, hfa, hfb, hfc, hcond, hcond2⟩ := paint_all hs6 (show k < 19 by exact om109 hp hp2 hkp)
      ((refine' r_store EO R ?zhx ?zhv ?_; (case zhx => exact rfl); (case zhv => (with_reducible first | exact Bear.int | exact Bear.float | exact Bear.str | exact Bear.bool | exact Bear.none | (refine' Bear.tup ?zb3; (case zb3 => (repeat (with_reducible first | exact List.mem_cons_self | refine List.mem_cons_of_mem _ ?_)))) | (refine' Bear.lst ?zb3; (case zb3 => (repeat (with_reducible first | exact List.mem_cons_self | refine List.mem_cons_of_mem _ ?_)))) | exact Bear.raw)); clear R; intro h' _ R; (try (first | show wpAny _ _ _ _ _ (St s h' _) | show wpAny _ _ _ _ _ (St s _ _) | show codeAny _ _ _ _ (St s _ _) | show ite _ (wpAny _ _ _ _ _ (St s _ _)) (wpAny _ _ _ _ _ (St s _ _))))); (with_reducible refine wpAny_execs_cons ?_); (refine wpAny_Assign_Name ?_); (with_reducible refine wpAny_BinOp ?_); (with_reducible refine wpAny_BinOp ?_); (with_reducible refine wpAny_BinOp ?_); (refine Subscript_ ?_); (refine' r_loc EO R ?zhv ?_ ?zhx ?zhd; (case zhx => exact rfl); (case zhv => exact rfl); (case zhd => decide); clear R; intro _ R); (with_reducible refine q_cint ?_); (refine' r_itemL R ?zhm ?zi1 ?zi2 ?zhv ?_ ?zhs; (case zhm => (repeat (with_reducible first | assumption | exact List.mem_cons_self | refine List.mem_cons_of_mem _ ?_))); (case zhs => with_unfolding_all rfl); (case zhv => first | with_reducible assumption | exact rfl); (case zi1 => exact om110); (case zi2 => exact om111); clear R; intro _ R); (refine Subscript_ ?_); (refine Subscript_ ?_); (refine' r_loc EO R ?zhv ?_ ?zhx ?zhd; (case zhx => exact rfl); (case zhv => exact rfl); (case zhd => decide); clear R; intro _ R); (refine r_ev EO AO R ?_; ((repeat (refine And.intro ?zc ?_; (case zc => (first | assumption | (with_unfolding_all decide +kernel) | omega)))); intro _ _)); (refine' r_itemL R ?zhm ?zi1 ?zi2 ?zhv ?_ ?zhs; (case zhm => (repeat (with_reducible first | assumption | exact List.mem_cons_self | refine List.mem_cons_of_mem _ ?_))); (case zhs => with_unfolding_all rfl); (case zhv => first | with_reducible assumption | exact rfl); (case zi1 => exact om112 hk); (case zi2 => exact om113 hp hp2 hkp); clear R; intro _ R); (with_reducible refine q_cint ?_); (refine' r_itemT R ?zhm ?zi1 ?zi2 ?zhv ?_ ?zhs; (case zhm => (repeat (with_reducible first | assumption | exact List.mem_cons_self | refine List.mem_cons_of_mem _ ?_))); (case zhs => with_unfolding_all rfl); (case zhv => first | with_reducible assumption | exact rfl); (case zi1 => exact om110); (case zi2 => exact om111); clear R; intro _ R); (refine' r_mul ?zhe ?zhm ?_; (case zhe => with_reducible first | exact muE | exact muE2 | exact rfl); (case zhm => first | assumption | mul_fits); intro _ _); (with_reducible refine wpAny_BinOp ?_); (refine Subscript_ ?_); (refine' r_loc EO R ?zhv ?_ ?zhx ?zhd; (case zhx => exact rfl); (case zhv => exact rfl); (case zhd => decide); clear R; intro _ R); (with_reducible refine q_cint ?_); (refine' r_itemL R ?zhm ?zi1 ?zi2 ?zhv ?_ ?zhs; (case zhm => (repeat (with_reducible first | assumption | exact List.mem_cons_self | refine List.mem_cons_of_mem _ ?_))); (case zhs => with_unfolding_all rfl); (case zhv => first | with_reducible assumption | exact rfl); (case zi1 => exact om21); (case zi2 => exact om22); clear R; intro _ R); (refine Subscript_ ?_); (refine Subscript_ ?_); (refine' r_loc EO R ?zhv ?_ ?zhx ?zhd; (case zhx => exact rfl); (case zhv => exact rfl); (case zhd => decide); clear R; intro _ R); (refine' r_locS EO R ?zhv ?zhf ?_ ?zhx ?zhd; (case zhx => exact rfl); (case zhv => exact rfl); (case zhf => exact rfl); (case zhd => decide); intro _); (refine' r_itemL R ?zhm ?zi1 ?zi2 ?zhv ?_ ?zhs; (case zhm => (repeat (with_reducible first | assumption | exact List.mem_cons_self | refine List.mem_cons_of_mem _ ?_))); (case zhs => with_unfolding_all rfl); (case zhv => first | with_reducible assumption | exact rfl); (case zi1 => exact om45); (case zi2 => omega); clear R; intro _ R); (with_reducible refine q_cint ?_); (refine' r_itemT R ?zhm ?zi1 ?zi2 ?zhv ?_ ?zhs; (case zhm => (repeat (with_reducible first | assumption | exact List.mem_cons_self | refine List.mem_cons_of_mem _ ?_))); (case zhs => with_unfolding_all rfl); (case zhv => first | with_reducible assumption | exact rfl); (case zi1 => exact om110); (case zi2 => exact om111); clear R; intro _ R); (refine' r_mul ?zhe ?zhm ?_; (case zhe => with_reducible first | exact muE | exact muE2 | exact rfl); (case zhm => first | assumption | mul_fits); intro _ _); (with_reducible refine q_addi ?_); (with_reducible refine q_cint ?_); (refine' q_modi (b := _) ?zhb ?_; (case zhb => (first | exact om114 | assumption | decide))); (refine' r_store EO R ?zhx ?zhv ?_; (case zhx => exact rfl); (case zhv => (with_reducible first | exact Bear.int | exact Bear.float | exact Bear.str | exact Bear.bool | exact Bear.none | (refine' Bear.tup ?zb3; (case zb3 => (repeat (with_reducible first | exact List.mem_cons_self | refine List.mem_cons_of_mem _ ?_)))) | (refine' Bear.lst ?zb3; (case zb3 => (repeat (with_reducible first | exact List.mem_cons_self | refine List.mem_cons_of_mem _ ?_)))) | exact Bear.raw)); clear R; intro h' _ R; (try (first | show wpAny _ _ _ _ _ (St s h' _) | show wpAny _ _ _ _ _ (St s _ _) | show codeAny _ _ _ _ (St s _ _) | show ite _ (wpAny _ _ _ _ _ (St s _ _)) (wpAny _ _ _ _ _ (St s _ _))))); (with_reducible refine wpAny_execs_cons ?_); (with_reducible refine wpAny_If ?_); (refine wpAny_isTrue_value ?_); (with_reducible refine wpAny_BinOp ?_); (refine' r_locS EO R ?zhv ?zhf ?_ ?zhx ?zhd; (case zhx => exact rfl); (case zhv => exact rfl); (case zhf => exact rfl); (case zhd => decide); intro _); (with_reducible refine q_cint ?_); (refine' q_modi (b := _) ?zhb ?_; (case zhb => (first | exact om33 | assumption | decide))); (with_reducible refine P.truthy_int ?_))
      (first | show wpAny _ _ _ _ _ (St s h' _) | show wpAny _ _ _ _ _ (St s _ _) | show codeAny _ _ _ _ (St s _ _) | show ite _ (wpAny _ _ _ _ _ (St s _ _)) (wpAny _ _ _ _ _ (St s _ _)))
      replace R := Rep.loc [("sixth", V.int (six : Int)), ("p", V.int (p : Int)), ("c", V.int c), ("turns", V.lst [.int t0, .int t1]), ("row", V.lst (prs ps)), ("kind", V.int kind), ("ends", V.lst endsV), ("k", V.int (k : Int))] R ⟨by rw [← hsix]; rfl, rfl, rfl, rfl, rfl, rfl, rfl, rfl, trivial⟩
      replace R := Rep.tmps tmp R (fun q hq => by (repeat (with_reducible first | assumption | exact List.mem_cons_self | refine List.mem_cons_of_mem _ ?_)))
      refine ite_join (fun fl s' => fl = .next ∧ ∃ h' tk, Rep K₀ ((L, Mo.ns [("light", V.tup [.float fa, .float fb, .float fc]), ("p", V.int (p : Int)), ("c", V.int c), ("turns", V.lst [.int t0, .int t1]), ("row", V.lst (prs ps)), ("kind", V.int kind), ("ends", V.lst endsV), ("k", V.int (k : Int))]) :: (I, rangeIt 1 (p - 1) (i + 1)) ::
        (L + 1 + 1 + 1 + 1, Mo.cell lv) :: (L + 1 + 1 + 1, Mo.cell (some (.lst (tailsV ch)))) :: (L + 1 + 1, Mo.cell (some (.lst ((dotsAt p c t0 t1 ps i).map V.int)))) :: (L + 1, Mo.cell (some (.str (strL [ch, 46])))) :: (170, Mo.tab siteL) :: (pre ++ post)) tmp h' ∧ s' = (St s h' tk)) ?mid ?h1 ?h2
      case h1 =>
        intro hodd
        have hpt := (hcond (bne_iff_ne.mp hodd)).1
        have hfin := (hcond (bne_iff_ne.mp hodd)).2.1
        have hsm := (hcond (bne_iff_ne.mp hodd)).2.2
        ((with_reducible refine wpAny_execs_cons ?_); (refine wpAny_Assign_Name ?_); (refine Call_ ?_); (refine' r_glob EO S R ?ze ?_ ?zhx ?zhd; (case zhx => exact rfl); (case ze => k_is); (case zhd => decide)); (refine' callWith_K ?zx ?zk ?_; (case zx => exact S.x); (case zk => k_is)); (refine wpAny_items_cons ?_); (with_reducible refine wpAny_BinOp ?_); (with_reducible refine wpAny_BinOp ?_); (refine' r_locS EO R ?zhv ?zhf ?_ ?zhx ?zhd; (case zhx => exact rfl); (case zhv => exact rfl); (case zhf => exact rfl); (case zhd => decide); intro _); (with_reducible refine q_cint ?_); (refine' r_divii AO ?zhj ?zhb ?_; (case zhj => (first | exact om114 | assumption | decide)); (case zhb => (first | exact om115 hs6 | assumption | decide)); intro _ _); (refine' r_locS EO R ?zhv ?zhf ?_ ?zhx ?zhd; (case zhx => exact rfl); (case zhv => exact rfl); (case zhf => exact rfl); (case zhd => decide); intro _); (refine' r_addfi AO ?zhb ?_; (case zhb => (first | exact om116 hp hp2 hk hkp | assumption | decide)); intro _ _); (refine wpAny_items_cons ?_); (with_reducible refine q_cfloat ?_); (refine wpAny_items_cons ?_); (with_reducible refine q_cfloat ?_); (with_reducible refine wpAny_items_nil ?_); (refine ⟨(Rep.stat R S).x, ?_⟩))
        (first | show wpAny _ _ _ _ _ (St s h' _) | show wpAny _ _ _ _ _ (St s _ _) | show codeAny _ _ _ _ (St s _ _) | show ite _ (wpAny _ _ _ _ _ (St s _ _)) (wpAny _ _ _ _ _ (St s _ _)))
        show wpAny _ _ (call (.ref 161) [.float (Float64.add (fdivi six 6) (Float64.ofInt k)) _, .float c1 _, .float c1 _]) _ _ _
        refine' spec_hsv (AO.le (show 1 ≤ n + 9 by exact om117)) S R hfin hsm ?_
        clear R; intro h' tk t' R
        rw [hpt] at R
        ((refine' r_store EO R ?zhx ?zhv ?_; (case zhx => exact rfl); (case zhv => (with_reducible first | exact Bear.int | exact Bear.float | exact Bear.str | exact Bear.bool | exact Bear.none | (refine' Bear.tup ?zb3; (case zb3 => (repeat (with_reducible first | exact List.mem_cons_self | refine List.mem_cons_of_mem _ ?_)))) | (refine' Bear.lst ?zb3; (case zb3 => (repeat (with_reducible first | exact List.mem_cons_self | refine List.mem_cons_of_mem _ ?_)))) | exact Bear.raw)); clear R; intro h' _ R; (try (first | show wpAny _ _ _ _ _ (St s h' _) | show wpAny _ _ _ _ _ (St s _ _) | show codeAny _ _ _ _ (St s _ _) | show ite _ (wpAny _ _ _ _ _ (St s _ _)) (wpAny _ _ _ _ _ (St s _ _))))); (with_reducible refine wpAny_execs_nil ?_))
        exact ⟨rfl, _, _, Rep.drop (Rep.loc _ R ⟨rfl, rfl, rfl, rfl, rfl, rfl, rfl, rfl, trivial⟩) fun q hq => by (repeat (with_reducible first | assumption | exact List.mem_cons_self | refine List.mem_cons_of_mem _ ?_)), rfl⟩
      case h2 =>
        intro heven
        have hpt := hcond2 (fun q => heven (bne_iff_ne.mpr q))
        ((with_reducible refine wpAny_execs_cons ?_); (refine wpAny_Assign_Name ?_); (refine Call_ ?_); (refine' r_glob EO S R ?ze ?_ ?zhx ?zhd; (case zhx => exact rfl); (case ze => k_is); (case zhd => decide)); (refine' callWith_K ?zx ?zk ?_; (case zx => exact S.x); (case zk => k_is)); (refine wpAny_items_cons ?_); (with_reducible refine wpAny_BinOp ?_); (with_reducible refine wpAny_BinOp ?_); (refine' r_locS EO R ?zhv ?zhf ?_ ?zhx ?zhd; (case zhx => exact rfl); (case zhv => exact rfl); (case zhf => exact rfl); (case zhd => decide); intro _); (with_reducible refine q_cint ?_); (refine' r_divii AO ?zhj ?zhb ?_; (case zhj => (first | exact om114 | assumption | decide)); (case zhb => (first | exact om115 hs6 | assumption | decide)); intro _ _); (refine' r_locS EO R ?zhv ?zhf ?_ ?zhx ?zhd; (case zhx => exact rfl); (case zhv => exact rfl); (case zhf => exact rfl); (case zhd => decide); intro _); (refine' r_subfi AO ?zhb ?_; (case zhb => (first | exact om116 hp hp2 hk hkp | assumption | decide)); intro _ _); (refine wpAny_items_cons ?_); (with_reducible refine q_cfloat ?_); (refine wpAny_items_cons ?_); (with_reducible refine q_cfloat ?_); (with_reducible refine wpAny_items_nil ?_); (refine ⟨(Rep.stat R S).x, ?_⟩))
        (first | show wpAny _ _ _ _ _ (St s h' _) | show wpAny _ _ _ _ _ (St s _ _) | show codeAny _ _ _ _ (St s _ _) | show ite _ (wpAny _ _ _ _ _ (St s _ _)) (wpAny _ _ _ _ _ (St s _ _)))
        show wpAny _ _ (call (.ref 140) [.float (Float64.sub (fdivi six 6) (Float64.ofInt k)) _, .float Mine.ch _, .float c1 _]) _ _ _
        refine' spec_hls (AO.le (show 2 ≤ n + 9 by exact om99)) S R ?_
        clear R; intro h' tk t' R
        rw [hpt] at R
        ((refine' r_store EO R ?zhx ?zhv ?_; (case zhx => exact rfl); (case zhv => (with_reducible first | exact Bear.int | exact Bear.float | exact Bear.str | exact Bear.bool | exact Bear.none | (refine' Bear.tup ?zb3; (case zb3 => (repeat (with_reducible first | exact List.mem_cons_self | refine List.mem_cons_of_mem _ ?_)))) | (refine' Bear.lst ?zb3; (case zb3 => (repeat (with_reducible first | exact List.mem_cons_self | refine List.mem_cons_of_mem _ ?_)))) | exact Bear.raw)); clear R; intro h' _ R; (try (first | show wpAny _ _ _ _ _ (St s h' _) | show wpAny _ _ _ _ _ (St s _ _) | show codeAny _ _ _ _ (St s _ _) | show ite _ (wpAny _ _ _ _ _ (St s _ _)) (wpAny _ _ _ _ _ (St s _ _))))); (with_reducible refine wpAny_execs_nil ?_))
        exact ⟨rfl, _, _, Rep.drop (Rep.loc _ R ⟨rfl, rfl, rfl, rfl, rfl, rfl, rfl, rfl, trivial⟩) fun q hq => by (repeat (with_reducible first | assumption | exact List.mem_cons_self | refine List.mem_cons_of_mem _ ?_)), rfl⟩
      case mid =>
        clear R
        rintro fl s' ⟨rfl, h', tk, R, rfl⟩
        have hy : [y0, y1, y2] = [x0, x1, x2] := hlit2.symm.trans hlit
        have ey0 : y0 = x0 := (List.cons.inj hy).1
        have ey1 : y1 = x1 := (List.cons.inj (List.cons.inj hy).2).1
        have ey2 : y2 = x2 := (List.cons.inj (List.cons.inj (List.cons.inj hy).2).2).1
        subst ey0
        subst ey1
        subst ey2
        have hdz : dotsAt p c t0 t1 ps (i + 1) = [d0 + y0, d1 + y1, d2 + y2, d3 + 1] := by
          simp only [dotsAt, hk, if_pos hm0, hds, hsix, Int.toNat_natCast, hlit]; rfl
        rw [hds] at R
        refine wpAny_mono (lights_rest ?e rfl EO AO S R ?k0 ?k1 hch hfa hfb hfc hx0 hx1 hx2 ?q0 ?q1 ?q2 ?q3) (fun fl s' hq => ?_) fun _ _ x => x
        case e => with_unfolding_all exact rfl
        case k0 => exact om118 hk0 hk3 hk
        case k1 => exact om119 hp hp2 hk0 hk3 hkp
        case q0 => exact om120 hp hp2 hk hkp b0
        case q1 => exact om120 hp hp2 hk hkp b1
        case q2 => exact om120 hp hp2 hk hkp b2
        case q3 => exact om120 hp hp2 hk hkp b3
        obtain ⟨rfl, lv', h3, tk3, R3, rfl⟩ := hq
        clear R
        have R := R3
        clear R3
        ((with_reducible refine wpAny_execs_nil ?_))
        refine ⟨rfl, _, _, _, _, ⟨rfl, lv', rfl⟩, ?_, rfl⟩
        rw [hdz]
        exact Rep.loc _ R ⟨rfl, rfl, rfl, rfl, rfl, rfl, trivial⟩
    · ((with_reducible refine wpAny_execs_cons ?_); (refine wpAny_Assign_Name ?_); (with_reducible refine wpAny_BinOp ?_); (refine r_ev EO AO R ?_; ((repeat (refine And.intro ?zc ?_; (case zc => (first | assumption | (with_unfolding_all decide +kernel) | omega)))); intro _ _)); (refine' r_locS EO R ?zhv ?zhf ?_ ?zhx ?zhd; (case zhx => exact rfl); (case zhv => exact rfl); (case zhf => exact rfl); (case zhd => decide); intro _); (refine' q_modi (b := _) ?zhb ?_; (case zhb => (first | exact om98 hp hp2 | assumption | decide))); (refine' r_store EO R ?zhx ?zhv ?_; (case zhx => exact rfl); (case zhv => (with_reducible first | exact Bear.int | exact Bear.float | exact Bear.str | exact Bear.bool | exact Bear.none | (refine' Bear.tup ?zb3; (case zb3 => (repeat (with_reducible first | exact List.mem_cons_self | refine List.mem_cons_of_mem _ ?_)))) | (refine' Bear.lst ?zb3; (case zb3 => (repeat (with_reducible first | exact List.mem_cons_self | refine List.mem_cons_of_mem _ ?_)))) | exact Bear.raw)); clear R; intro h' _ R; (try (first | show wpAny _ _ _ _ _ (St s h' _) | show wpAny _ _ _ _ _ (St s _ _) | show codeAny _ _ _ _ (St s _ _) | show ite _ (wpAny _ _ _ _ _ (St s _ _)) (wpAny _ _ _ _ _ (St s _ _))))); (with_reducible refine wpAny_execs_cons ?_); (with_reducible refine wpAny_If ?_); (with_reducible refine wpAny_isTrue_Compare1 ?_); (refine' r_locS EO R ?zhv ?zhf ?_ ?zhx ?zhd; (case zhx => exact rfl); (case zhv => exact rfl); (case zhf => exact rfl); (case zhd => decide); intro _); (with_reducible refine q_cint ?_); (with_reducible refine P.gt_int ?_); (with_reducible refine wpAny_truthy_bool ?_); (refine PySem.W.ite_neg (by (first | (with_reducible exact Bool.false_ne_true) | (simp only [decide_eq_true_eq, beq_iff_eq, bne_iff_ne, ne_eq, Bool.false_eq_true, not_false_eq_true]; first | done | assumption | omega) | omega)) ?_); (with_reducible refine wpAny_execs_nil ?_); (with_reducible refine wpAny_execs_nil ?_))
      have hdz : dotsAt p c t0 t1 ps (i + 1) = dotsAt p c t0 t1 ps i := by simp only [dotsAt, hk, if_neg hm0]
      rw [← hdz] at R
      exact ⟨rfl, _, _, _, _, ⟨rfl, lv, rfl⟩, Rep.drop (Rep.loc _ R ⟨rfl, rfl, rfl, rfl, rfl, rfl, trivial⟩) fun q hq => by (repeat (with_reducible first | assumption | exact List.mem_cons_self | refine List.mem_cons_of_mem _ ?_)), rfl⟩
  clear R
  rintro l led' h' tk ⟨rfl, lv, rfl⟩ R
  rw [rangeV_length] at R
  ((with_reducible refine wpAny_execs_cons ?_); (with_reducible refine wpAny_Return_some ?_))
  (first | show wpAny _ _ _ _ _ (St s h' _) | show wpAny _ _ _ _ _ (St s _ _) | show codeAny _ _ _ _ (St s _ _) | show ite _ (wpAny _ _ _ _ _ (St s _ _)) (wpAny _ _ _ _ _ (St s _ _)))
  refine' r_listComp EO ?hclos rfl ?hnames ?_ ?hs
  case hclos => exact rfl
  case hnames => decide
  case hs => intro _; rfl
  ((refine Call_ ?_); (refine' r_bi EO S R ?ze ?zhv ?_ ?zhn ?zhx ?zhd; (case zhx => exact rfl); (case ze => k_is); (case zhv => boot_fast); (case zhn => decide); (case zhd => decide)); (refine Pv.callWith_type1 ?_); (refine wpAny_items_cons ?_); (with_reducible refine q_cint ?_); (with_reducible refine wpAny_items_nil ?_))
  show wpAny _ _ (call (.type "range") [.int 3 _]) _ _ _
  refine' r_range1 R ?_
  clear R; intro r h' tk2 t u v R
  (first | show wpAny _ _ _ _ _ (St s h' _) | show wpAny _ _ _ _ _ (St s _ _) | show codeAny _ _ _ _ (St s _ _) | show ite _ (wpAny _ _ _ _ _ (St s _ _)) (wpAny _ _ _ _ _ (St s _ _)))
  have hd4 := dotsAt_length (p := p) (c := c) (t0 := t0) (t1 := t1) (ps := ps) (p - 1)
  obtain ⟨ds, hds⟩ : ∃ ds, ds = dotsAt p c t0 t1 ps (p - 1) := ⟨_, rfl⟩
  rw [← hds] at R h hd4
  refine' r_compR AO EO R (k := 3) (outs := (ds.take 3).map fun d => V.int (d - 1)) ?g1 ?g2 ?g3 ?g4 ?g5 ?hcell rfl ?hx ?turn ?_
  case g1 => decide
  case g2 => decide
  case g3 => decide
  case g4 => rw [List.length_map, List.length_take, hd4]; rfl
  case g5 => decide
  case hcell => decide
  case hx => rfl
  case turn =>
    clear R
    intro I C D i v u t s E' hi hu EO R
    obtain ⟨hik, rfl⟩ := rangeV_get hi
    have hi0 : (0 : Int) + (i : Int) = i := Int.zero_add _
    rw [hi0] at R
    obtain ⟨d, hd⟩ : ∃ d, ds[i]? = some d := ⟨_, List.getElem?_eq_getElem (by exact om121 hd4 hik)⟩
    have hu' : u = V.int (d - 1) := by
      rw [List.getElem?_map, List.getElem?_take, if_pos hik, hd] at hu
      exact (Option.some.inj hu).symm
    subst hu'
    ((with_reducible refine wpAny_BinOp ?_); (refine Subscript_ ?_); (refine' r_cell EO R ?zhc ?zhm ?_ ?zhx ?zhd ?zhn; (case zhx => (first | exact Or.inl rfl | exact Or.inr rfl)); (case zhc => first | assumption | exact rfl); (case zhm => (repeat (with_reducible first | assumption | exact List.mem_cons_self | refine List.mem_cons_of_mem _ ?_))); (case zhd => decide); (case zhn => decide); clear R; intro _ R); (refine' r_locS EO R ?zhv ?zhf ?_ ?zhx ?zhd; (case zhx => exact rfl); (case zhv => exact rfl); (case zhf => exact rfl); (case zhd => decide); intro _))
    show wpAny _ _ (subscriptTail _ _ (.ref _) (.int (i : Int) _)) _ _ _
    refine' r_itemL R ?hm ?i1 ?i2 (v := .int d) ?hv ?_
    case hm => (repeat (with_reducible first | assumption | exact List.mem_cons_self | refine List.mem_cons_of_mem _ ?_))
    case i1 => exact om122 hik
    case i2 => exact om123 hik
    case hv => rw [Int.toNat_natCast, List.getElem?_map, hd]; rfl
    clear R; intro t' R
    ((with_reducible refine q_cint ?_); (with_reducible refine q_subi ?_))
    replace R := Rep.loc [("i", V.int (0 + (i : Int)))] R ⟨by rw [hi0]; rfl, trivial⟩
    exact ⟨_, _, _, Bear.int, fun q hq => by (repeat (with_reducible first | assumption | exact List.mem_cons_self | refine List.mem_cons_of_mem _ ?_)), R, rfl⟩
  clear R
  intro C D l h'' tk3 R
  refine compEnd R fun h3 R => ?_
  exact h _ _ D (Rep.down R.dropLed.dropLed.dropLed.dropLed.dropLed)

end Mine

/-! S27 -/
namespace Mine
noncomputable def rowOf (p root : Nat) : List (Int × Int) := (pw p root (p - 1)).1
noncomputable def PrimeOk (p root : Nat) : Prop := (p = 7 ∧ root = 3) ∨ (p = 13 ∧ root = 2) ∨ (p = 19 ∧ root = 2)
theorem keys_row {p root : Nat} (h : PrimeOk p root) : rangeV 1 (p - 1) = (keys (rowOf p root)).map V.int := by
  have e : ∀ k, rangeV 1 k = ((List.range k).map fun i => (1 : Int) + (i : Nat)).map V.int := fun k => by rw [rangeV, List.map_map]; rfl
  rw [e]
  congr 1
  rcases h with ⟨rfl, rfl⟩ | ⟨rfl, rfl⟩ | ⟨rfl, rfl⟩ <;> decide +kernel
theorem row_length {p root : Nat} : (rowOf p root).length = p - 1 := pw_length _
theorem bis_row {p root : Nat} (h : PrimeOk p root) : ∀ m : Nat, 0 < m → m < p → bisL (keys (rowOf p root)) m (rowOf p root).length 0 (rowOf p root).length < (rowOf p root).length := by
  intro m h0 hm
  revert h0
  revert m
  rcases h with ⟨rfl, rfl⟩ | ⟨rfl, rfl⟩ | ⟨rfl, rfl⟩ <;> decide +kernel
/-- all that the law asks of one choice -/
structure PlainAt (p root : Nat) (c t0 t1 l0 l1 l2 spread along : Int) : Prop where
  hd : (dotsAt p c t0 t1 (rowOf p root) (p - 1)).take 3 = [l0 + 1, l1 + 1, l2 + 1]
  hl0 : 0 ≤ l0 ∧ l0 ≤ 20
  hl1 : 0 ≤ l1 ∧ l1 ≤ 20
  hl2 : 0 ≤ l2 ∧ l2 ≤ 20
  hsp : 0 ≤ spread ∧ spread ≤ 40
  hal : 0 ≤ along ∧ along ≤ 40
  hls : ∃ h l s x y z, HlsT l0 l1 l2 spread along h l s x y z
  hsv : ∃ h l s x y z, HsvT l0 l1 l2 spread along h l s x y z
  hsq : SqOk spread along p c t0 t1
  hdue : ∀ times : Int, times = 1 ∨ times = 5 → ∃ first second few k3 mx cnt w due, Due p root c t0 t1 l0 l1 l2 times first second few k3 mx cnt w due
noncomputable def PlainAll : Prop := ∀ (p root : Nat) (c t0 t1 : Int), PrimeOk p root → 0 ≤ c → c < p → 1 ≤ t0 → t0 ≤ 6 → 1 ≤ t1 → t1 ≤ 6 → ∃ l0 l1 l2 spread along, PlainAt p root c t0 t1 l0 l1 l2 spread along
theorem share_bd (ns : List Int) (k : Nat) (hn : ns.length ≤ 1000) : 0 ≤ sumK ns k ∧ sumK ns k ≤ 1000000000 := by
  have key : ∀ l : List Int, (0 : Int) ≤ (l.map fun x => x.fmod (10 ^ 6)).sum ∧ (l.map fun x => x.fmod (10 ^ 6)).sum ≤ 1000000 * l.length := by
    intro l
    induction l with
    | nil => simp
    | cons x l ih =>
      have h1 := Int.fmod_nonneg_of_pos x (show (0 : Int) < 10 ^ 6 by decide)
      have h2 := Int.fmod_lt_of_pos x (show (0 : Int) < 10 ^ 6 by decide)
      rw [List.map_cons, List.sum_cons, List.length_cons]
      have h3 : (10 : Int) ^ 6 = 1000000 := by decide
      exact om235 ih h1 h2
  have h := key (pickNums ns (some (k : Int)) none (some 4))
  have h2 := pick_length ns (some (k : Int)) none (some 4)
  unfold sumK share
  exact om236 hn h h2
theorem r_chr {h₀ : Heap} {t₀ : Nat} {prog : Program} {w : World} {A : Around} {E : Value → Shared → Prop} {s : Shared} {i : Int} {c : Nat} {t : Tok} {Q : Value → Shared → Prop} (e : i = c) (hc : c ≤ 60000) (h : ∀ tk t, Q (.str (strL [c]) t) (St s h₀ tk)) :
    wpAny (model prog w) A (call (.builtin "chr") [.int i t]) Q E (St s h₀ t₀) := by
  subst e
  refine P.chr_of_int ?_ (h _ _)
  rw [Bool.or_eq_false_iff, decide_eq_false_iff_not, decide_eq_false_iff_not]
  exact om237 hc
theorem law_top {w : World} {A : Around} {E : Value → Shared → Prop} {s : Shared} {K₀ : Heap} {led : List (Nat × Mo)} {tmp : List (V × Nat)} {n : Nat} {ns : List Int} {env : Env} {L cT cP cS : Nat} {qual : Str} {code : Value} {cl : List (Str × Addr)} {sc : Scope} {rest : List Stmt}
    (e : lawOf (hd.heap_39 w.params) 0 = some (sc, rest)) (hcl : cl = [(("times" : Str), cT), ("p", cP), ("script", cS)])
    (EO : EnvOk env sc L cl qual code) (AO : AOk A (n + 450)) (S : Stat (hd.heap_39 w.params) K₀) (hC : CodeHd K₀ 68 64) (hC2 : CodeHd K₀ 75 71) (hC3 : CodeHd K₀ 167 163) (hC4 : CodeHd K₀ 172 170)
    (R : Rep K₀ ((L, Mo.ns []) :: (cT, Mo.cell none) :: (cP, Mo.cell none) :: (cS, Mo.cell (some (.lst (ns.map V.int)))) :: led) tmp s.heap) (hn : ns.length ≤ 1000)
    (hT : (64, Mo.tab siteA) ∈ led) (hT2 : (71, Mo.tab siteD) ∈ led) (hT3 : (163, Mo.tab siteP) ∈ led) (hT4 : (170, Mo.tab siteL) ∈ led) (hplain : PlainAll) :
    wpAny (model PySem.Challenge.rw_uk0010_01.row.prog w) A (execs rest env) (fun fl s' => fl = .ret (.bool true) ∧ ∃ tmp' h' tk, Rep K₀ led tmp' h' ∧ s' = (St s h' tk)) E s := by
  subst hcl
  revert S
  k_fill
  intro S
  refine' inner_is ?e0 e ?_
  case e0 => with_unfolding_all exact rfl
  intro q0
  cases q0
  clear e
  dsimp only [List.drop] at EO ⊢
  ((with_reducible refine wpAny_execs_cons ?_))
  refine wpAny_mono (law_sums (n := n) ?e rfl EO AO S R hn) (fun fl s'' hq => ?_) fun _ _ x => x
  case e => with_unfolding_all exact rfl
  obtain ⟨rfl, h', tk, R2, rfl⟩ := hq
  clear R
  have R := R2
  clear R2
  have b0 := share_bd ns 0 hn
  have b1 := share_bd ns 1 hn
  have b2 := share_bd ns 2 hn
  have b3 := share_bd ns 3 hn
  obtain ⟨s0, hs0⟩ : ∃ s0, 0 + sumK ns 0 = s0 := ⟨_, rfl⟩
  obtain ⟨s1, hs1⟩ : ∃ s1, 6 + sumK ns 1 = s1 := ⟨_, rfl⟩
  obtain ⟨s2, hs2⟩ : ∃ s2, 6 + sumK ns 2 = s2 := ⟨_, rfl⟩
  obtain ⟨s3, hs3⟩ : ∃ s3, 1 + sumK ns 3 = s3 := ⟨_, rfl⟩
  rw [hs0, hs1, hs2, hs3] at R
  obtain ⟨p, root, hpr, hpv⟩ : ∃ p root : Nat, PrimeOk p root ∧ [V.tup [.int 7, .int 3], V.tup [.int 13, .int 2], V.tup [.int 19, .int 2]][(s0.fmod 3).toNat]? = some (V.tup [.int p, .int root]) := by
    have h1 := Int.fmod_nonneg_of_pos s0 (show (0 : Int) < 3 by decide)
    have h2 := Int.fmod_lt_of_pos s0 (show (0 : Int) < 3 by decide)
    obtain ⟨k, hk⟩ : ∃ k, (s0.fmod 3).toNat = k := ⟨_, rfl⟩
    have hk3 : k < 3 := by exact om238 h1 h2 hk
    rw [hk]
    match k, hk3 with
    | 0, _ => exact ⟨7, 3, .inl ⟨rfl, rfl⟩, rfl⟩
    | 1, _ => exact ⟨13, 2, .inr (.inl ⟨rfl, rfl⟩), rfl⟩
    | 2, _ => exact ⟨19, 2, .inr (.inr ⟨rfl, rfl⟩), rfl⟩
  obtain ⟨t0, ht0⟩ : ∃ t0, 1 + s2.fmod 6 = t0 := ⟨_, rfl⟩
  obtain ⟨t1, ht1⟩ : ∃ t1, 1 + (s2.fdiv 6).fmod 6 = t1 := ⟨_, rfl⟩
  have t0a : 1 ≤ t0 ∧ t0 ≤ 6 := by
    have h1 := Int.fmod_nonneg_of_pos s2 (show (0 : Int) < 6 by decide)
    have h2 := Int.fmod_lt_of_pos s2 (show (0 : Int) < 6 by decide)
    exact om239 ht0 h1 h2
  have t1a : 1 ≤ t1 ∧ t1 ≤ 6 := by
    have h1 := Int.fmod_nonneg_of_pos (s2.fdiv 6) (show (0 : Int) < 6 by decide)
    have h2 := Int.fmod_lt_of_pos (s2.fdiv 6) (show (0 : Int) < 6 by decide)
    exact om239 ht1 h1 h2
  have h1 := Int.fmod_nonneg_of_pos s0 (show (0 : Int) < 3 by decide)
  have h2 := Int.fmod_lt_of_pos s0 (show (0 : Int) < 3 by decide)
  (first | show wpAny _ _ _ _ _ (St s h' _) | show wpAny _ _ _ _ _ (St s _ _) | show codeAny _ _ _ _ (St s _ _) | show ite _ (wpAny _ _ _ _ _ (St s _ _)) (wpAny _ _ _ _ _ (St s _ _)))
  ((with_reducible refine wpAny_execs_cons ?_); (refine Assign_Tuple ?_); (refine Subscript_ ?_); (with_reducible refine List_ ?_); (refine wpAny_items_cons ?_); (refine' r_tupE EO AO R ?_ ?zhs; (case zhs => exact of_decide_eq_true rfl); ((repeat (refine And.intro ?zc ?_; (case zc => (first | assumption | (with_unfolding_all decide +kernel) | omega)))); clear R; intro h' _ _ R; (try (first | show wpAny _ _ _ _ _ (St s h' _) | show wpAny _ _ _ _ _ (St s _ _) | show codeAny _ _ _ _ (St s _ _) | show ite _ (wpAny _ _ _ _ _ (St s _ _)) (wpAny _ _ _ _ _ (St s _ _)))))); (refine wpAny_items_cons ?_); (refine' r_tupE EO AO R ?_ ?zhs; (case zhs => exact of_decide_eq_true rfl); ((repeat (refine And.intro ?zc ?_; (case zc => (first | assumption | (with_unfolding_all decide +kernel) | omega)))); clear R; intro h' _ _ R; (try (first | show wpAny _ _ _ _ _ (St s h' _) | show wpAny _ _ _ _ _ (St s _ _) | show codeAny _ _ _ _ (St s _ _) | show ite _ (wpAny _ _ _ _ _ (St s _ _)) (wpAny _ _ _ _ _ (St s _ _)))))); (refine wpAny_items_cons ?_); (refine' r_tupE EO AO R ?_ ?zhs; (case zhs => exact of_decide_eq_true rfl); ((repeat (refine And.intro ?zc ?_; (case zc => (first | assumption | (with_unfolding_all decide +kernel) | omega)))); clear R; intro h' _ _ R; (try (first | show wpAny _ _ _ _ _ (St s h' _) | show wpAny _ _ _ _ _ (St s _ _) | show codeAny _ _ _ _ (St s _ _) | show ite _ (wpAny _ _ _ _ _ (St s _ _)) (wpAny _ _ _ _ _ (St s _ _)))))); (with_reducible refine wpAny_items_nil ?_); (refine' r_newList R ?zhv ?_ ?zhs; (case zhv => (repeat (first | exact Bears.nil | (apply Bears.cons; (with_reducible first | exact Bear.int | exact Bear.float | exact Bear.str | exact Bear.bool | exact Bear.none | (refine' Bear.tup ?zb3; (case zb3 => (repeat (with_reducible first | exact List.mem_cons_self | refine List.mem_cons_of_mem _ ?_)))) | (refine' Bear.lst ?zb3; (case zb3 => (repeat (with_reducible first | exact List.mem_cons_self | refine List.mem_cons_of_mem _ ?_)))) | exact Bear.raw))))); (case zhs => exact of_decide_eq_true (by rfl)); clear R; intro _ h' R; (try (first | show wpAny _ _ _ _ _ (St s h' _) | show wpAny _ _ _ _ _ (St s _ _) | show codeAny _ _ _ _ (St s _ _) | show ite _ (wpAny _ _ _ _ _ (St s _ _)) (wpAny _ _ _ _ _ (St s _ _))))); (with_reducible refine wpAny_BinOp ?_); (refine Subscript_ ?_); (refine' r_loc EO R ?zhv ?_ ?zhx ?zhd; (case zhx => exact rfl); (case zhv => exact rfl); (case zhd => decide); clear R; intro _ R); (with_reducible refine q_cint ?_); (refine' r_itemL R ?zhm ?zi1 ?zi2 ?zhv ?_ ?zhs; (case zhm => (repeat (with_reducible first | assumption | exact List.mem_cons_self | refine List.mem_cons_of_mem _ ?_))); (case zhs => with_unfolding_all rfl); (case zhv => first | with_reducible assumption | exact rfl); (case zi1 => exact om110); (case zi2 => exact om111); clear R; intro _ R); (with_reducible refine q_cint ?_); (refine' q_modi (b := _) ?zhb ?_; (case zhb => (first | exact om58 | assumption | decide))); (refine' r_itemL R ?zhm ?zi1 ?zi2 ?zhv ?_ ?zhs; (case zhm => (repeat (with_reducible first | assumption | exact List.mem_cons_self | refine List.mem_cons_of_mem _ ?_))); (case zhs => with_unfolding_all rfl); (case zhv => first | with_reducible assumption | exact rfl); (case zi1 => exact om240 h1); (case zi2 => exact om241 h1 h2); clear R; intro _ R); (refine' r_asgTup2 AO R ?zhm rfl ?_; (case zhm => (repeat (with_reducible first | assumption | exact List.mem_cons_self | refine List.mem_cons_of_mem _ ?_))); clear R; intro h' _ _ R; (try (first | show wpAny _ _ _ _ _ (St s h' _) | show wpAny _ _ _ _ _ (St s _ _) | show codeAny _ _ _ _ (St s _ _) | show ite _ (wpAny _ _ _ _ _ (St s _ _)) (wpAny _ _ _ _ _ (St s _ _))))); (refine wpAny_assign_Name ?_))
  (first | show wpAny _ _ _ _ _ (St s h' _) | show wpAny _ _ _ _ _ (St s _ _) | show codeAny _ _ _ _ (St s _ _) | show ite _ (wpAny _ _ _ _ _ (St s _ _)) (wpAny _ _ _ _ _ (St s _ _)))
  replace R := Rep.up2 R
  show wpAny _ _ (storeName env _ (.int (p : Int) _)) _ _ _
  refine' r_storeC1 EO R ?hx ?hc (v := .int (p : Int)) ?hb ?_
  case hx => rfl
  case hc => rfl
  case hb => exact Bear.int
  clear R; intro h' R
  replace R := Rep.dn2 R
  (first | show wpAny _ _ _ _ _ (St s h' _) | show wpAny _ _ _ _ _ (St s _ _) | show codeAny _ _ _ _ (St s _ _) | show ite _ (wpAny _ _ _ _ _ (St s _ _)) (wpAny _ _ _ _ _ (St s _ _)))
  ((refine wpAny_assign_Name ?_); (refine' r_store EO R ?zhx ?zhv ?_; (case zhx => exact rfl); (case zhv => (with_reducible first | exact Bear.int | exact Bear.float | exact Bear.str | exact Bear.bool | exact Bear.none | (refine' Bear.tup ?zb3; (case zb3 => (repeat (with_reducible first | exact List.mem_cons_self | refine List.mem_cons_of_mem _ ?_)))) | (refine' Bear.lst ?zb3; (case zb3 => (repeat (with_reducible first | exact List.mem_cons_self | refine List.mem_cons_of_mem _ ?_)))) | exact Bear.raw)); clear R; intro h' _ R; (try (first | show wpAny _ _ _ _ _ (St s h' _) | show wpAny _ _ _ _ _ (St s _ _) | show codeAny _ _ _ _ (St s _ _) | show ite _ (wpAny _ _ _ _ _ (St s _ _)) (wpAny _ _ _ _ _ (St s _ _))))); (with_reducible refine wpAny_execs_cons ?_))
  replace R := Rep.loc [("root", V.int (root : Int)), ("sums", V.lst [.int s0, .int s1, .int s2, .int s3])] R ⟨rfl, rfl, trivial⟩
  replace R := Rep.tmps tmp R (fun q hq => by (repeat (with_reducible first | assumption | exact List.mem_cons_self | refine List.mem_cons_of_mem _ ?_)))
  (first | show wpAny _ _ _ _ _ (St s h' _) | show wpAny _ _ _ _ _ (St s _ _) | show codeAny _ _ _ _ (St s _ _) | show ite _ (wpAny _ _ _ _ _ (St s _ _)) (wpAny _ _ _ _ _ (St s _ _)))
  refine' r_asgSwap EO (names := ["c", "turns"]) ?hw ?_ ?hs
  case hw => rfl
  case hs => rfl
  have hp : 2 ≤ p ∧ p ≤ 19 := by rcases hpr with ⟨rfl, _⟩ | ⟨rfl, _⟩ | ⟨rfl, _⟩ <;> decide
  have hrt : root ≤ 3 := by rcases hpr with ⟨_, rfl⟩ | ⟨_, rfl⟩ | ⟨_, rfl⟩ <;> decide
  ((with_reducible refine Tuple_ ?_); (refine wpAny_items_cons ?_); (refine Subscript_ ?_); (refine Call_ ?_); (refine' r_glob EO S R ?ze ?_ ?zhx ?zhd; (case zhx => exact rfl); (case ze => k_is); (case zhd => decide)); (refine' callWith_K ?zx ?zk ?_; (case zx => exact S.x); (case zk => k_is)); (refine wpAny_items_cons ?_); (with_reducible refine wpAny_UnaryOp ?_); (refine Subscript_ ?_); (refine' r_loc EO R ?zhv ?_ ?zhx ?zhd; (case zhx => exact rfl); (case zhv => exact rfl); (case zhd => decide); clear R; intro _ R); (with_reducible refine q_cint ?_); (refine' r_itemL R ?zhm ?zi1 ?zi2 ?zhv ?_ ?zhs; (case zhm => (repeat (with_reducible first | assumption | exact List.mem_cons_self | refine List.mem_cons_of_mem _ ?_))); (case zhs => with_unfolding_all rfl); (case zhv => first | with_reducible assumption | exact rfl); (case zi1 => exact om21); (case zi2 => exact om22); clear R; intro _ R); (with_reducible refine q_negi ?_); (refine wpAny_items_cons ?_); (refine' r_cellS EO R ?zhx ?zhc ?zhm ?zhf ?_ ?zhd ?zhn; (case zhx => (first | exact Or.inl rfl | exact Or.inr rfl)); (case zhc => first | assumption | exact rfl); (case zhm => (repeat (with_reducible first | assumption | exact List.mem_cons_self | refine List.mem_cons_of_mem _ ?_))); (case zhf => exact rfl); (case zhd => decide); (case zhn => decide); intro _); (with_reducible refine wpAny_items_nil ?_); (refine ⟨(Rep.stat R S).x, ?_⟩))
  (first | show wpAny _ _ _ _ _ (St s h' _) | show wpAny _ _ _ _ _ (St s _ _) | show codeAny _ _ _ _ (St s _ _) | show ite _ (wpAny _ _ _ _ _ (St s _ _)) (wpAny _ _ _ _ _ (St s _ _)))
  show wpAny _ _ (call (.ref 90) [.int (-s1) _, .int (p : Int) _]) _ _ _
  obtain ⟨c, hcv⟩ : ∃ c, (-s1) % (p : Int) = c := ⟨_, rfl⟩
  have hc0 : 0 ≤ c := by rw [← hcv]; exact Int.emod_nonneg _ (by exact om201 hp)
  have hcp : c < p := by rw [← hcv]; exact Int.emod_lt_of_pos _ (by exact om214 hp)
  refine' spec_divmodE (k := n) (r := c) (AO.le (by exact om211)) S hC hC2 R ?m1 ?m2 ?g1 ?g2 ?g3 ?g4 hcv ?_
  case m1 => iterate 4 (with_reducible refine List.mem_cons_of_mem _ ?_)
             exact hT
  case m2 => iterate 4 (with_reducible refine List.mem_cons_of_mem _ ?_)
             exact hT2
  case g1 => exact om242 b1 hs1
  case g2 => exact om243 b1 hs1
  case g3 => exact om214 hp
  case g4 => exact om215 hp
  clear R; intro h' tk tx qx R
  (first | show wpAny _ _ _ _ _ (St s h' _) | show wpAny _ _ _ _ _ (St s _ _) | show codeAny _ _ _ _ (St s _ _) | show ite _ (wpAny _ _ _ _ _ (St s _ _)) (wpAny _ _ _ _ _ (St s _ _)))
  ((with_reducible refine q_cint ?_); (refine' r_itemT R ?zhm ?zi1 ?zi2 ?zhv ?_ ?zhs; (case zhm => (repeat (with_reducible first | assumption | exact List.mem_cons_self | refine List.mem_cons_of_mem _ ?_))); (case zhs => with_unfolding_all rfl); (case zhv => first | with_reducible assumption | exact rfl); (case zi1 => exact om21); (case zi2 => exact om22); clear R; intro _ R); (refine wpAny_items_cons ?_); (with_reducible refine List_ ?_); (refine wpAny_items_cons ?_); (with_reducible refine wpAny_BinOp ?_); (with_reducible refine q_cint ?_); (with_reducible refine wpAny_BinOp ?_); (refine Subscript_ ?_); (refine' r_loc EO R ?zhv ?_ ?zhx ?zhd; (case zhx => exact rfl); (case zhv => exact rfl); (case zhd => decide); clear R; intro _ R); (with_reducible refine q_cint ?_); (refine' r_itemL R ?zhm ?zi1 ?zi2 ?zhv ?_ ?zhs; (case zhm => (repeat (with_reducible first | assumption | exact List.mem_cons_self | refine List.mem_cons_of_mem _ ?_))); (case zhs => with_unfolding_all rfl); (case zhv => first | with_reducible assumption | exact rfl); (case zi1 => exact om156); (case zi2 => exact om157); clear R; intro _ R); (with_reducible refine q_cint ?_); (refine' q_modi (b := _) ?zhb ?_; (case zhb => (first | exact om114 | assumption | decide))); (with_reducible refine q_addi ?_); (refine wpAny_items_cons ?_); (with_reducible refine wpAny_BinOp ?_); (with_reducible refine q_cint ?_); (with_reducible refine wpAny_BinOp ?_); (with_reducible refine wpAny_BinOp ?_); (refine Subscript_ ?_); (refine' r_loc EO R ?zhv ?_ ?zhx ?zhd; (case zhx => exact rfl); (case zhv => exact rfl); (case zhd => decide); clear R; intro _ R); (with_reducible refine q_cint ?_); (refine' r_itemL R ?zhm ?zi1 ?zi2 ?zhv ?_ ?zhs; (case zhm => (repeat (with_reducible first | assumption | exact List.mem_cons_self | refine List.mem_cons_of_mem _ ?_))); (case zhs => with_unfolding_all rfl); (case zhv => first | with_reducible assumption | exact rfl); (case zi1 => exact om156); (case zi2 => exact om157); clear R; intro _ R); (with_reducible refine q_cint ?_); (refine' r_div ?zhb ?zhp ?_; (case zhb => (first | exact om114 | assumption | decide)); (case zhp => (first | exact om191 | assumption | decide)); intro _ _); (with_reducible refine q_cint ?_); (refine' q_modi (b := _) ?zhb ?_; (case zhb => (first | exact om114 | assumption | decide))); (with_reducible refine q_addi ?_); (with_reducible refine wpAny_items_nil ?_); (refine' r_newList R ?zhv ?_ ?zhs; (case zhv => (repeat (first | exact Bears.nil | (apply Bears.cons; (with_reducible first | exact Bear.int | exact Bear.float | exact Bear.str | exact Bear.bool | exact Bear.none | (refine' Bear.tup ?zb3; (case zb3 => (repeat (with_reducible first | exact List.mem_cons_self | refine List.mem_cons_of_mem _ ?_)))) | (refine' Bear.lst ?zb3; (case zb3 => (repeat (with_reducible first | exact List.mem_cons_self | refine List.mem_cons_of_mem _ ?_)))) | exact Bear.raw))))); (case zhs => exact of_decide_eq_true (by rfl)); clear R; intro _ h' R; (try (first | show wpAny _ _ _ _ _ (St s h' _) | show wpAny _ _ _ _ _ (St s _ _) | show codeAny _ _ _ _ (St s _ _) | show ite _ (wpAny _ _ _ _ _ (St s _ _)) (wpAny _ _ _ _ _ (St s _ _))))); (with_reducible refine wpAny_items_nil ?_); (refine' r_newTuple R ?zhv ?_ ?zhs; (case zhv => (repeat (first | exact Bears.nil | (apply Bears.cons; (with_reducible first | exact Bear.int | exact Bear.float | exact Bear.str | exact Bear.bool | exact Bear.none | (refine' Bear.tup ?zb3; (case zb3 => (repeat (with_reducible first | exact List.mem_cons_self | refine List.mem_cons_of_mem _ ?_)))) | (refine' Bear.lst ?zb3; (case zb3 => (repeat (with_reducible first | exact List.mem_cons_self | refine List.mem_cons_of_mem _ ?_)))) | exact Bear.raw))))); (case zhs => exact of_decide_eq_true (by rfl)); clear R; intro _ h' R; (try (first | show wpAny _ _ _ _ _ (St s h' _) | show wpAny _ _ _ _ _ (St s _ _) | show codeAny _ _ _ _ (St s _ _) | show ite _ (wpAny _ _ _ _ _ (St s _ _)) (wpAny _ _ _ _ _ (St s _ _))))))
  (first | show wpAny _ _ _ _ _ (St s h' _) | show wpAny _ _ _ _ _ (St s _ _) | show codeAny _ _ _ _ (St s _ _) | show ite _ (wpAny _ _ _ _ _ (St s _ _)) (wpAny _ _ _ _ _ (St s _ _)))
  show wpAny _ _ (unpackItems (.ref _) 2 none) _ _ _
  refine' r_unpackItems2 AO R List.mem_cons_self ?_
  clear R; intro h' tA tB R
  (first | show wpAny _ _ _ _ _ (St s h' _) | show wpAny _ _ _ _ _ (St s _ _) | show codeAny _ _ _ _ (St s _ _) | show ite _ (wpAny _ _ _ _ _ (St s _ _)) (wpAny _ _ _ _ _ (St s _ _)))
  refine r_bind2 ?_
  ((refine' r_store EO R ?zhx ?zhv ?_; (case zhx => exact rfl); (case zhv => (with_reducible first | exact Bear.int | exact Bear.float | exact Bear.str | exact Bear.bool | exact Bear.none | (refine' Bear.tup ?zb3; (case zb3 => (repeat (with_reducible first | exact List.mem_cons_self | refine List.mem_cons_of_mem _ ?_)))) | (refine' Bear.lst ?zb3; (case zb3 => (repeat (with_reducible first | exact List.mem_cons_self | refine List.mem_cons_of_mem _ ?_)))) | exact Bear.raw)); clear R; intro h' _ R; (try (first | show wpAny _ _ _ _ _ (St s h' _) | show wpAny _ _ _ _ _ (St s _ _) | show codeAny _ _ _ _ (St s _ _) | show ite _ (wpAny _ _ _ _ _ (St s _ _)) (wpAny _ _ _ _ _ (St s _ _))))); (refine' r_store EO R ?zhx ?zhv ?_; (case zhx => exact rfl); (case zhv => (with_reducible first | exact Bear.int | exact Bear.float | exact Bear.str | exact Bear.bool | exact Bear.none | (refine' Bear.tup ?zb3; (case zb3 => (repeat (with_reducible first | exact List.mem_cons_self | refine List.mem_cons_of_mem _ ?_)))) | (refine' Bear.lst ?zb3; (case zb3 => (repeat (with_reducible first | exact List.mem_cons_self | refine List.mem_cons_of_mem _ ?_)))) | exact Bear.raw)); clear R; intro h' _ R; (try (first | show wpAny _ _ _ _ _ (St s h' _) | show wpAny _ _ _ _ _ (St s _ _) | show codeAny _ _ _ _ (St s _ _) | show ite _ (wpAny _ _ _ _ _ (St s _ _)) (wpAny _ _ _ _ _ (St s _ _))))); (with_reducible refine wpAny_execs_cons ?_))
  (first | show wpAny _ _ _ _ _ (St s h' _) | show wpAny _ _ _ _ _ (St s _ _) | show codeAny _ _ _ _ (St s _ _) | show ite _ (wpAny _ _ _ _ _ (St s _ _)) (wpAny _ _ _ _ _ (St s _ _)))
  replace R := Rep.loc [("c", V.int c), ("turns", V.lst [.int t0, .int t1]), ("root", V.int (root : Int)), ("sums", V.lst [.int s0, .int s1, .int s2, .int s3])] R ⟨rfl, by rw [← ht0, ← ht1]; rfl, rfl, rfl, trivial⟩
  replace R := Rep.tmps tmp R (fun q hq => by (repeat (with_reducible first | assumption | exact List.mem_cons_self | refine List.mem_cons_of_mem _ ?_)))
  (first | show wpAny _ _ _ _ _ (St s h' _) | show wpAny _ _ _ _ _ (St s _ _) | show codeAny _ _ _ _ (St s _ _) | show ite _ (wpAny _ _ _ _ _ (St s _ _)) (wpAny _ _ _ _ _ (St s _ _)))
  ((refine wpAny_Assign_Name ?_); (refine Call_ ?_); (refine' r_glob EO S R ?ze ?_ ?zhx ?zhd; (case zhx => exact rfl); (case ze => k_is); (case zhd => decide)); (refine' callWith_K ?zx ?zk ?_; (case zx => exact S.x); (case zk => k_is)); (refine wpAny_items_cons ?_); (refine' r_cellS EO R ?zhx ?zhc ?zhm ?zhf ?_ ?zhd ?zhn; (case zhx => (first | exact Or.inl rfl | exact Or.inr rfl)); (case zhc => first | assumption | exact rfl); (case zhm => (repeat (with_reducible first | assumption | exact List.mem_cons_self | refine List.mem_cons_of_mem _ ?_))); (case zhf => exact rfl); (case zhd => decide); (case zhn => decide); intro _); (refine wpAny_items_cons ?_); (refine' r_locS EO R ?zhv ?zhf ?_ ?zhx ?zhd; (case zhx => exact rfl); (case zhv => exact rfl); (case zhf => exact rfl); (case zhd => decide); intro _); (with_reducible refine wpAny_items_nil ?_); (refine ⟨(Rep.stat R S).x, ?_⟩))
  (first | show wpAny _ _ _ _ _ (St s h' _) | show wpAny _ _ _ _ _ (St s _ _) | show codeAny _ _ _ _ (St s _ _) | show ite _ (wpAny _ _ _ _ _ (St s _ _)) (wpAny _ _ _ _ _ (St s _ _)))
  show wpAny _ _ (call (.ref 168) [.int (p : Int) _, .int (root : Int) _]) _ _ _
  refine' spec_powers (k := n) (AO.le (by exact om192)) S hC hC2 hC3 R ?m1 ?m2 ?m3 ?g1 ?g2 ?g3 ?g4 ?_
  case m1 => iterate 4 (with_reducible refine List.mem_cons_of_mem _ ?_)
             exact hT
  case m2 => iterate 4 (with_reducible refine List.mem_cons_of_mem _ ?_)
             exact hT2
  case m3 => iterate 4 (with_reducible refine List.mem_cons_of_mem _ ?_)
             exact hT3
  case g1 => exact om244 hp
  case g2 => exact om245 hp
  case g3 => exact om226 hrt
  case g4 => exact om246 hrt
  clear R; intro h' tk tr R
  (first | show wpAny _ _ _ _ _ (St s h' _) | show wpAny _ _ _ _ _ (St s _ _) | show codeAny _ _ _ _ (St s _ _) | show ite _ (wpAny _ _ _ _ _ (St s _ _)) (wpAny _ _ _ _ _ (St s _ _)))
  ((refine' r_store EO R ?zhx ?zhv ?_; (case zhx => exact rfl); (case zhv => (with_reducible first | exact Bear.int | exact Bear.float | exact Bear.str | exact Bear.bool | exact Bear.none | (refine' Bear.tup ?zb3; (case zb3 => (repeat (with_reducible first | exact List.mem_cons_self | refine List.mem_cons_of_mem _ ?_)))) | (refine' Bear.lst ?zb3; (case zb3 => (repeat (with_reducible first | exact List.mem_cons_self | refine List.mem_cons_of_mem _ ?_)))) | exact Bear.raw)); clear R; intro h' _ R; (try (first | show wpAny _ _ _ _ _ (St s h' _) | show wpAny _ _ _ _ _ (St s _ _) | show codeAny _ _ _ _ (St s _ _) | show ite _ (wpAny _ _ _ _ _ (St s _ _)) (wpAny _ _ _ _ _ (St s _ _))))); (with_reducible refine wpAny_execs_cons ?_); (with_reducible refine wpAny_If ?_); (with_reducible refine wpAny_isTrue_Compare1 ?_))
  (first | show wpAny _ _ _ _ _ (St s h' _) | show wpAny _ _ _ _ _ (St s _ _) | show codeAny _ _ _ _ (St s _ _) | show ite _ (wpAny _ _ _ _ _ (St s _ _)) (wpAny _ _ _ _ _ (St s _ _)))
  obtain ⟨ps, hps⟩ : ∃ ps, rowOf p root = ps := ⟨_, rfl⟩
  have hkeys := keys_row hpr
  have hlen := row_length (p := p) (root := root)
  have hbis := bis_row hpr
  rw [hps] at hkeys hlen hbis
  replace R := Rep.loc [("row", V.lst (prs ps)), ("c", V.int c), ("turns", V.lst [.int t0, .int t1]), ("root", V.int (root : Int)), ("sums", V.lst [.int s0, .int s1, .int s2, .int s3])] R ⟨by rw [← hps]; rfl, rfl, rfl, rfl, rfl, trivial⟩
  replace R := Rep.tmps tmp R (fun q hq => by (repeat (with_reducible first | assumption | exact List.mem_cons_self | refine List.mem_cons_of_mem _ ?_)))
  refine' r_listComp EO ?hclos rfl ?hnames ?_ ?hs
  case hclos => exact rfl
  case hs => intro _; rfl
  case hnames => decide
  ((refine' r_loc EO R ?zhv ?_ ?zhx ?zhd; (case zhx => exact rfl); (case zhv => exact rfl); (case zhd => decide); clear R; intro _ R))
  (first | show wpAny _ _ _ _ _ (St s h' _) | show wpAny _ _ _ _ _ (St s _ _) | show codeAny _ _ _ _ (St s _ _) | show ite _ (wpAny _ _ _ _ _ (St s _ _)) (wpAny _ _ _ _ _ (St s _ _)))
  show wpAny _ _ (pyIter (.ref _)) _ _ _
  refine' r_compL AO EO R List.mem_cons_self (outs := (keys ps).map V.int) ?g1 ?g2 ?hcell rfl ?hx ?turn ?_
  case g1 => rw [List.length_map, prs_length, keys, List.length_map]
  case g2 => rw [prs_length]; exact om247 hp hlen
  case hcell => decide
  case hx => rfl
  case turn =>
    clear R
    intro J C D i v u t s E' hi hu EO R
    obtain ⟨e, x, rfl, rfl⟩ : ∃ e x, v = .tup [.int e, .int x] ∧ u = .int x := by
      rw [prs, List.getElem?_map] at hi
      rw [keys, List.getElem?_map, List.getElem?_map] at hu
      cases hq : ps[i]? with
      | none => rw [hq] at hi; cases hi
      | some y => rw [hq] at hi hu; cases hi; cases hu; exact ⟨_, _, rfl, rfl⟩
    ((refine Subscript_ ?_); (refine' r_loc EO R ?zhv ?_ ?zhx ?zhd; (case zhx => exact rfl); (case zhv => exact rfl); (case zhd => decide); clear R; intro _ R); (with_reducible refine q_cint ?_); (refine' r_itemT R ?zhm ?zi1 ?zi2 ?zhv ?_ ?zhs; (case zhm => (repeat (with_reducible first | assumption | exact List.mem_cons_self | refine List.mem_cons_of_mem _ ?_))); (case zhs => with_unfolding_all rfl); (case zhv => first | with_reducible assumption | exact rfl); (case zi1 => exact om21); (case zi2 => exact om22); clear R; intro _ R))
    exact ⟨_, _, _, Bear.int, fun q hq => by (repeat (with_reducible first | assumption | exact List.mem_cons_self | refine List.mem_cons_of_mem _ ?_)), R.drop (fun q hq => by (repeat (with_reducible first | assumption | exact List.mem_cons_self | refine List.mem_cons_of_mem _ ?_))), rfl⟩
  clear R
  intro C D l' h' tk R0
  refine compEnd R0 fun h' R => ?_
  clear R0
  (first | show wpAny _ _ _ _ _ (St s h' _) | show wpAny _ _ _ _ _ (St s _ _) | show codeAny _ _ _ _ (St s _ _) | show ite _ (wpAny _ _ _ _ _ (St s _ _)) (wpAny _ _ _ _ _ (St s _ _)))
  ((refine Call_ ?_); (refine' r_bi EO S R ?ze ?zhv ?_ ?zhn ?zhx ?zhd; (case zhx => exact rfl); (case ze => k_is); (case zhv => boot_fast); (case zhn => decide); (case zhd => decide)); (refine Pv.callWith_type1 ?_); (refine wpAny_items_cons ?_); (refine Call_ ?_); (refine' r_bi EO S R ?ze ?zhv ?_ ?zhn ?zhx ?zhd; (case zhx => exact rfl); (case ze => k_is); (case zhv => boot_fast); (case zhn => decide); (case zhd => decide)); (refine Pv.callWith_type1 ?_); (refine wpAny_items_cons ?_); (with_reducible refine q_cint ?_); (refine wpAny_items_cons ?_); (refine' r_cellS EO R ?zhx ?zhc ?zhm ?zhf ?_ ?zhd ?zhn; (case zhx => (first | exact Or.inl rfl | exact Or.inr rfl)); (case zhc => first | assumption | exact rfl); (case zhm => (repeat (with_reducible first | assumption | exact List.mem_cons_self | refine List.mem_cons_of_mem _ ?_))); (case zhf => exact rfl); (case zhd => decide); (case zhn => decide); intro _); (with_reducible refine wpAny_items_nil ?_))
  (first | show wpAny _ _ _ _ _ (St s h' _) | show wpAny _ _ _ _ _ (St s _ _) | show codeAny _ _ _ _ (St s _ _) | show ite _ (wpAny _ _ _ _ _ (St s _ _)) (wpAny _ _ _ _ _ (St s _ _)))
  show wpAny _ _ (call (.type "range") [.int 1 _, .int (p : Int) _]) _ _ _
  refine' r_range2 R ?_
  clear R; intro r h' tk2 t u v R
  (first | show wpAny _ _ _ _ _ (St s h' _) | show wpAny _ _ _ _ _ (St s _ _) | show codeAny _ _ _ _ (St s _ _) | show ite _ (wpAny _ _ _ _ _ (St s _ _)) (wpAny _ _ _ _ _ (St s _ _)))
  ((with_reducible refine wpAny_items_nil ?_))
  refine' r_listRange AO R (k := p - 1) ?g1 ?g2 ?g3 ?g4 ?_
  case g1 => exact om248 hp
  case g2 => decide
  case g3 => exact om249 hp
  case g4 => exact om250 hp
  clear R; intro d h' tk R
  rw [hkeys] at R
  (first | show wpAny _ _ _ _ _ (St s h' _) | show wpAny _ _ _ _ _ (St s _ _) | show codeAny _ _ _ _ (St s _ _) | show ite _ (wpAny _ _ _ _ _ (St s _ _)) (wpAny _ _ _ _ _ (St s _ _)))
  refine r_neSame (xs := keys ps) AO R (LAt.ofTmp (show (V.lst ((keys ps).map V.int), _) ∈ _ by (repeat (with_reducible first | assumption | exact List.mem_cons_self | refine List.mem_cons_of_mem _ ?_)))) (LAt.ofTmp (show (V.lst ((keys ps).map V.int), _) ∈ _ by (repeat (with_reducible first | assumption | exact List.mem_cons_self | refine List.mem_cons_of_mem _ ?_)))) ?_
  replace R := Rep.tmps tmp R (fun q hq => by (repeat (with_reducible first | assumption | exact List.mem_cons_self | refine List.mem_cons_of_mem _ ?_)))
  (first | show wpAny _ _ _ _ _ (St s h' _) | show wpAny _ _ _ _ _ (St s _ _) | show codeAny _ _ _ _ (St s _ _) | show ite _ (wpAny _ _ _ _ _ (St s _ _)) (wpAny _ _ _ _ _ (St s _ _)))
  obtain ⟨kind, hkd⟩ : ∃ kind, s3.fmod 3 = kind := ⟨_, rfl⟩
  have hk0 : 0 ≤ kind := by rw [← hkd]; exact Int.fmod_nonneg_of_pos s3 (by decide)
  have hk3 : kind < 3 := by rw [← hkd]; exact Int.fmod_lt_of_pos s3 (by decide)
  obtain ⟨ch, hch⟩ : ∃ ch : Nat, 47 + (s3.fdiv 6).fmod 50000 = ch ∧ 47 ≤ ch ∧ ch ≤ 60000 := by
    have h1 := Int.fmod_nonneg_of_pos (s3.fdiv 6) (show (0 : Int) < 50000 by decide)
    have h2 := Int.fmod_lt_of_pos (s3.fdiv 6) (show (0 : Int) < 50000 by decide)
    exact ⟨(47 + (s3.fdiv 6).fmod 50000).toNat, by exact om251 h1 h2, by exact om252 h1 h2, by exact om253 h1 h2⟩
  ((with_reducible refine wpAny_truthy_bool ?_); (refine PySem.W.ite_neg (by (first | (with_reducible exact Bool.false_ne_true) | (simp only [decide_eq_true_eq, beq_iff_eq, bne_iff_ne, ne_eq, Bool.false_eq_true, not_false_eq_true]; first | done | assumption | omega) | omega)) ?_); (with_reducible refine wpAny_execs_nil ?_); (with_reducible refine wpAny_execs_cons ?_); (refine wpAny_Assign_Name ?_); (refine Call_ ?_); (refine' r_glob EO S R ?ze ?_ ?zhx ?zhd; (case zhx => exact rfl); (case ze => k_is); (case zhd => decide)); (refine' callWith_K ?zx ?zk ?_; (case zx => exact S.x); (case zk => k_is)); (refine wpAny_items_cons ?_); (refine' r_cellS EO R ?zhx ?zhc ?zhm ?zhf ?_ ?zhd ?zhn; (case zhx => (first | exact Or.inl rfl | exact Or.inr rfl)); (case zhc => first | assumption | exact rfl); (case zhm => (repeat (with_reducible first | assumption | exact List.mem_cons_self | refine List.mem_cons_of_mem _ ?_))); (case zhf => exact rfl); (case zhd => decide); (case zhn => decide); intro _); (refine wpAny_items_cons ?_); (refine' r_locS EO R ?zhv ?zhf ?_ ?zhx ?zhd; (case zhx => exact rfl); (case zhv => exact rfl); (case zhf => exact rfl); (case zhd => decide); intro _); (refine wpAny_items_cons ?_); (refine' r_loc EO R ?zhv ?_ ?zhx ?zhd; (case zhx => exact rfl); (case zhv => exact rfl); (case zhd => decide); clear R; intro _ R); (refine wpAny_items_cons ?_); (refine' r_loc EO R ?zhv ?_ ?zhx ?zhd; (case zhx => exact rfl); (case zhv => exact rfl); (case zhd => decide); clear R; intro _ R); (refine wpAny_items_cons ?_); (with_reducible refine wpAny_BinOp ?_); (refine Call_ ?_); (refine' r_bi EO S R ?ze ?zhv ?_ ?zhn ?zhx ?zhd; (case zhx => exact rfl); (case ze => k_is); (case zhv => boot_fast); (case zhn => decide); (case zhd => decide)); (refine callWith_method1 ?_); (refine wpAny_items_cons ?_); (with_reducible refine wpAny_BinOp ?_); (with_reducible refine q_cint ?_); (with_reducible refine wpAny_BinOp ?_); (with_reducible refine wpAny_BinOp ?_); (refine Subscript_ ?_); (refine' r_loc EO R ?zhv ?_ ?zhx ?zhd; (case zhx => exact rfl); (case zhv => exact rfl); (case zhd => decide); clear R; intro _ R); (with_reducible refine q_cint ?_); (refine' r_itemL R ?zhm ?zi1 ?zi2 ?zhv ?_ ?zhs; (case zhm => (repeat (with_reducible first | assumption | exact List.mem_cons_self | refine List.mem_cons_of_mem _ ?_))); (case zhs => with_unfolding_all rfl); (case zhv => first | with_reducible assumption | exact rfl); (case zi1 => exact om163); (case zi2 => exact om164); clear R; intro _ R); (with_reducible refine q_cint ?_); (refine' r_div ?zhb ?zhp ?_; (case zhb => (first | exact om114 | assumption | decide)); (case zhp => (first | exact om191 | assumption | decide)); intro _ _); (with_reducible refine q_cint ?_); (refine' q_modi (b := _) ?zhb ?_; (case zhb => (first | exact om254 | assumption | decide))); (with_reducible refine q_addi ?_); (with_reducible refine wpAny_items_nil ?_))
  (first | show wpAny _ _ _ _ _ (St s h' _) | show wpAny _ _ _ _ _ (St s _ _) | show codeAny _ _ _ _ (St s _ _) | show ite _ (wpAny _ _ _ _ _ (St s _ _)) (wpAny _ _ _ _ _ (St s _ _)))
  refine r_chr hch.1 hch.2.2 fun tk t => ?_
  (first | show wpAny _ _ _ _ _ (St s h' _) | show wpAny _ _ _ _ _ (St s _ _) | show codeAny _ _ _ _ (St s _ _) | show ite _ (wpAny _ _ _ _ _ (St s _ _)) (wpAny _ _ _ _ _ (St s _ _)))
  ((with_reducible refine q_cstr ?_))
  refine' r_strAddE ?ex ?ey ?h3 ?_
  case ex => exact strL_toList _
  case ey => exact sDotL
  case h3 => exact of_decide_eq_true rfl
  intro tk t
  (first | show wpAny _ _ _ _ _ (St s h' _) | show wpAny _ _ _ _ _ (St s _ _) | show codeAny _ _ _ _ (St s _ _) | show ite _ (wpAny _ _ _ _ _ (St s _ _)) (wpAny _ _ _ _ _ (St s _ _)))
  ((refine wpAny_items_cons ?_); (with_reducible refine wpAny_BinOp ?_); (refine Subscript_ ?_); (refine' r_loc EO R ?zhv ?_ ?zhx ?zhd; (case zhx => exact rfl); (case zhv => exact rfl); (case zhd => decide); clear R; intro _ R); (with_reducible refine q_cint ?_); (refine' r_itemL R ?zhm ?zi1 ?zi2 ?zhv ?_ ?zhs; (case zhm => (repeat (with_reducible first | assumption | exact List.mem_cons_self | refine List.mem_cons_of_mem _ ?_))); (case zhs => with_unfolding_all rfl); (case zhv => first | with_reducible assumption | exact rfl); (case zi1 => exact om163); (case zi2 => exact om164); clear R; intro _ R); (with_reducible refine q_cint ?_); (refine' q_modi (b := _) ?zhb ?_; (case zhb => (first | exact om58 | assumption | decide))); (with_reducible refine wpAny_items_nil ?_); (refine ⟨(Rep.stat R S).x, ?_⟩))
  (first | show wpAny _ _ _ _ _ (St s h' _) | show wpAny _ _ _ _ _ (St s _ _) | show codeAny _ _ _ _ (St s _ _) | show ite _ (wpAny _ _ _ _ _ (St s _ _)) (wpAny _ _ _ _ _ (St s _ _)))
  show wpAny _ _ (call (.ref 173) [.int (p : Int) _, .int c _, .ref _, .ref _, .str (strL [ch, 46]) _, .int (s3.fmod 3) _]) _ _ _
  rw [hkd]
  refine' spec_lights (n := n) (kind := kind) (ps := ps) (t0 := t0) (t1 := t1) (AO.le (by exact om255)) S hC4 R ?m1 ?g1 ?g2 hk0 hk3 ?g5 ?g6 ?g7 hlen hbis ?g8 ?g9 ?_
  case m1 => iterate 4 (with_reducible refine List.mem_cons_of_mem _ ?_)
             exact hT4
  case g1 => exact om244 hp
  case g2 => exact om256 hp
  case g5 => exact om257 hch
  case g6 => exact om258 t0a
  case g7 => exact om258 t1a
  case g8 => (repeat (with_reducible first | assumption | exact List.mem_cons_self | refine List.mem_cons_of_mem _ ?_))
  case g9 => (repeat (with_reducible first | assumption | exact List.mem_cons_self | refine List.mem_cons_of_mem _ ?_))
  clear R; intro h' tk tl R
  (first | show wpAny _ _ _ _ _ (St s h' _) | show wpAny _ _ _ _ _ (St s _ _) | show codeAny _ _ _ _ (St s _ _) | show ite _ (wpAny _ _ _ _ _ (St s _ _)) (wpAny _ _ _ _ _ (St s _ _)))
  obtain ⟨l0, l1, l2, spread, along, T⟩ := hplain p root c t0 t1 hpr hc0 hcp t0a.1 t0a.2 t1a.1 t1a.2
  have hl : ((dotsAt p c t0 t1 ps (p - 1)).take 3).map (fun d => V.int (d - 1)) = [V.int l0, V.int l1, V.int l2] := by
    rw [← hps, T.hd]
    simp only [List.map_cons, List.map_nil, Int.add_sub_cancel]
  rw [hl] at R
  ((refine' r_store EO R ?zhx ?zhv ?_; (case zhx => exact rfl); (case zhv => (with_reducible first | exact Bear.int | exact Bear.float | exact Bear.str | exact Bear.bool | exact Bear.none | (refine' Bear.tup ?zb3; (case zb3 => (repeat (with_reducible first | exact List.mem_cons_self | refine List.mem_cons_of_mem _ ?_)))) | (refine' Bear.lst ?zb3; (case zb3 => (repeat (with_reducible first | exact List.mem_cons_self | refine List.mem_cons_of_mem _ ?_)))) | exact Bear.raw)); clear R; intro h' _ R; (try (first | show wpAny _ _ _ _ _ (St s h' _) | show wpAny _ _ _ _ _ (St s _ _) | show codeAny _ _ _ _ (St s _ _) | show ite _ (wpAny _ _ _ _ _ (St s _ _)) (wpAny _ _ _ _ _ (St s _ _))))); (with_reducible refine wpAny_execs_cons ?_); (with_reducible refine wpAny_If ?_); (with_reducible refine wpAny_isTrue_Compare1 ?_); (refine' r_loc EO R ?zhv ?_ ?zhx ?zhd; (case zhx => exact rfl); (case zhv => exact rfl); (case zhd => decide); clear R; intro _ R); (with_reducible refine List_ ?_); (with_reducible refine wpAny_items_nil ?_); (refine' r_newList R ?zhv ?_ ?zhs; (case zhv => (repeat (first | exact Bears.nil | (apply Bears.cons; (with_reducible first | exact Bear.int | exact Bear.float | exact Bear.str | exact Bear.bool | exact Bear.none | (refine' Bear.tup ?zb3; (case zb3 => (repeat (with_reducible first | exact List.mem_cons_self | refine List.mem_cons_of_mem _ ?_)))) | (refine' Bear.lst ?zb3; (case zb3 => (repeat (with_reducible first | exact List.mem_cons_self | refine List.mem_cons_of_mem _ ?_)))) | exact Bear.raw))))); (case zhs => exact of_decide_eq_true (by rfl)); clear R; intro _ h' R; (try (first | show wpAny _ _ _ _ _ (St s h' _) | show wpAny _ _ _ _ _ (St s _ _) | show codeAny _ _ _ _ (St s _ _) | show ite _ (wpAny _ _ _ _ _ (St s _ _)) (wpAny _ _ _ _ _ (St s _ _))))))
  (first | show wpAny _ _ _ _ _ (St s h' _) | show wpAny _ _ _ _ _ (St s _ _) | show codeAny _ _ _ _ (St s _ _) | show ite _ (wpAny _ _ _ _ _ (St s _ _)) (wpAny _ _ _ _ _ (St s _ _)))
  refine r_eqNil AO R (LAt.ofTmp (show (V.lst [V.int l0, V.int l1, V.int l2], _) ∈ _ by (repeat (with_reducible first | assumption | exact List.mem_cons_self | refine List.mem_cons_of_mem _ ?_)))) (LAt.ofTmp List.mem_cons_self) (show (3 : Nat) ≠ 0 by decide) ?_
  ((with_reducible refine wpAny_truthy_bool ?_); (refine PySem.W.ite_neg (by (first | (with_reducible exact Bool.false_ne_true) | (simp only [decide_eq_true_eq, beq_iff_eq, bne_iff_ne, ne_eq, Bool.false_eq_true, not_false_eq_true]; first | done | assumption | omega) | omega)) ?_); (with_reducible refine wpAny_execs_nil ?_))
  replace R := Rep.loc [("sums", V.lst [.int s0, .int s1, .int s2, .int s3]), ("root", V.int (root : Int)), ("c", V.int c), ("turns", V.lst [.int t0, .int t1]), ("lights", V.lst [.int l0, .int l1, .int l2])] R ⟨rfl, rfl, rfl, rfl, rfl, trivial⟩
  replace R := Rep.tmps tmp R (fun q hq => by (repeat (with_reducible first | assumption | exact List.mem_cons_self | refine List.mem_cons_of_mem _ ?_)))
  (first | show wpAny _ _ _ _ _ (St s h' _) | show wpAny _ _ _ _ _ (St s _ _) | show codeAny _ _ _ _ (St s _ _) | show ite _ (wpAny _ _ _ _ _ (St s _ _)) (wpAny _ _ _ _ _ (St s _ _)))
  refine wpAny_mono (law_mid (n := n) ?e rfl EO AO S hC hC2 R (.tail _ hT) (.tail _ hT2) hp hrt ⟨hc0, by exact om259 hp hcp⟩ T.hl0 T.hl1 T.hl2 ⟨by exact om260 t0a, t0a.2⟩ ⟨by exact om260 t1a, t1a.2⟩ T.hdue T.hls T.hsv T.hsp T.hal T.hsq) (fun fl s'' hq => ?_) fun _ _ x => x
  case e => with_unfolding_all exact rfl
  obtain ⟨rfl, tm, h', tk, R2, rfl⟩ := hq
  exact ⟨rfl, tm, h', tk, R2.dropLed, rfl⟩

end Mine

/-! P1 -/
namespace Mine
/-- lights, spread, along -/
noncomputable def tbl : List (Int × Int × Int × Int × Int) := [(0, 2, 3, 3, 1), (0, 3, 2, 3, 2), (0, 6, 6, 6, 0), (0, 18, 18, 18, 0), (1, 2, 2, 1, 0), (1, 2, 4, 3, 2), (1, 3, 4, 3, 1), (1, 4, 2, 3, 1), (1, 4, 3, 3, 2), (2, 0, 3, 3, 2), (2, 1, 2, 1, 0), (2, 1, 4, 3, 1), (2, 2, 1, 1, 0), (2, 2, 2, 0, 0), (2, 2, 3, 1, 0), (2, 3, 0, 3, 1), (2, 3, 2, 1, 0), (2, 3, 3, 1, 0), (2, 3, 6, 4, 3), (2, 4, 1, 3, 2), (2, 6, 3, 4, 1), (3, 0, 2, 3, 1), (3, 1, 4, 3, 2), (3, 2, 0, 3, 2), (3, 2, 2, 1, 0), (3, 2, 3, 1, 0), (3, 2, 6, 4, 1), (3, 3, 2, 1, 0), (3, 3, 3, 0, 0), (3, 4, 1, 3, 1), (3, 4, 4, 1, 0), (3, 6, 2, 4, 3), (3, 6, 7, 4, 1), (3, 6, 8, 5, 2), (3, 7, 6, 4, 3), (3, 8, 6, 5, 3), (4, 1, 2, 3, 2), (4, 1, 3, 3, 1), (4, 2, 1, 3, 1), (4, 3, 1, 3, 2), (4, 3, 4, 1, 0), (4, 4, 3, 1, 0), (4, 4, 4, 0, 0), (4, 5, 8, 4, 3), (4, 8, 5, 4, 1), (5, 0, 0, 5, 0), (5, 4, 8, 4, 1), (5, 5, 6, 1, 0), (5, 6, 5, 1, 0), (5, 6, 6, 1, 0), (5, 8, 4, 4, 3), (6, 0, 0, 6, 0), (6, 2, 3, 4, 3), (6, 3, 2, 4, 1), (6, 3, 7, 4, 3), (6, 3, 8, 5, 3), (6, 5, 5, 1, 0), (6, 5, 6, 1, 0), (6, 6, 5, 1, 0), (6, 6, 6, 0, 0), (6, 7, 3, 4, 1), (6, 8, 3, 5, 2), (6, 8, 11, 5, 3), (6, 9, 11, 5, 2), (6, 11, 8, 5, 2), (6, 11, 9, 5, 3), (7, 3, 6, 4, 1), (7, 6, 3, 4, 3), (8, 3, 6, 5, 2), (8, 4, 5, 4, 3), (8, 5, 4, 4, 1), (8, 6, 3, 5, 3), (8, 6, 11, 5, 2), (8, 8, 9, 1, 0), (8, 9, 8, 1, 0), (8, 9, 9, 1, 0), (8, 11, 6, 5, 3), (9, 6, 11, 5, 3), (9, 8, 8, 1, 0), (9, 8, 9, 1, 0), (9, 9, 8, 1, 0), (9, 9, 9, 0, 0), (9, 11, 6, 5, 2), (11, 0, 0, 11, 0), (11, 6, 8, 5, 3), (11, 6, 9, 5, 2), (11, 8, 6, 5, 2), (11, 9, 6, 5, 3), (12, 0, 0, 12, 0), (12, 12, 12, 0, 0), (17, 0, 0, 17, 0), (18, 0, 0, 18, 0)]
noncomputable def row7 : List (Int × Int) := [(0, 1), (2, 2), (1, 3), (4, 4), (5, 5), (3, 6)]
noncomputable def idx7 : List (List Nat) := [[42, 28, 42, 28, 2, 28, 28, 13, 28, 51, 28, 13, 42, 28, 2, 28, 42, 28, 28, 51, 28, 13, 28, 13, 2, 28, 42, 28, 42, 28, 28, 13, 28, 13, 28, 51],
  [36, 39, 5, 8, 24, 17, 39, 9, 39, 4, 6, 4, 5, 39, 24, 37, 7, 17, 8, 4, 37, 15, 37, 4, 24, 6, 7, 37, 38, 17, 17, 4, 17, 4, 17, 45],
  [5, 39, 36, 39, 24, 25, 39, 23, 22, 4, 37, 12, 36, 22, 24, 29, 38, 17, 39, 4, 29, 21, 37, 10, 24, 37, 38, 37, 7, 27, 25, 12, 17, 10, 27, 45],
  [19, 5, 19, 19, 24, 14, 5, 1, 36, 4, 11, 10, 19, 36, 24, 38, 11, 24, 19, 4, 38, 0, 7, 12, 24, 11, 11, 7, 11, 16, 14, 10, 24, 12, 16, 45],
  [19, 39, 19, 22, 24, 27, 39, 1, 8, 4, 29, 10, 19, 8, 24, 6, 11, 17, 22, 4, 6, 0, 37, 12, 24, 29, 11, 37, 11, 25, 27, 10, 17, 12, 25, 45],
  [5, 5, 36, 5, 24, 16, 5, 23, 19, 4, 7, 12, 36, 19, 24, 11, 38, 24, 5, 4, 11, 21, 7, 10, 24, 7, 38, 7, 7, 14, 16, 12, 24, 10, 14, 45],
  [36, 5, 5, 36, 24, 24, 5, 9, 5, 4, 38, 4, 5, 5, 24, 7, 7, 24, 36, 4, 7, 15, 7, 4, 24, 38, 7, 7, 38, 24, 24, 4, 24, 4, 24, 45]]
noncomputable def row13 : List (Int × Int) := [(0, 1), (1, 2), (4, 3), (2, 4), (9, 5), (5, 6), (11, 7), (3, 8), (8, 9), (10, 10), (7, 11), (6, 12)]
noncomputable def idx13 : List (List Nat) := [[42, 59, 42, 59, 88, 59, 59, 42, 59, 88, 59, 42, 42, 59, 88, 59, 42, 59, 59, 88, 59, 42, 59, 42, 88, 59, 42, 59, 42, 59, 59, 42, 59, 42, 59, 88],
  [69, 50, 50, 69, 49, 49, 50, 18, 50, 30, 70, 30, 50, 50, 49, 46, 46, 49, 69, 30, 46, 20, 46, 30, 49, 70, 46, 46, 70, 49, 49, 30, 49, 30, 49, 83],
  [50, 54, 69, 54, 49, 47, 54, 31, 67, 30, 60, 40, 69, 67, 49, 66, 70, 56, 54, 30, 66, 26, 60, 41, 49, 60, 70, 60, 46, 48, 47, 40, 56, 41, 48, 83],
  [50, 50, 69, 50, 49, 58, 50, 31, 43, 30, 46, 40, 69, 43, 49, 44, 70, 49, 50, 30, 44, 26, 46, 41, 49, 46, 70, 46, 46, 57, 58, 40, 49, 41, 57, 83],
  [43, 50, 43, 43, 49, 57, 50, 52, 69, 30, 44, 41, 43, 69, 49, 70, 44, 49, 43, 30, 70, 53, 46, 40, 49, 44, 44, 46, 44, 58, 57, 41, 49, 40, 58, 83],
  [69, 54, 50, 34, 49, 56, 54, 18, 54, 30, 32, 30, 50, 54, 49, 60, 46, 56, 34, 30, 60, 20, 60, 30, 49, 32, 46, 60, 70, 56, 56, 30, 56, 30, 56, 83],
  [43, 54, 43, 67, 49, 48, 54, 52, 34, 30, 66, 41, 43, 34, 49, 32, 44, 56, 67, 30, 32, 53, 60, 40, 49, 66, 44, 60, 44, 47, 48, 41, 56, 40, 47, 83],
  [43, 54, 43, 67, 49, 48, 54, 52, 34, 30, 66, 41, 43, 34, 49, 32, 44, 56, 67, 30, 32, 53, 60, 40, 49, 66, 44, 60, 44, 47, 48, 41, 56, 40, 47, 83],
  [69, 54, 50, 34, 49, 56, 54, 18, 54, 30, 32, 30, 50, 54, 49, 60, 46, 56, 34, 30, 60, 20, 60, 30, 49, 32, 46, 60, 70, 56, 56, 30, 56, 30, 56, 83],
  [43, 50, 43, 43, 49, 57, 50, 52, 69, 30, 44, 41, 43, 69, 49, 70, 44, 49, 43, 30, 70, 53, 46, 40, 49, 44, 44, 46, 44, 58, 57, 41, 49, 40, 58, 83],
  [50, 50, 69, 50, 49, 58, 50, 31, 43, 30, 46, 40, 69, 43, 49, 44, 70, 49, 50, 30, 44, 26, 46, 41, 49, 46, 70, 46, 46, 57, 58, 40, 49, 41, 57, 83],
  [50, 54, 69, 54, 49, 47, 54, 31, 67, 30, 60, 40, 69, 67, 49, 66, 70, 56, 54, 30, 66, 26, 60, 41, 49, 60, 70, 60, 46, 48, 47, 40, 56, 41, 48, 83],
  [69, 50, 50, 69, 49, 49, 50, 18, 50, 30, 70, 30, 50, 50, 49, 46, 46, 49, 69, 30, 46, 20, 46, 30, 49, 70, 46, 46, 70, 49, 49, 30, 49, 30, 49, 83]]
noncomputable def row19 : List (Int × Int) := [(0, 1), (1, 2), (13, 3), (2, 4), (16, 5), (14, 6), (6, 7), (3, 8), (8, 9), (17, 10), (12, 11), (15, 12), (5, 13), (7, 14), (11, 15), (4, 16), (10, 17), (9, 18)]
noncomputable def idx19 : List (List Nat) := [[89, 81, 89, 81, 3, 81, 81, 59, 81, 91, 81, 59, 89, 81, 3, 81, 89, 81, 81, 91, 81, 59, 81, 59, 3, 81, 89, 81, 89, 81, 81, 59, 81, 59, 81, 91],
  [72, 63, 86, 82, 78, 75, 63, 68, 63, 49, 77, 49, 86, 63, 78, 65, 84, 75, 82, 49, 65, 71, 65, 49, 78, 77, 84, 65, 76, 75, 75, 49, 75, 49, 75, 90],
  [86, 86, 72, 86, 78, 73, 86, 33, 64, 49, 84, 57, 72, 64, 78, 62, 76, 78, 86, 49, 62, 35, 84, 58, 78, 84, 76, 84, 84, 74, 73, 57, 78, 58, 74, 90],
  [86, 86, 72, 86, 78, 73, 86, 33, 64, 49, 84, 57, 72, 64, 78, 62, 76, 78, 86, 49, 62, 35, 84, 58, 78, 84, 76, 84, 84, 74, 73, 57, 78, 58, 74, 90],
  [64, 63, 64, 85, 78, 79, 63, 61, 82, 49, 87, 58, 64, 82, 78, 77, 62, 75, 85, 49, 77, 55, 65, 57, 78, 87, 62, 65, 62, 80, 79, 58, 75, 57, 80, 90],
  [86, 63, 72, 63, 78, 80, 63, 33, 85, 49, 65, 57, 72, 85, 78, 87, 76, 75, 63, 49, 87, 35, 65, 58, 78, 65, 76, 65, 84, 79, 80, 57, 75, 58, 79, 90],
  [64, 63, 64, 85, 78, 79, 63, 61, 82, 49, 87, 58, 64, 82, 78, 77, 62, 75, 85, 49, 77, 55, 65, 57, 78, 87, 62, 65, 62, 80, 79, 58, 75, 57, 80, 90],
  [72, 63, 86, 82, 78, 75, 63, 68, 63, 49, 77, 49, 86, 63, 78, 65, 84, 75, 82, 49, 65, 71, 65, 49, 78, 77, 84, 65, 76, 75, 75, 49, 75, 49, 75, 90],
  [72, 86, 86, 72, 78, 78, 86, 68, 86, 49, 76, 49, 86, 86, 78, 84, 84, 78, 72, 49, 84, 71, 84, 49, 78, 76, 84, 84, 76, 78, 78, 49, 78, 49, 78, 90],
  [64, 63, 64, 85, 78, 79, 63, 61, 82, 49, 87, 58, 64, 82, 78, 77, 62, 75, 85, 49, 77, 55, 65, 57, 78, 87, 62, 65, 62, 80, 79, 58, 75, 57, 80, 90],
  [64, 86, 64, 64, 78, 74, 86, 61, 72, 49, 62, 58, 64, 72, 78, 76, 62, 78, 64, 49, 76, 55, 84, 57, 78, 62, 62, 84, 62, 73, 74, 58, 78, 57, 73, 90],
  [72, 63, 86, 82, 78, 75, 63, 68, 63, 49, 77, 49, 86, 63, 78, 65, 84, 75, 82, 49, 65, 71, 65, 49, 78, 77, 84, 65, 76, 75, 75, 49, 75, 49, 75, 90],
  [72, 86, 86, 72, 78, 78, 86, 68, 86, 49, 76, 49, 86, 86, 78, 84, 84, 78, 72, 49, 84, 71, 84, 49, 78, 76, 84, 84, 76, 78, 78, 49, 78, 49, 78, 90],
  [64, 86, 64, 64, 78, 74, 86, 61, 72, 49, 62, 58, 64, 72, 78, 76, 62, 78, 64, 49, 76, 55, 84, 57, 78, 62, 62, 84, 62, 73, 74, 58, 78, 57, 73, 90],
  [86, 86, 72, 86, 78, 73, 86, 33, 64, 49, 84, 57, 72, 64, 78, 62, 76, 78, 86, 49, 62, 35, 84, 58, 78, 84, 76, 84, 84, 74, 73, 57, 78, 58, 74, 90],
  [64, 86, 64, 64, 78, 74, 86, 61, 72, 49, 62, 58, 64, 72, 78, 76, 62, 78, 64, 49, 76, 55, 84, 57, 78, 62, 62, 84, 62, 73, 74, 58, 78, 57, 73, 90],
  [86, 63, 72, 63, 78, 80, 63, 33, 85, 49, 65, 57, 72, 85, 78, 87, 76, 75, 63, 49, 87, 35, 65, 58, 78, 65, 76, 65, 84, 79, 80, 57, 75, 58, 79, 90],
  [86, 63, 72, 63, 78, 80, 63, 33, 85, 49, 65, 57, 72, 85, 78, 87, 76, 75, 63, 49, 87, 35, 65, 58, 78, 65, 76, 65, 84, 79, 80, 57, 75, 58, 79, 90],
  [72, 86, 86, 72, 78, 78, 86, 68, 86, 49, 76, 49, 86, 86, 78, 84, 84, 78, 72, 49, 84, 71, 84, 49, 78, 76, 84, 84, 76, 78, 78, 49, 78, 49, 78, 90]]
noncomputable def hlsB (l0 l1 l2 spread along : Int) : Bool :=
  hlsOk (neg32 l0) (neg32 l1) (neg32 l2) &&
  (match rgbHls (neg32 l0) (neg32 l1) (neg32 l2) with
   | [.float h, .float l, .float s] => Float64.isFinite (sp1 l s) && rnd (sp1 l s) == spread && Float64.isFinite (alF spread h) && (rnd (alF spread h)).fmod (max spread 1) == along &&
     (match hlsRgb h l s with
      | [.float x, .float y, .float z] => bk1 x l0 && bk1 y l1 && bk1 z l2
      | _ => false)
   | _ => false)
noncomputable def hsvB (l0 l1 l2 spread along : Int) : Bool :=
  hsvOk (fdivi l0 32) (fdivi l1 32) (fdivi l2 32) &&
  (match rgbHsv (fdivi l0 32) (fdivi l1 32) (fdivi l2 32) with
   | [.float h, .float s, .float v] => Float64.isFinite (sp2 s v) && rnd (sp2 s v) == spread && Float64.isFinite (Float64.mul h c6) && decide ((hsvI h).natAbs < 2 ^ 200) && Float64.isFinite (alF spread h) && (rnd (alF spread h)).fmod (max spread 1) == along &&
     (match hsvRgb h s v with
      | [.float x, .float y, .float z] => bk2 x l0 && bk2 y l1 && bk2 z l2
      | _ => false)
   | _ => false)
theorem hlsB_is {l0 l1 l2 spread along : Int} (hb : hlsB l0 l1 l2 spread along = true) : ∃ h l s x y z, HlsT l0 l1 l2 spread along h l s x y z := by
  unfold hlsB at hb
  rw [Bool.and_eq_true] at hb
  obtain ⟨hok, hb⟩ := hb
  split at hb
  · rename_i h l s e1
    rw [Bool.and_eq_true] at hb
    obtain ⟨h1, h2⟩ := hb
    split at h2
    · rename_i x y z e2
      simp only [Bool.and_eq_true, beq_iff_eq] at h1 h2
      exact ⟨h, l, s, x, y, z, ⟨hok, e1, h1.1.1.1, h1.1.1.2, e2, h2.1.1, h2.1.2, h2.2, h1.1.2, h1.2⟩⟩
    · cases h2
  · cases hb
theorem hsvB_is {l0 l1 l2 spread along : Int} (hb : hsvB l0 l1 l2 spread along = true) : ∃ h l s x y z, HsvT l0 l1 l2 spread along h l s x y z := by
  unfold hsvB at hb
  rw [Bool.and_eq_true] at hb
  obtain ⟨hok, hb⟩ := hb
  split at hb
  · rename_i h l s e1
    rw [Bool.and_eq_true] at hb
    obtain ⟨h1, h2⟩ := hb
    split at h2
    · rename_i x y z e2
      simp only [Bool.and_eq_true, beq_iff_eq, decide_eq_true_eq] at h1 h2
      exact ⟨h, l, s, x, y, z, ⟨hok, e1, h1.1.1.1.1.1, h1.1.1.1.1.2, h1.1.1.1.2, h1.1.1.2, e2, h2.1.1, h2.1.2, h2.2, h1.1.2, h1.2⟩⟩
    · cases h2
  · cases hb
noncomputable def le0 (a b : Int) : Bool := decide (0 ≤ a) && decide (a ≤ b)
noncomputable def tblB (e : Int × Int × Int × Int × Int) : Bool :=
  hlsB e.1 e.2.1 e.2.2.1 e.2.2.2.1 e.2.2.2.2 && hsvB e.1 e.2.1 e.2.2.1 e.2.2.2.1 e.2.2.2.2 && le0 e.1 20 && le0 e.2.1 20 && le0 e.2.2.1 20 && le0 e.2.2.2.1 40 && le0 e.2.2.2.2 40
noncomputable def tbl1 : List (Int × Int × Int × Int × Int) := tbl.drop 12
noncomputable def tbl2 : List (Int × Int × Int × Int × Int) := tbl1.drop 12
noncomputable def tbl3 : List (Int × Int × Int × Int × Int) := tbl2.drop 12
noncomputable def tbl4 : List (Int × Int × Int × Int × Int) := tbl3.drop 12
noncomputable def tbl5 : List (Int × Int × Int × Int × Int) := tbl4.drop 12
noncomputable def tbl6 : List (Int × Int × Int × Int × Int) := tbl5.drop 12
noncomputable def tbl7 : List (Int × Int × Int × Int × Int) := tbl6.drop 12
set_option maxRecDepth 1000000 in
theorem part0 : ((tbl.take 12).all tblB) = true := by decide +kernel
set_option maxRecDepth 1000000 in
theorem part1 : ((tbl1.take 12).all tblB) = true := by decide +kernel
set_option maxRecDepth 1000000 in
theorem part2 : ((tbl2.take 12).all tblB) = true := by decide +kernel
set_option maxRecDepth 1000000 in
theorem part3 : ((tbl3.take 12).all tblB) = true := by decide +kernel
set_option maxRecDepth 1000000 in
theorem part4 : ((tbl4.take 12).all tblB) = true := by decide +kernel
set_option maxRecDepth 1000000 in
theorem part5 : ((tbl5.take 12).all tblB) = true := by decide +kernel
set_option maxRecDepth 1000000 in
theorem part6 : ((tbl6.take 12).all tblB) = true := by decide +kernel
set_option maxRecDepth 1000000 in
theorem part7 : ((tbl7.take 12).all tblB) = true := by decide +kernel
theorem part_on {l r : List (Int × Int × Int × Int × Int)} (h : (l.take 12).all tblB = true) (e : l.drop 12 = r) (h2 : r.all tblB = true) : l.all tblB = true := by
  subst e
  rw [← List.take_append_drop 12 l, List.all_append, h, h2]
  rfl
theorem part_end : (tbl7.drop 12).all tblB = true := by decide +kernel
theorem tbl_all : ∀ e ∈ tbl, tblB e = true :=
  List.all_eq_true.mp (part_on part0 rfl (part_on part1 rfl (part_on part2 rfl (part_on part3 rfl (part_on part4 rfl (part_on part5 rfl (part_on part6 rfl (part_on part7 rfl part_end))))))))
theorem row7_is : rowOf 7 3 = row7 := by decide +kernel
theorem row13_is : rowOf 13 2 = row13 := by decide +kernel
theorem row19_is : rowOf 19 2 = row19 := by decide +kernel

end Mine

/-! P2 -/
namespace Mine
noncomputable def dueB (p root : Nat) (c t0 t1 l0 l1 l2 times : Int) : Bool :=
  let first := ((p : Int).fdiv 6 * ((times * t0 - 1).fmod 6 + 1)).toNat
  let second := ((p : Int).fdiv 6 * ((times * t1 - 1).fmod 6 + 1)).toNat
  let few := p - 1 - first
  let k3 := ((p : Int).fdiv 3 * times).toNat
  let mx := (max ((first : Int) + second - p + 1) 0).toNat
  let cnt := (chA second few / chB few).toNat
  let w := (((root : Int) ^ (k3 : Int).toNat).fmod p).toNat
  let due := ((-1 : Int) ^ ((first : Int) + 1).toNat * cnt * c ^ (mx : Int).toNat).fmod p - (if ((first : Int) + second == 2 * (p : Int) - 2) = true then 1 else 0)
  decide (((p : Int).fdiv 6 * ((times * t0 - 1).fmod 6 + 1) = first) ∧
  ((p : Int).fdiv 6 * ((times * t1 - 1).fmod 6 + 1) = second) ∧
  ((p : Int) - 1 - first = few) ∧
  ((p : Int).fdiv 3 * times = k3) ∧
  (max ((first : Int) + second - p + 1) 0 = mx) ∧
  (first ≤ 18) ∧ (second ≤ 18) ∧ (few ≤ 18) ∧ (k3 ≤ 40) ∧ (mx ≤ 20) ∧ (cnt ≤ 100000) ∧ (w ≤ 18) ∧ (-100 ≤ due ∧ due ≤ 100) ∧
  (chA second few / chB few = cnt) ∧
  (chA second few % chB few = 0) ∧
  (((root : Int) ^ (k3 : Int).toNat).fmod p = w) ∧
  ((l0 + l1 * w + l2 * w * w - due) % p = 0))
theorem dueB_is {p root : Nat} {c t0 t1 l0 l1 l2 times : Int} (h : dueB p root c t0 t1 l0 l1 l2 times = true) : ∃ first second few k3 mx cnt w due, Due p root c t0 t1 l0 l1 l2 times first second few k3 mx cnt w due := by
  have h := of_decide_eq_true h
  obtain ⟨a1, a2, a3, a4, a5, a6, a7, a8, a9, a10, a11, a12, a13, a14, a15, a16, a17⟩ := h
  exact ⟨_, _, _, _, _, _, _, _, ⟨a1, a2, a3, a4, a5, a6, a7, a8, a9, a10, a11, a12, a13, a14, a15, a16, rfl, a17⟩⟩
noncomputable def combo (p root : Nat) (ps : List (Int × Int)) (c t0 t1 : Int) (e : Int × Int × Int × Int × Int) : Bool :=
  decide ((dotsAt p c t0 t1 ps (p - 1)).take 3 = [e.1 + 1, e.2.1 + 1, e.2.2.1 + 1]) &&
  decide (e.2.2.2.1 * e.2.2.2.1 - e.2.2.2.1 * e.2.2.2.2 + e.2.2.2.2 * e.2.2.2.2 = sqOf p c t0 t1) &&
  dueB p root c t0 t1 e.1 e.2.1 e.2.2.1 1 && dueB p root c t0 t1 e.1 e.2.1 e.2.2.1 5
noncomputable def e0 : Int × Int × Int × Int × Int := (0, 0, 0, 0, 0)
noncomputable def combos (p root : Nat) (ps : List (Int × Int)) (idx : List (List Nat)) (c : Nat) : Bool :=
  (List.range 6).all fun t0 => (List.range 6).all fun t1 => decide ((idx.getD c []).getD (t0 * 6 + t1) 0 < tbl.length) && combo p root ps c (t0 + 1) (t1 + 1) (tbl.getD ((idx.getD c []).getD (t0 * 6 + t1) 0) e0)
set_option maxRecDepth 1000000 in
theorem all7 : ((List.range 7).all fun c => combos 7 3 row7 idx7 c) = true := by decide +kernel
set_option maxRecDepth 1000000 in
theorem all13 : ((List.range 13).all fun c => combos 13 2 row13 idx13 c) = true := by decide +kernel
set_option maxRecDepth 1000000 in
theorem all19a : ((List.range 5).all fun c => combos 19 2 row19 idx19 c) = true := by decide +kernel
set_option maxRecDepth 1000000 in
theorem all19b : ((List.range 5).all fun c => combos 19 2 row19 idx19 (c + 5)) = true := by decide +kernel
set_option maxRecDepth 1000000 in
theorem all19c : ((List.range 5).all fun c => combos 19 2 row19 idx19 (c + 10)) = true := by decide +kernel
set_option maxRecDepth 1000000 in
theorem all19d : ((List.range 4).all fun c => combos 19 2 row19 idx19 (c + 15)) = true := by decide +kernel
theorem all19 {k : Nat} (hk : k < 19) : combos 19 2 row19 idx19 k = true := by
  rcases Nat.lt_or_ge k 5 with h | h
  · exact List.all_eq_true.mp all19a k (List.mem_range.mpr h)
  obtain ⟨a, rfl⟩ := Nat.exists_eq_add_of_le' h
  rcases Nat.lt_or_ge a 5 with h1 | h1
  · exact List.all_eq_true.mp all19b a (List.mem_range.mpr h1)
  obtain ⟨b, rfl⟩ := Nat.exists_eq_add_of_le' h1
  rcases Nat.lt_or_ge b 5 with h2 | h2
  · exact List.all_eq_true.mp all19c b (List.mem_range.mpr h2)
  obtain ⟨d, rfl⟩ := Nat.exists_eq_add_of_le' h2
  exact List.all_eq_true.mp all19d d (List.mem_range.mpr (Nat.lt_of_add_lt_add_right (n := 15) hk))
theorem combos_is {p root : Nat} {ps : List (Int × Int)} {idx : List (List Nat)} {c : Nat} (hps : rowOf p root = ps) (h : combos p root ps idx c = true) {t0 t1 : Int} (h0 : 1 ≤ t0) (h1 : t0 ≤ 6) (h2 : 1 ≤ t1) (h3 : t1 ≤ 6) :
    ∃ l0 l1 l2 spread along, PlainAt p root c t0 t1 l0 l1 l2 spread along := by
  unfold combos at h
  obtain ⟨a, rfl⟩ : ∃ a : Nat, t0 = (a : Int) + 1 := ⟨(t0 - 1).toNat, by exact om0 h0 h1⟩
  obtain ⟨b, rfl⟩ : ∃ b : Nat, t1 = (b : Int) + 1 := ⟨(t1 - 1).toNat, by exact om0 h2 h3⟩
  have g := List.all_eq_true.mp (List.all_eq_true.mp h a (List.mem_range.mpr (by exact om1 h0 h1))) b (List.mem_range.mpr (by exact om1 h2 h3))
  rw [Bool.and_eq_true] at g
  obtain ⟨gi, g⟩ := g
  have gi := of_decide_eq_true gi
  obtain ⟨e, he⟩ : ∃ e, tbl.getD ((idx.getD c []).getD (a * 6 + b) 0) e0 = e := ⟨_, rfl⟩
  have hm : e ∈ tbl := by
    rw [← he, List.getD, List.getElem?_eq_getElem gi]
    exact List.getElem_mem gi
  rw [he] at g
  have ht := tbl_all e hm
  unfold tblB le0 at ht
  unfold combo at g
  simp only [Bool.and_eq_true, decide_eq_true_eq] at ht g
  obtain ⟨⟨⟨g1, g2⟩, g3⟩, g4⟩ := g
  obtain ⟨⟨⟨⟨⟨⟨q1, q2⟩, q3⟩, q4⟩, q5⟩, q6⟩, q7⟩ := ht
  refine ⟨e.1, e.2.1, e.2.2.1, e.2.2.2.1, e.2.2.2.2, ⟨by rw [hps]; exact g1, q3, q4, q5, q6, q7, hlsB_is q1, hsvB_is q2, g2, ?_⟩⟩
  rintro times (rfl | rfl)
  · exact dueB_is g3
  · exact dueB_is g4
theorem plain_all : PlainAll := by
  intro p root c t0 t1 hpr hc0 hcp h0 h1 h2 h3
  obtain ⟨k, rfl⟩ : ∃ k : Nat, c = k := ⟨c.toNat, by exact om2 hc0⟩
  rcases hpr with ⟨rfl, rfl⟩ | ⟨rfl, rfl⟩ | ⟨rfl, rfl⟩
  · exact combos_is row7_is (List.all_eq_true.mp all7 k (List.mem_range.mpr (by exact om3 hc0 hcp))) h0 h1 h2 h3
  · exact combos_is row13_is (List.all_eq_true.mp all13 k (List.mem_range.mpr (by exact om4 hc0 hcp))) h0 h1 h2 h3
  · exact combos_is row19_is (all19 (by exact om5 hc0 hcp)) h0 h1 h2 h3

end Mine

/-! S28 -/
namespace Mine
theorem law_final {w : World} {A : Around} {E : Value → Shared → Prop} {s : Shared} {G0 : Heap} {L a : Nat} {mm : Str → Option Value} {oT oP oS : Obj} {vs : List Value} {ns : List Int} {env : Env} {qual : Str} {code : Value} {sc : Scope} {rest : List Stmt} {cl : List (Str × Addr)}
    (e : lawOf (hd.heap_39 w.params) 0 = some (sc, rest)) (hcl : cl = [(("times" : Str), L + 1 + 1 + 1), ("p", L + 1 + 1), ("script", L + 1)])
    (EO : EnvOk env sc L cl qual code) (AO : AOk A (0 + 450)) (S : Stat (hd.heap_39 w.params) G0) (hC : CodeHd G0 68 64) (hC2 : CodeHd G0 75 71) (hC3 : CodeHd G0 167 163) (hC4 : CodeHd G0 172 170)
    (F : Fr G0 L s.heap mm) (N : News G0 L s.heap [(L + 1 + 1 + 1, oT), (L + 1 + 1, oP), (L + 1, oS), (170, tabObj #[]), (163, tabObj #[]), (71, tabObj #[]), (64, tabObj #[])])
    (hT : oT.data = .cell none) (hP : oP.data = .cell none) (hS : oS.data = .cell (some (.ref a))) (hl : G0.IsList a vs.toArray) (hI : IntsAre vs ns) (hn : ns.length ≤ 1000)
    (l0 : 170 < L ∧ 163 < L ∧ 71 < L ∧ 64 < L) (hplain : PlainAll) :
    wpAny (model PySem.Challenge.rw_uk0010_01.row.prog w) A (execs rest env) (fun fl s' => fl = .ret (.bool true) ∧ (∀ b o, G0.get? b = some o → s'.heap.get? b = some o) ∧ s'.os = s.os ∧ s'.gens = s.gens ∧ GrownAll [(172, 170), (167, 163), (75, 71), (68, 64)] s'.heap) E s := by
  have n1 := N _ (.head _)
  have n2 := N _ (.tail _ (.head _))
  have n3 := N _ (.tail _ (.tail _ (.head _)))
  have n4 := N _ (.tail _ (.tail _ (.tail _ (.head _))))
  have n5 := N _ (.tail _ (.tail _ (.tail _ (.tail _ (.head _)))))
  have n6 := N _ (.tail _ (.tail _ (.tail _ (.tail _ (.tail _ (.head _))))))
  have n7 := N _ (.tail _ (.tail _ (.tail _ (.tail _ (.tail _ (.tail _ (.head _)))))))
  have hL : G0.get? L = none := Heap.get?_none_of_le F.above
  have R : Rep G0 ((L, Mo.ns []) :: (L + 1 + 1 + 1, Mo.cell none) :: (L + 1 + 1, Mo.cell none) :: (L + 1, Mo.cell (some (.lst (ns.map V.int)))) :: [(170, Mo.tab siteL), (163, Mo.tab siteP), (71, Mo.tab siteD), (64, Mo.tab siteA)]) [] s.heap := by
    refine ⟨G0.get?, F.keep, F.keep, (fun p hp => by cases hp), ⟨hL, hL, ⟨mm, F.ns, fun x v q => by cases q⟩, ?_⟩, ⟨n1.2.2, n1.2.2, ⟨_, n1.1, hT⟩, ?_⟩, ⟨n2.2.2, n2.2.2, ⟨_, n2.1, hP⟩, ?_⟩,
      ⟨n3.2.2, n3.2.2, ⟨a, ⟨_, n3.1, hS⟩, ?_⟩, ?_⟩, ⟨n4.2.2, n4.2.2, ⟨_, n4.1, trivial, .inl rfl, trivial⟩, ?_⟩, ⟨n5.2.2, n5.2.2, ⟨_, n5.1, trivial, .inl rfl, .inl rfl, trivial⟩, ?_⟩, ⟨n6.2.2, n6.2.2, ⟨_, n6.1, trivial, .inl rfl, trivial⟩, ?_⟩, ⟨n7.2.2, n7.2.2, ⟨_, n7.1, trivial, .inl rfl, trivial⟩, ?_⟩, trivial⟩
    case refine_4 =>
      obtain ⟨o, ho, hc, k, hd⟩ := hl
      simp only [RepT]
      exact ⟨o, _, k, ho, hc, hd, RepL.ofInts hI⟩
    all_goals
      intro q hq
      simp only [List.mem_cons, List.not_mem_nil, or_false] at hq
    all_goals
      first
      | cases hq; done
      | (rcases hq with rfl | rfl | rfl | rfl | rfl | rfl | rfl <;> (show (_ : Nat) ≠ _; omega))
      | (rcases hq with rfl | rfl | rfl | rfl | rfl | rfl <;> (show (_ : Nat) ≠ _; omega))
      | (rcases hq with rfl | rfl | rfl | rfl | rfl <;> (show (_ : Nat) ≠ _; omega))
      | (rcases hq with rfl | rfl | rfl | rfl <;> (show (_ : Nat) ≠ _; omega))
      | (rcases hq with rfl | rfl | rfl <;> (show (_ : Nat) ≠ _; omega))
      | (rcases hq with rfl | rfl <;> (show (_ : Nat) ≠ _; omega))
      | (subst hq; show (_ : Nat) ≠ _; omega)
  refine wpAny_mono (law_top (n := 0) e hcl EO AO S hC hC2 hC3 hC4 R hn (.tail _ (.tail _ (.tail _ (.head _)))) (.tail _ (.tail _ (.head _))) (.tail _ (.head _)) (.head _) hplain) (fun fl s' hq => ?_) fun _ _ x => x
  obtain ⟨rfl, tm, h', tk, ⟨B, RB⟩, rfl⟩ := hq
  have g : ∀ {c : Nat} {sites : List (Pos × Str)}, (c, Mo.tab sites) ∈ [(170, Mo.tab siteL), (163, Mo.tab siteP), (71, Mo.tab siteD), (64, Mo.tab siteA)] → GrownAt c h' := fun hm => by
    obtain ⟨_, _, ps, e, _⟩ := RB.led.mem hm
    exact ⟨ps, e⟩
  exact ⟨rfl, RB.keep, rfl, rfl, g (.head _), g (.tail _ (.head _)), g (.tail _ (.tail _ (.head _))), g (.tail _ (.tail _ (.tail _ (.head _)))), trivial⟩

end Mine

theorem PySem.Challenge.cw_uk0010_01_holds : PySem.Challenge.rw_uk0010_01.Holds := by
  exact Mine.hd (by
    k_go0
    all_goals (try k_fold)
    rename_i hI hr hcond hcond2 hD h₁ tk₁ w1 w2 w3 c1 c2 c3 X0 X T K F k1 k2 k3 N l0
    refine' wpAny_mono (Mine.law_final (a := _) (mm := _) (G0 := ghostOf _ _) ?hlaw rfl ?EO ?AO ⟨X, _, _, _, _, _, T⟩ codeHd k3 k2 k1 F N ?hT ?hP ?hS lifted hI ?hn l0 Mine.plain_all) ?hpost (fun _ _ x => x)
    case hlaw => with_unfolding_all exact rfl
    case EO => exact ⟨rfl, rfl, rfl, rfl, rfl, rfl, rfl, rfl⟩
    case AO => exact ⟨rfl, (show (1 + claimMargin + 1) + (0 + 450) < recursionLimit by decide), (show (4 + 3) + 8 * (0 + 450) < cLine by decide)⟩
    case hT => exact c1.trans rfl
    case hP => exact c2.trans rfl
    case hS => exact c3.trans rfl
    case hn => omega
    case hpost =>
      rintro fl s' ⟨rfl, hk, ho, hgn, hgr⟩
      refine ⟨⟨.inl ⟨_, _, [], rfl, fun _ => rfl, .bool true, ?hpo, fun _ => ⟨List.nodup_nil, fun a ha => by cases ha⟩⟩, hk, ho, ?_⟩, hgr⟩
      case hpo => with_unfolding_all rfl
      exact hgn.trans (by assumption))
