/-
  DERIVED. THE PLAIN MATHEMATICS of the two laws: no Go in sight. By an AI agent.
-/
import Derived.RowKit
namespace Go.Proofs.Qxb6630907a

/-- Is the byte one of 'a' .. 'z'? -/
def low (x : UInt8) : Bool := decide (97 ≤ (x.toNat : Int)) && decide ((x.toNat : Int) ≤ 122)

/-- Is every byte of the list? -/
def allLow (l : List UInt8) : Bool := l.all low

/-- What 'Asked' answers, as bytes. -/
def askedL (l : List UInt8) : List UInt8 := if allLow l = true then l else []

theorem low_yes {x : UInt8} (h1 : 97 ≤ (x.toNat : Int)) (h2 : (x.toNat : Int) ≤ 122) : low x = true := by simp [low, h1, h2]
theorem low_under {x : UInt8} (h : (x.toNat : Int) < 97) : low x = false := by simp [low]; omega
theorem low_over {x : UInt8} (h : 122 < (x.toNat : Int)) : low x = false := by simp [low]; omega
theorem low_split (x : UInt8) : (97 ≤ (x.toNat : Int) ∧ (x.toNat : Int) ≤ 122 ∧ low x = true) ∨ ((x.toNat : Int) < 97 ∧ low x = false) ∨ (122 < (x.toNat : Int) ∧ low x = false) := by
  by_cases h1 : (x.toNat : Int) < 97
  · exact .inr (.inl ⟨h1, low_under h1⟩)
  · by_cases h2 : 122 < (x.toNat : Int)
    · exact .inr (.inr ⟨h2, low_over h2⟩)
    · exact .inl ⟨by omega, by omega, low_yes (by omega) (by omega)⟩

theorem allLow_nil : allLow [] = true := rfl
theorem allLow_append (a b : List UInt8) : allLow (a ++ b) = (allLow a && allLow b) := by simp [allLow]
theorem allLow_cons (x : UInt8) (b : List UInt8) : allLow (x :: b) = (low x && allLow b) := by simp [allLow]

theorem allLow_take_succ (l : List UInt8) (k : Nat) (h : k < l.length) : allLow (l.take (k + 1)) = (allLow (l.take k) && low l[k]) := by
  rw [List.take_succ_eq_append_getElem h, allLow_append]; simp [allLow]

theorem allLow_false_of (l : List UInt8) (k : Nat) (h : k < l.length) (hl : low l[k] = false) : allLow l = false := by
  simp only [allLow, List.all_eq_false]
  exact ⟨l[k], List.getElem_mem h, by simp [hl]⟩

theorem askedL_yes {l : List UInt8} (h : allLow l = true) : askedL l = l := by simp [askedL, h]
theorem askedL_no {l : List UInt8} (h : allLow l = false) : askedL l = [] := by simp [askedL, h]

end Go.Proofs.Qxb6630907a
