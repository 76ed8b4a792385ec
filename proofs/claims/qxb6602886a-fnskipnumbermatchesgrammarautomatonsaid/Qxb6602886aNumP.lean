/-
  PLAIN: skipNumber's grammar, the automaton, and that the two agree. No Go text.
-/
import Derived.WalkKit
namespace Go.Proofs.Qxb6602886a
open Go.RowKit

def isD (c : Int) : Bool := decide (48 ≤ c) && decide (c ≤ 57)

/-- The next state for a byte; 9: accept, 10: reject. -/
def nstep (s : Nat) (c : Int) : Nat :=
  match s with
  | 0 => if c = 45 then 1 else if c = 48 then 2 else if isD c then 3 else 10
  | 1 => if c = 48 then 2 else if isD c then 3 else 10
  | 2 => if isD c then 10 else if c = 46 then 4 else if c = 101 ∨ c = 69 then 6 else 9
  | 3 => if isD c then 3 else if c = 46 then 4 else if c = 101 ∨ c = 69 then 6 else 9
  | 4 => if isD c then 5 else 10
  | 5 => if isD c then 5 else if c = 101 ∨ c = 69 then 6 else 9
  | 6 => if c = 43 ∨ c = 45 then 7 else if isD c then 8 else 10
  | 7 => if isD c then 8 else 10
  | 8 => if isD c then 8 else 9
  | _ => 10

/-- The next state at the end. -/
def nlast (s : Nat) : Nat := if s = 2 ∨ s = 3 ∨ s = 5 ∨ s = 8 then 9 else 10

/-- The automaton from state s at place j, the rest ahead. -/
def endFrom (s : Nat) : List Int → Nat → Option Nat
  | [], j => if nlast s = 9 then some j else none
  | c :: r, j => if nstep s c = 9 then some j else if nstep s c = 10 then none else endFrom (nstep s c) r (j + 1)

/-- How many digits stand first. -/
def dc : List Int → Nat
  | [] => 0
  | c :: r => if isD c then dc r + 1 else 0

/-- Behind the exponent's letter and its sign, if any. -/
def expDigits (l : List Int) (j : Nat) : Option Nat := if dc l = 0 then none else some (j + dc l)
def expPart (l : List Int) (j : Nat) : Option Nat :=
  match l with
  | [] => some j
  | c :: r => if c = 101 ∨ c = 69 then
      match r with
      | [] => expDigits [] (j + 1)
      | d :: r' => if d = 43 ∨ d = 45 then expDigits r' (j + 2) else expDigits (d :: r') (j + 1)
    else some j
def fracPart (l : List Int) (j : Nat) : Option Nat :=
  match l with
  | [] => expPart [] j
  | c :: r => if c = 46 then (if dc r = 0 then none else expPart (r.drop (dc r)) (j + 1 + dc r)) else expPart (c :: r) j
def intPart (l : List Int) (j : Nat) : Option Nat :=
  if dc l = 0 ∨ (1 < dc l ∧ l.headD 0 = 48) then none else fracPart (l.drop (dc l)) (j + dc l)
def skipP (l : List Int) (j : Nat) : Option Nat :=
  match l with
  | [] => intPart [] j
  | c :: r => if c = 45 then intPart r (j + 1) else intPart (c :: r) j

/-! ### the two agree -/
theorem isD_iff (c : Int) : isD c = true ↔ 48 ≤ c ∧ c ≤ 57 := by unfold isD; simp

theorem end8 (l : List Int) : ∀ j, endFrom 8 l j = some (j + dc l) := by
  induction l with
  | nil => intro j; simp [endFrom, nlast, dc]
  | cons c r ih =>
    intro j
    by_cases h : isD c = true
    · simp [endFrom, nstep, dc, h, ih]; omega
    · simp [endFrom, nstep, dc, h]

theorem end7 (l : List Int) (j : Nat) : endFrom 7 l j = expDigits l j := by
  cases l with
  | nil => simp [endFrom, nlast, expDigits, dc]
  | cons c r =>
    by_cases h : isD c = true
    · simp [endFrom, nstep, expDigits, dc, h, end8]; omega
    · simp [endFrom, nstep, expDigits, dc, h]

theorem end6 (l : List Int) (j : Nat) : endFrom 6 l j = match l with
      | [] => expDigits [] j
      | d :: r' => if d = 43 ∨ d = 45 then expDigits r' (j + 1) else expDigits (d :: r') j := by
  cases l with
  | nil => simp [endFrom, nlast, expDigits, dc]
  | cons c r =>
    by_cases h : c = 43 ∨ c = 45
    · simp [endFrom, nstep, h, end7]
    · by_cases hd : isD c = true
      · simp [endFrom, nstep, h, hd, end8, expDigits, dc]; omega
      · simp [endFrom, nstep, h, hd, expDigits, dc]

theorem notD_e {c : Int} (h : c = 101 ∨ c = 69) : isD c = false := by rcases h with rfl | rfl <;> decide

/-- Behind the fraction's first digit. -/
theorem end5 (l : List Int) : ∀ j, endFrom 5 l j = expPart (l.drop (dc l)) (j + dc l) := by
  induction l with
  | nil => intro j; simp [endFrom, nlast, dc, expPart]
  | cons c r ih =>
    intro j
    by_cases h : isD c = true
    · simp [endFrom, nstep, dc, h, ih]
      rw [show j + 1 + dc r = j + (dc r + 1) by omega]
    · by_cases he : c = 101 ∨ c = 69
      · simp [endFrom, nstep, dc, h, he, end6, expPart]
      · simp [endFrom, nstep, dc, h, he, expPart]

theorem end4 (l : List Int) (j : Nat) : endFrom 4 l j = if dc l = 0 then none else expPart (l.drop (dc l)) (j + dc l) := by
  cases l with
  | nil => simp [endFrom, nlast, dc]
  | cons c r =>
    by_cases h : isD c = true
    · simp [endFrom, nstep, dc, h, end5]
      rw [show j + 1 + dc r = j + (dc r + 1) by omega]
    · simp [endFrom, nstep, dc, h]

theorem tail_eq (l : List Int) (j : Nat) (h : dc l = 0) (s : Nat) (hs : s = 2 ∨ s = 3) : endFrom s l j = fracPart l j := by
  cases l with
  | nil => rcases hs with rfl | rfl <;> simp [endFrom, nlast, fracPart, expPart]
  | cons c r =>
    have hd : isD c = false := by
      by_cases hc : isD c = true
      · simp [dc, hc] at h
      · simpa using hc
    by_cases h46 : c = 46
    · rcases hs with rfl | rfl <;> simp [endFrom, nstep, h46, end4, fracPart, show isD 46 = false from rfl]
    · by_cases he : c = 101 ∨ c = 69
      · rcases hs with rfl | rfl <;> simp [endFrom, nstep, hd, h46, he, end6, fracPart, expPart]
      · rcases hs with rfl | rfl <;> simp [endFrom, nstep, hd, h46, he, fracPart, expPart]

theorem end3 (l : List Int) : ∀ j, endFrom 3 l j = fracPart (l.drop (dc l)) (j + dc l) := by
  induction l with
  | nil => intro j; exact tail_eq [] j rfl 3 (.inr rfl)
  | cons c r ih =>
    intro j
    by_cases h : isD c = true
    · simp [endFrom, nstep, dc, h, ih]
      rw [show j + 1 + dc r = j + (dc r + 1) by omega]
    · have h0 : dc (c :: r) = 0 := by simp [dc, h]
      rw [h0]; exact tail_eq (c :: r) j h0 3 (.inr rfl)

theorem end1 (l : List Int) (j : Nat) : endFrom 1 l j = intPart l j := by
  cases l with
  | nil => simp [endFrom, nlast, intPart, dc]
  | cons c r =>
    by_cases h0 : c = 48
    · subst h0
      have hD : isD 48 = true := rfl
      rw [show endFrom 1 (48 :: r) j = endFrom 2 r (j + 1) by simp [endFrom, nstep]]
      by_cases hr : dc r = 0
      · rw [tail_eq r _ hr 2 (.inl rfl)]
        simp [intPart, dc, hD, hr]
      · cases r with
        | nil => simp [dc] at hr
        | cons d r' =>
          have hd : isD d = true := by
            by_cases hc : isD d = true
            · exact hc
            · simp [dc, hc] at hr
          simp [endFrom, nstep, hd, intPart, dc, hD]
    · by_cases hd : isD c = true
      · rw [show endFrom 1 (c :: r) j = endFrom 3 r (j + 1) by simp [endFrom, nstep, h0, hd], end3]
        simp [intPart, dc, hd, h0]
        rw [show j + 1 + dc r = j + (dc r + 1) by omega]
      · simp [endFrom, nstep, h0, hd, intPart, dc]

theorem end0 (l : List Int) (j : Nat) : endFrom 0 l j = skipP l j := by
  cases l with
  | nil => simp [endFrom, nlast, skipP, intPart, dc]
  | cons c r =>
    by_cases h : c = 45
    · subst h; simp [endFrom, nstep, skipP, end1]
    · have e : endFrom 0 (c :: r) j = endFrom 1 (c :: r) j := by simp [endFrom, nstep, h]
      rw [e, end1]; simp [skipP, h]
end Go.Proofs.Qxb6602886a
