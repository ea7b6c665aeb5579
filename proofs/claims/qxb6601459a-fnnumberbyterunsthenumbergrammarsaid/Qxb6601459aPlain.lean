import Derived.Test.Qxb6601459aRows
namespace Go.Proofs.Qxb6601459a

def dg (x : Nat) : Bool := decide (48 ≤ x ∧ x ≤ 57)
/-- What is left behind a run of digits. -/
def skip : List Nat → List Nat
  | [] => []
  | x :: xs => if dg x = true then skip xs else x :: xs
/-- The next place and whether the byte is taken. -/
def nb (s x : Nat) : Nat × Bool :=
  if dg x = true ∧ (s = 14 ∨ s = 16 ∨ s = 19) then (s, true) else
  if x = 48 ∧ s = 12 then (13, true) else
  if dg x = true ∧ s = 12 then (14, true) else
  if dg x = true ∧ s = 15 then (16, true) else
  if dg x = true ∧ (s = 17 ∨ s = 18) then (19, true) else
  if (x = 43 ∨ x = 45) ∧ s = 17 then (18, true) else
  if x = 46 ∧ (s = 13 ∨ s = 14) then (15, true) else
  if (x = 101 ∨ x = 69) ∧ (s = 13 ∨ s = 14 ∨ s = 16) then (17, true) else
  if s = 13 ∨ s = 14 ∨ s = 16 ∨ s = 19 then (6, false) else (20, true)
def fin (s : Nat) : Bool := decide (s = 13 ∨ s = 14 ∨ s = 16 ∨ s = 19)
def run (s : Nat) : List Nat → Bool
  | [] => fin s
  | x :: xs => if (nb s x).2 = false ∨ (nb s x).1 = 20 then false else run (nb s x).1 xs

def dig : List Nat → Bool
  | [] => false
  | y :: r => dg y && decide (skip r = [])
def sgn : List Nat → Bool
  | [] => false
  | y :: r => if y = 43 ∨ y = 45 then dig r else dig (y :: r)
def ex : List Nat → Bool
  | [] => true
  | y :: r => if y = 101 ∨ y = 69 then sgn r else false
def pnt : List Nat → Bool
  | [] => false
  | y :: r => dg y && ex (skip r)
def frac : List Nat → Bool
  | [] => ex []
  | y :: r => if y = 46 then pnt r else ex (y :: r)
def gram : List Nat → Bool
  | [] => false
  | x :: r => if x = 48 then frac r else if dg x = true then frac (skip r) else false

theorem run19 (xs : List Nat) : run 19 xs = decide (skip xs = []) := by
  induction xs with
  | nil => rfl
  | cons x xs ih => by_cases h : dg x = true <;> simp [run, nb, skip, h, ih]
theorem run18 (xs : List Nat) : run 18 xs = dig xs := by
  cases xs with
  | nil => rfl
  | cons x xs => by_cases h : dg x = true <;> simp [run, nb, dig, h, run19]
theorem dg_not {x : Nat} (h : dg x = true) : ¬ x = 43 ∧ ¬ x = 45 ∧ ¬ x = 46 ∧ ¬ x = 101 ∧ ¬ x = 69 := by
  simp [dg] at h; omega
theorem dg48 : dg 48 = true := by decide
theorem run17 (xs : List Nat) : run 17 xs = sgn xs := by
  cases xs with
  | nil => rfl
  | cons x xs =>
    by_cases h : dg x = true
    · have n := dg_not h
      simp [run, nb, sgn, dig, h, run19, n]
    · by_cases h2 : x = 43 ∨ x = 45 <;> simp [run, nb, sgn, dig, h, h2, run18]
theorem run16 (xs : List Nat) : run 16 xs = ex (skip xs) := by
  induction xs with
  | nil => rfl
  | cons x xs ih =>
    by_cases h : dg x = true
    · simp [run, nb, skip, h, ih]
    · by_cases h2 : x = 101 ∨ x = 69 <;> simp [run, nb, skip, ex, h, h2, run17]
theorem run15 (xs : List Nat) : run 15 xs = pnt xs := by
  cases xs with
  | nil => rfl
  | cons x xs => by_cases h : dg x = true <;> simp [run, nb, pnt, h, run16]
theorem run13 (xs : List Nat) : run 13 xs = frac xs := by
  cases xs with
  | nil => rfl
  | cons x xs =>
    by_cases h1 : x = 46
    · subst h1; simp [run, nb, frac, dg, run15]
    · by_cases h2 : x = 101 ∨ x = 69 <;> simp [run, nb, frac, ex, h1, h2, run17]
theorem run14 (xs : List Nat) : run 14 xs = frac (skip xs) := by
  induction xs with
  | nil => rfl
  | cons x xs ih =>
    by_cases h : dg x = true
    · simp [run, nb, skip, h, ih]
    · by_cases h1 : x = 46
      · subst h1; simp [run, nb, frac, dg, run15, skip]
      · by_cases h2 : x = 101 ∨ x = 69 <;> simp [run, nb, skip, frac, ex, h, h1, h2, run17]
theorem run12 (xs : List Nat) : run 12 xs = gram xs := by
  cases xs with
  | nil => rfl
  | cons x xs =>
    by_cases h1 : x = 48
    · subst h1; simp [run, nb, gram, dg48, run13]
    · by_cases h : dg x = true <;> simp [run, nb, gram, h, h1, run14]
end Go.Proofs.Qxb6601459a
