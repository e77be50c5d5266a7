/-
  JSON numbers, plain: the scanner's states, the test by splitting, and that they say the same.
-/
import Derived.WalkKit
namespace Go.Proofs.Qxb6600967a

abbrev B := List UInt8

def dg (c : UInt8) : Bool := decide (48 ≤ c.toNat) && decide (c.toNat ≤ 57)
def eE (c : UInt8) : Bool := decide (c.toNat = 101) || decide (c.toNat = 69)
def dot (c : UInt8) : Bool := decide (c.toNat = 46)
def minus (c : UInt8) : Bool := decide (c.toNat = 45)
def sgn (c : UInt8) : Bool := decide (c.toNat = 43) || decide (c.toNat = 45)
def zero (c : UInt8) : Bool := decide (c.toNat = 48)

/-- One byte on, from the state q. -/
def step (q : Nat) (c : UInt8) : Option Nat :=
  match q with
  | 0 => if minus c then some 1 else if zero c then some 3 else if dg c then some 2 else none
  | 1 => if zero c then some 3 else if dg c then some 2 else none
  | 2 => if dg c then some 2 else if dot c then some 4 else if eE c then some 6 else none
  | 3 => if dot c then some 4 else if eE c then some 6 else none
  | 4 => if dg c then some 5 else none
  | 5 => if dg c then some 5 else if eE c then some 6 else none
  | 6 => if sgn c then some 7 else if dg c then some 8 else none
  | 7 => if dg c then some 8 else none
  | 8 => if dg c then some 8 else none
  | _ => none

def fin (q : Nat) : Bool := q == 2 || q == 3 || q == 5 || q == 8

def acc : Nat → B → Bool
  | q, [] => fin q
  | q, c :: r => match step q c with | some q' => acc q' r | none => false

/-! ### the test by splitting -/

def all1 (l : B) : Bool := !l.isEmpty && l.all dg

def strip (f : UInt8 → Bool) : B → B
  | [] => []
  | c :: r => if f c then r else c :: r

/-- From the first byte at which f holds on. -/
def upto (f : UInt8 → Bool) (l : B) : B := l.takeWhile (fun c => !f c)
def from' (f : UInt8 → Bool) (l : B) : B := l.dropWhile (fun c => !f c)

def expOk (l : B) : Bool := match from' eE l with | [] => true | _ :: r => all1 (strip sgn r)
def fracOk (m : B) : Bool := match from' dot m with | [] => true | _ :: r => all1 r

def noLead (i : B) : Bool := match i with | c :: _ :: _ => !zero c | _ => true

/-- zzIsNumber. -/
def isNum (l : B) : Bool :=
  expOk l && (let m := strip minus (upto eE l); fracOk m && (all1 (upto dot m) && noLead (upto dot m)))

theorem dg_not {c : UInt8} (h : dg c = true) : eE c = false ∧ dot c = false ∧ minus c = false ∧ sgn c = false := by
  simp only [dg, Bool.and_eq_true, decide_eq_true_eq] at h
  simp only [eE, dot, minus, sgn, Bool.or_eq_false_iff, decide_eq_false_iff_not]
  omega

theorem eE_not {c : UInt8} (h : eE c = true) : dg c = false ∧ dot c = false ∧ minus c = false ∧ sgn c = false ∧ zero c = false := by
  simp only [eE, Bool.or_eq_true, decide_eq_true_eq] at h
  simp only [dg, dot, minus, sgn, zero, Bool.or_eq_false_iff, Bool.and_eq_false_iff, decide_eq_false_iff_not]
  omega

theorem dot_not {c : UInt8} (h : dot c = true) : dg c = false ∧ eE c = false ∧ minus c = false ∧ sgn c = false ∧ zero c = false := by
  simp only [dot, decide_eq_true_eq] at h
  simp only [dg, eE, minus, sgn, zero, Bool.or_eq_false_iff, Bool.and_eq_false_iff, decide_eq_false_iff_not]
  omega

theorem zero_is {c : UInt8} (h : zero c = true) : dg c = true := by
  simp only [zero, decide_eq_true_eq] at h
  simp only [dg, Bool.and_eq_true, decide_eq_true_eq]
  omega

theorem minus_not {c : UInt8} (h : minus c = true) : dg c = false ∧ eE c = false ∧ dot c = false ∧ zero c = false ∧ sgn c = true := by
  simp only [minus, decide_eq_true_eq] at h
  simp only [dg, eE, dot, zero, sgn, Bool.or_eq_false_iff, Bool.and_eq_false_iff, Bool.or_eq_true, decide_eq_false_iff_not, decide_eq_true_eq]
  omega

theorem sgn_not {c : UInt8} (h : sgn c = true) : dg c = false ∧ eE c = false ∧ dot c = false ∧ zero c = false := by
  simp only [sgn, Bool.or_eq_true, decide_eq_true_eq] at h
  simp only [dg, eE, dot, zero, Bool.or_eq_false_iff, Bool.and_eq_false_iff, decide_eq_false_iff_not]
  omega

/-! ### from each state: what is left of the test -/

theorem acc8 : ∀ l : B, acc 8 l = l.all dg
  | [] => rfl
  | c :: r => by
    cases h : dg c <;> simp [acc, step, h, acc8 r]

theorem acc7 (l : B) : acc 7 l = all1 l := by
  cases l with
  | nil => rfl
  | cons c r => cases h : dg c <;> simp [acc, step, h, acc8 r, all1]

theorem acc6 (l : B) : acc 6 l = all1 (strip sgn l) := by
  cases l with
  | nil => rfl
  | cons c r =>
    cases hs : sgn c
    · cases h : dg c <;> simp [acc, step, h, hs, acc8 r, all1, strip]
    · simp [acc, step, hs, acc7 r, strip]

/-- Digits, then an exponent or nothing. -/
def rest5 (l : B) : Bool := (upto eE l).all dg && expOk l

theorem expOk_cons {c : UInt8} {r : B} : expOk (c :: r) = if eE c then all1 (strip sgn r) else expOk r := by
  cases h : eE c <;> simp [expOk, from', h]

theorem upto_cons {f : UInt8 → Bool} {c : UInt8} {r : B} : upto f (c :: r) = if f c then [] else c :: upto f r := by
  cases h : f c <;> simp [upto, h]

theorem acc5 : ∀ l : B, acc 5 l = rest5 l
  | [] => rfl
  | c :: r => by
    cases h : dg c
    · cases he : eE c
      · simp [acc, step, h, he, rest5, upto_cons]
      · simp [acc, step, h, he, rest5, upto_cons, expOk_cons, acc6]
    · have he := (dg_not h).1
      simp [acc, step, h, acc5 r, rest5, upto_cons, expOk_cons, he]

theorem acc4 (l : B) : acc 4 l = (all1 (upto eE l) && expOk l) := by
  cases l with
  | nil => rfl
  | cons c r =>
    cases h : dg c
    · cases he : eE c <;> simp [acc, step, h, he, all1, upto_cons]
    · have he := (dg_not h).1
      simp [acc, step, h, acc5 r, rest5, upto_cons, expOk_cons, he, all1]

theorem fracOk_cons {c : UInt8} {r : B} : fracOk (c :: r) = if dot c then all1 r else fracOk r := by
  cases h : dot c <;> simp [fracOk, from', h]

/-- More digits of the integer part, or what follows it. -/
theorem acc2 : ∀ l : B, acc 2 l = (expOk l && (fracOk (upto eE l) && (upto dot (upto eE l)).all dg))
  | [] => rfl
  | c :: r => by
    cases h : dg c
    · cases hd : dot c
      · cases he : eE c
        · simp [acc, step, h, he, hd, upto_cons]
        · simp [acc, step, h, he, hd, expOk_cons, acc6, fracOk, upto, from']
      · have he := (dot_not hd).2.1
        simp [acc, step, h, he, hd, upto_cons, expOk_cons, fracOk_cons, acc4, Bool.and_comm]
    · obtain ⟨he, hd, _, _⟩ := dg_not h
      simp [acc, step, h, he, hd, upto_cons, expOk_cons, fracOk_cons, acc2 r]

/-- What follows a zero. -/
theorem acc3 (l : B) : acc 3 l = (expOk l && (fracOk (upto eE l) && (upto dot (upto eE l)).isEmpty)) := by
  cases l with
  | nil => rfl
  | cons c r =>
    cases hd : dot c
    · cases he : eE c
      · simp [acc, step, he, hd, upto_cons]
      · simp [acc, step, he, hd, expOk_cons, acc6, fracOk, upto, from']
    · have he := (dot_not hd).2.1
      simp [acc, step, he, hd, upto_cons, expOk_cons, fracOk_cons, acc4, Bool.and_comm]

theorem acc1 (l : B) : acc 1 l = (expOk l && (fracOk (upto eE l) && (all1 (upto dot (upto eE l)) && noLead (upto dot (upto eE l))))) := by
  cases l with
  | nil => rfl
  | cons c r =>
    cases hz : zero c
    · cases h : dg c
      · cases he : eE c
        · cases hd : dot c <;> simp [acc, step, h, he, hd, hz, upto_cons, all1]
        · simp [acc, step, h, he, hz, expOk_cons, fracOk, upto, from', all1]
      · obtain ⟨he, hd, _, _⟩ := dg_not h
        have hn : noLead (c :: upto dot (upto eE r)) = true := by
          cases upto dot (upto eE r) <;> simp [noLead, hz]
        simp [acc, step, h, he, hd, hz, upto_cons, expOk_cons, fracOk_cons, acc2 r, all1, hn]
    · have h := zero_is hz
      obtain ⟨he, hd, _, _⟩ := dg_not h
      have hn : (all1 (c :: upto dot (upto eE r)) && noLead (c :: upto dot (upto eE r))) = (upto dot (upto eE r)).isEmpty := by
        cases upto dot (upto eE r) <;> simp [noLead, hz, all1, h]
      simp only [acc, step, hz, if_true, upto_cons, he, hd, expOk_cons, fracOk_cons, acc3 r, Bool.false_eq_true, if_false, hn]

theorem acc0 (l : B) : acc 0 l = isNum l := by
  cases l with
  | nil => rfl
  | cons c r =>
    cases hm : minus c
    · have h1 : acc 0 (c :: r) = acc 1 (c :: r) := by simp [acc, step, hm]
      rw [h1, acc1, isNum]
      have : strip minus (upto eE (c :: r)) = upto eE (c :: r) := by
        rw [upto_cons]
        cases eE c <;> simp [strip, hm]
      rw [this]
    · obtain ⟨h, he, hd, hz, _⟩ := minus_not hm
      have h1 : acc 0 (c :: r) = acc 1 r := by simp [acc, step, hm]
      rw [h1, acc1, isNum]
      have h2 : strip minus (upto eE (c :: r)) = upto eE r := by
        rw [upto_cons, he]
        simp [strip, hm]
      have h3 : expOk (c :: r) = expOk r := by rw [expOk_cons, he]; rfl
      rw [h2, h3]

end Go.Proofs.Qxb6600967a
