/-
  The run of the states over a text: where it stops; the longest beginning that can go on; the frame of a block; a scope with several labels, each jumped to forward.
-/
import Derived.Test.Qxb6600967aPlain
import Derived.Scope
namespace Go.Proofs.Qxb6600967a
open Go.RowKit

/-- The state behind l, from q; none: stuck. -/
def go : Nat → B → Option Nat
  | q, [] => some q
  | q, c :: r => match step q c with | some q' => go q' r | none => none

theorem go_append (q : Nat) (a b : B) : go q (a ++ b) = (go q a).bind (fun q' => go q' b) := by
  induction a generalizing q with
  | nil => rfl
  | cons c r ih =>
    simp only [List.cons_append, go]
    cases step q c with
    | none => rfl
    | some q' => exact ih q'

theorem acc_go (q : Nat) (l : B) : acc q l = match go q l with | some q' => fin q' | none => false := by
  induction l generalizing q with
  | nil => rfl
  | cons c r ih =>
    simp only [acc, go]
    cases step q c with
    | none => rfl
    | some q' => exact ih q'

/-- Behind i bytes the state is q. -/
def Mid (l : B) (i q : Nat) : Prop := i ≤ l.length ∧ go 0 (l.take i) = some q

theorem Mid.start (l : B) : Mid l 0 0 := ⟨Nat.zero_le _, rfl⟩

theorem Mid.next {l : B} {i q q' : Nat} {c : UInt8} (h : Mid l i q) (hc : l[i]? = some c) (hs : step q c = some q') : Mid l (i + 1) q' := by
  have hi : i < l.length := by
    rcases Nat.lt_or_ge i l.length with h1 | h1
    · exact h1
    · rw [List.getElem?_eq_none h1] at hc; cases hc
  refine ⟨hi, ?_⟩
  rw [List.take_add_one, hc, Option.toList_some, go_append, h.2]
  simp [go, hs]

/-- The run stops behind n bytes in the state q. -/
def Stops (l : B) (n q : Nat) : Prop := Mid l n q ∧ ∀ c, l[n]? = some c → step q c = none

theorem go_take_le {l : B} {i j q : Nat} (h : go 0 (l.take j) = some q) (hij : i ≤ j) : ∃ q', go 0 (l.take i) = some q' := by
  have e : l.take j = l.take i ++ (l.take j).drop i := by
    have h1 : (l.take j).take i = l.take i := by rw [List.take_take, Nat.min_eq_left hij]
    rw [← h1, List.take_append_drop]
  rw [e, go_append] at h
  cases h2 : go 0 (l.take i) with
  | none => rw [h2] at h; cases h
  | some q' => exact ⟨q', rfl⟩

theorem Stops.max {l : B} {n q j q' : Nat} (h : Stops l n q) (hj : Mid l j q') : j ≤ n := by
  rcases Nat.lt_or_ge n j with h1 | h1
  · exfalso
    obtain ⟨q1, hq1⟩ := go_take_le (i := n + 1) hj.2 h1
    have hn : n < l.length := Nat.lt_of_lt_of_le h1 hj.1
    obtain ⟨c, hc⟩ : ∃ c, l[n]? = some c := ⟨l[n], List.getElem?_eq_getElem hn⟩
    rw [List.take_add_one, hc, Option.toList_some, go_append, h.1.2] at hq1
    simp [go, h.2 c hc] at hq1
  · exact h1

theorem Stops.uniq {l : B} {n q n' q' : Nat} (h : Stops l n q) (h' : Stops l n' q') : n = n' ∧ q = q' := by
  have e : n = n' := Nat.le_antisymm (h'.max h.1) (h.max h'.1)
  subst e
  refine ⟨rfl, ?_⟩
  have := h.1.2.symm.trans h'.1.2
  exact Option.some.inj this

/-- A beginning can go on: it is a number, or is one with a '0' behind it. -/
def viable (l : B) : Bool := isNum l || isNum (l ++ [48])

theorem go_range {q q' : Nat} {l : B} (hq : q ≤ 8) (h : go q l = some q') : q' ≤ 8 := by
  induction l generalizing q with
  | nil => cases h; exact hq
  | cons c r ih =>
    simp only [go] at h
    cases hs : step q c with
    | none => rw [hs] at h; cases h
    | some q1 =>
      rw [hs] at h
      refine ih ?_ h
      have : q = 0 ∨ q = 1 ∨ q = 2 ∨ q = 3 ∨ q = 4 ∨ q = 5 ∨ q = 6 ∨ q = 7 ∨ q = 8 := by omega
      rcases this with rfl | rfl | rfl | rfl | rfl | rfl | rfl | rfl | rfl <;> simp only [step] at hs <;> repeat' (split at hs)
      all_goals first | (injection hs with h9; omega) | cases hs

theorem isNum_go (l : B) : isNum l = match go 0 l with | some q' => fin q' | none => false := by rw [← acc0, acc_go]

theorem viable_go (l : B) : viable l = (go 0 l).isSome := by
  unfold viable
  rw [isNum_go, isNum_go, go_append]
  cases h : go 0 l with
  | none => rfl
  | some q =>
    have hq := go_range (Nat.zero_le _) h
    have : q = 0 ∨ q = 1 ∨ q = 2 ∨ q = 3 ∨ q = 4 ∨ q = 5 ∨ q = 6 ∨ q = 7 ∨ q = 8 := by omega
    rcases this with rfl | rfl | rfl | rfl | rfl | rfl | rfl | rfl | rfl <;> rfl

/-- Every text has its stop. -/
theorem stops_all : ∀ (l : B) (q : Nat), ∃ n q', n ≤ l.length ∧ go q (l.take n) = some q' ∧ ∀ c, l[n]? = some c → step q' c = none
  | [], q => ⟨0, q, Nat.le_refl _, rfl, fun c h => by cases h⟩
  | c :: r, q => by
    cases hs : step q c with
    | none => exact ⟨0, q, Nat.zero_le _, rfl, fun d h => by cases h; exact hs⟩
    | some q1 =>
      obtain ⟨n, q', h1, h2, h3⟩ := stops_all r q1
      exact ⟨n + 1, q', by simpa using h1, by simp [go, hs, h2], fun d h => h3 d (by simpa using h)⟩

/-- '.', 'e' or 'E' among the bytes. -/
def mark (l : B) : Bool := l.any fun c => dot c || eE c

def stuckFault (q : Nat) (c : UInt8) : Nat := if q ≤ 1 then 1 else if q = 3 then (if dg c then 2 else 0) else if q = 4 then 3 else if q = 6 ∨ q = 7 then 4 else 0
def endFault (q : Nat) : Nat := if q ≤ 1 then 1 else if q = 4 then 3 else if q = 6 ∨ q = 7 then 4 else 0

/-! ### worlds -/

/-- The world w' is w but for the blocks of S and new blocks. -/
structure Fr (S : List Nat) (w w' : World) : Prop where
  os : w'.os = w.os
  tape : w'.tape = w.tape
  output : w'.output = w.output
  size : w.heap.size ≤ w'.heap.size
  block : ∀ k, k < w.heap.size → k ∉ S → w'.heap[k]? = w.heap[k]?

theorem Fr.refl (S : List Nat) (w : World) : Fr S w w := ⟨rfl, rfl, rfl, Nat.le_refl _, fun _ _ _ => rfl⟩

theorem Fr.trans {S T : List Nat} {a b c : World} (h : Fr S a b) (k : Fr T b c) (hT : ∀ x ∈ T, x ∈ S ∨ a.heap.size ≤ x) : Fr S a c :=
  ⟨k.os.trans h.os, k.tape.trans h.tape, k.output.trans h.output, Nat.le_trans h.size k.size, fun i hi hS =>
    (k.block i (Nat.lt_of_lt_of_le hi h.size) (fun hx => by rcases hT i hx with h1 | h1; exact hS h1; omega)).trans (h.block i hi hS)⟩

theorem Fr.step {S : List Nat} {a b c : World} (h : Fr S a b) (k : Fr S b c) : Fr S a c := h.trans k (fun _ hx => .inl hx)

theorem Fr.alloc {S : List Nat} {a w : World} (h : Fr S a w) (o : Obj) : Fr S a (w.alloc o) :=
  h.step ⟨rfl, rfl, rfl, by simp, fun k hk _ => Below.heap_alloc _ _ _ hk⟩

theorem Fr.setCell {S : List Nat} {a w : World} (h : Fr S a w) {p : Addr} (hp : p.block ∈ S ∨ a.heap.size ≤ p.block) (u : Value) : Fr S a (w.setCell p u) :=
  h.trans (T := [p.block]) ⟨rfl, rfl, rfl, by simp [World.setCell], fun k _ hS => Below.heap_setCell _ _ _ _ (by simpa using hS)⟩ (fun x hx => by rw [List.mem_singleton.1 hx]; exact hp)

theorem Fr.below {w w' : World} (h : Fr [] w w') : Below w.heap.size w w' := ⟨h.os, h.tape, h.output, h.size, fun k hk => h.block k hk (by simp)⟩

/-! ### a scope with several labels -/

/-- As Q; by a goto to label l: J l. -/
def jumps (J : Nat → Act → World → Prop) (Q : Exit → Act → World → Prop) : Exit → Act → World → Prop
  | .goto l, a, w => J l a w
  | e, a, w => Q e a w

theorem wp_scope_many {P : Program} {a : Act} {w : World} {Q : Exit → Act → World → Prop} {c : Code} (J : Nat → Act → World → Prop) (μ : Nat → Nat)
    (first : c.wp P (jumps J Q) a w)
    (pass : ∀ l a w, J l a w → ∃ rest, findLabel c l = some rest ∧ rest.wp P (jumps (fun l' a' w' => J l' a' w' ∧ μ l' < μ l) Q) a w) : (Code.scope c).wp P Q a w := by
  intro b k cs
  have key : ∀ n l a w, μ l = n → J l a w → ∃ rest e a' w', findLabel c l = some rest ∧ Q e a' w' ∧ Arrives P (lone (b.at a (.code rest :: .inScope c :: k)) cs w) b k cs e a' w' := by
    intro n
    induction n using Nat.strongRecOn with
    | _ n ih =>
      intro l a w hn hJ
      obtain ⟨rest, hf, hw⟩ := pass l a w hJ
      obtain ⟨e, a₁, w₁, hq, harr⟩ := hw b (.inScope c :: k) cs
      refine ⟨rest, ?_⟩
      cases e with
      | normal => exact ⟨.normal, a₁, w₁, hf, hq, Steps.trans harr (.one step_inScope)⟩
      | exit id => exact ⟨.exit id, a₁, w₁, hf, hq, fun k' hk => harr k' (by simp [exitTo, hk])⟩
      | goto l' =>
        obtain ⟨hJ', hlt⟩ := hq
        obtain ⟨rest', e₂, a₂, w₂, hf', hq₂, harr₂⟩ := ih _ (by omega) l' a₁ w₁ rfl hJ'
        have hg : gotoIn l' (.inScope c :: k) = some (.code rest' :: .inScope c :: k) := by simp [gotoIn, hf']
        exact ⟨e₂, a₂, w₂, hf, hq₂, .of_steps (harr _ hg) harr₂⟩
      | ret => exact ⟨_, a₁, w₁, hf, hq, harr⟩
      | panic ch => exact ⟨_, a₁, w₁, hf, hq, harr⟩
      | outgrown => exact ⟨_, a₁, w₁, hf, hq, harr⟩
  obtain ⟨e, a₁, w₁, hq, harr⟩ := first b (.inScope c :: k) cs
  cases e with
  | normal => exact ⟨.normal, a₁, w₁, hq, .head step_scope (Steps.trans harr (.one step_inScope))⟩
  | exit id => exact ⟨.exit id, a₁, w₁, hq, fun k' hk => .head step_scope (harr k' (by simp [exitTo, hk]))⟩
  | goto l' =>
    obtain ⟨rest', e₂, a₂, w₂, hf', hq₂, harr₂⟩ := key _ l' a₁ w₁ rfl hq
    have hg : gotoIn l' (.inScope c :: k) = some (.code rest' :: .inScope c :: k) := by simp [gotoIn, hf']
    exact ⟨e₂, a₂, w₂, hq₂, .of_steps (.head step_scope (harr _ hg)) harr₂⟩
  | ret => exact ⟨_, a₁, w₁, hq, .of_steps (.one step_scope) harr⟩
  | panic ch => exact ⟨_, a₁, w₁, hq, .of_steps (.one step_scope) harr⟩
  | outgrown => exact ⟨_, a₁, w₁, hq, .of_steps (.one step_scope) harr⟩

end Go.Proofs.Qxb6600967a
