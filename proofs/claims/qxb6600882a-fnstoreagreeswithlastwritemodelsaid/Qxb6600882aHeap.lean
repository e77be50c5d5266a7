/-
  THE STORE IN MEMORY: frames by footprints; rows that a slice owns; a node; the tree under a node; the store.
-/
import Derived.Test.Qxb6600882aTree
import Derived.WalkKit
import Derived.Deep.AppendLies
import Derived.Deep.Draws
namespace Go.Proofs.Qxb6600882a
open Go.RowKit

/-- The world w' is w but for the blocks of S and new blocks. -/
structure Fr (S : List Nat) (w w' : World) : Prop where
  os : w'.os = w.os
  tape : w'.tape = w.tape
  output : w'.output = w.output
  size : w.heap.size ≤ w'.heap.size
  block : ∀ k, k < w.heap.size → k ∉ S → w'.heap[k]? = w.heap[k]?

theorem Fr.refl (S : List Nat) (w : World) : Fr S w w := ⟨rfl, rfl, rfl, Nat.le_refl _, fun _ _ _ => rfl⟩

theorem Fr.trans {S T : List Nat} {a b c : World} (h : Fr S a b) (k : Fr T b c) (hT : ∀ x ∈ T, x ∈ S ∨ a.heap.size ≤ x) : Fr S a c :=
  ⟨k.os.trans h.os, k.tape.trans h.tape, k.output.trans h.output, Nat.le_trans h.size k.size, fun i hi hS =>
    (k.block i (Nat.lt_of_lt_of_le hi h.size) (fun hx => by rcases hT i hx with h1 | h1; exact hS h1; omega)).trans (h.block i hi hS)⟩

theorem Fr.mono {S T : List Nat} {a b : World} (h : Fr S a b) (hS : ∀ x ∈ S, x ∈ T) : Fr T a b :=
  ⟨h.os, h.tape, h.output, h.size, fun k hk hT => h.block k hk (fun hx => hT (hS k hx))⟩

theorem Fr.step {S : List Nat} {a b c : World} (h : Fr S a b) (k : Fr S b c) : Fr S a c := h.trans k (fun _ hx => .inl hx)

theorem Fr.drewN {S : List Nat} {a w : World} (h : Fr S a w) (n : Nat) : Fr S a (w.drewN n) := ⟨h.os, h.tape, h.output, h.size, h.block⟩
theorem Fr.drew {S : List Nat} {a w : World} (h : Fr S a w) : Fr S a w.drew := ⟨h.os, h.tape, h.output, h.size, h.block⟩

theorem Fr.alloc {S : List Nat} {a w : World} (h : Fr S a w) (o : Obj) : Fr S a (w.alloc o) :=
  h.step ⟨rfl, rfl, rfl, by simp, fun k hk _ => Below.heap_alloc _ _ _ hk⟩

theorem Fr.setCell {S : List Nat} {a w : World} (h : Fr S a w) {p : Addr} (hp : p.block ∈ S ∨ a.heap.size ≤ p.block) (u : Value) : Fr S a (w.setCell p u) :=
  h.trans (T := [p.block]) ⟨rfl, rfl, rfl, by simp [World.setCell], fun k _ hS => Below.heap_setCell _ _ _ _ (by simpa using hS)⟩ (fun x hx => by rw [List.mem_singleton.1 hx]; exact hp)

theorem Fr.below {S : List Nat} {w w' : World} (h : Fr S w w') (B : Nat) (hB : B ≤ w.heap.size) (hS : ∀ x ∈ S, B ≤ x) : Below B w w' :=
  ⟨h.os, h.tape, h.output, h.size, fun k hk => h.block k (by omega) (fun hx => by have := hS k hx; omega)⟩

theorem Fr.of_grown {w w' : World} {row : Option Nat} (h : w.grownBy w' row) {S : List Nat} (hS : ∀ k, row = some k → k ∈ S) : Fr S w w' :=
  ⟨h.os, h.tape, h.output, h.size, fun k hk hn => h.block k hk (fun e => hn (hS k e.symm))⟩

theorem Fr.of_below {w w' : World} (h : Below w.heap.size w w') : Fr [] w w' := ⟨h.os, h.tape, h.output, h.size, fun k hk _ => h.block k hk⟩

theorem lt_of_block {w : World} {k : Nat} {o : Obj} (h : w.heap[k]? = some o) : k < w.heap.size := by
  rcases Nat.lt_or_ge k w.heap.size with h1 | h1
  · exact h1
  · rw [Array.getElem?_eq_none h1] at h; cases h

/-- A block that is not in S is as it was. -/
theorem Fr.at {S : List Nat} {w w' : World} (h : Fr S w w') {k : Nat} {o : Obj} (hk : w.heap[k]? = some o) (hS : k ∉ S) : w'.heap[k]? = some o :=
  (h.block k (lt_of_block hk) hS).trans hk

/-! ### rows -/

/-- The slice value v, of elements of type t, holds xs; its row is its own block fp (none: nil). -/
def SlRow (w : World) (t : TypeId) (v : Value) (xs : List Value) (fp : List Nat) : Prop :=
  (v = .slice none 0 0 ∧ xs = [] ∧ fp = []) ∨
  ∃ g cap cur, v = .slice (some ⟨g, 0, none⟩) xs.length cap ∧ w.heap[g]? = some (.cells cur t (0, 0)) ∧ xs.length ≤ cap ∧ cap ≤ maxLen ∧ cur.size = cap ∧ cur.toList.take xs.length = xs ∧ fp = [g]

theorem SlRow.keep {w w' : World} {t : TypeId} {v : Value} {xs : List Value} {fp : List Nat} (h : SlRow w t v xs fp) (hk : ∀ k ∈ fp, w'.heap[k]? = w.heap[k]?) : SlRow w' t v xs fp := by
  rcases h with h | ⟨g, cap, cur, h1, h2, h3, h4, h5, h6, rfl⟩
  · exact .inl h
  · exact .inr ⟨g, cap, cur, h1, (hk g (by simp)).trans h2, h3, h4, h5, h6, rfl⟩

theorem SlRow.lt {w : World} {t : TypeId} {v : Value} {xs : List Value} {fp : List Nat} (h : SlRow w t v xs fp) : ∀ k ∈ fp, k < w.heap.size := by
  rcases h with ⟨_, _, rfl⟩ | ⟨g, cap, cur, h1, h2, h3, h4, h5, h6, rfl⟩
  · intro k hk; simp at hk
  · intro k hk; rw [List.mem_singleton.1 hk]; exact lt_of_block h2

theorem SlRow.nil (w : World) (t : TypeId) : SlRow w t (.slice none 0 0) [] [] := .inl ⟨rfl, rfl, rfl⟩

/-- A row with an element: its form. -/
theorem SlRow.form {w : World} {t : TypeId} {v : Value} {xs : List Value} {fp : List Nat} (h : SlRow w t v xs fp) (hx : xs ≠ []) :
    ∃ g cap cur, v = .slice (some ⟨g, 0, none⟩) xs.length cap ∧ w.heap[g]? = some (.cells cur t (0, 0)) ∧ xs.length ≤ cap ∧ cap ≤ maxLen ∧ cur.size = cap ∧ cur.toList.take xs.length = xs ∧ fp = [g] := by
  rcases h with ⟨_, h, _⟩ | h
  · exact absurd h hx
  · exact h

/-- The form of a row's value, nil too. -/
theorem SlRow.shape {w : World} {t : TypeId} {v : Value} {xs : List Value} {fp : List Nat} (h : SlRow w t v xs fp) : ∃ a cap, v = .slice a xs.length cap := by
  rcases h with ⟨rfl, rfl, _⟩ | ⟨g, cap, cur, rfl, _⟩
  · exact ⟨none, 0, rfl⟩
  · exact ⟨_, cap, rfl⟩

theorem SlRow.cell {w : World} {t : TypeId} {g cap : Nat} {n : Nat} {xs : List Value} {fp : List Nat} (h : SlRow w t (.slice (some ⟨g, 0, none⟩) n cap) xs fp) (j : Nat) (x : Value) (hj : xs[j]? = some x) : w.cell? ⟨g, j, none⟩ = some x := by
  rcases h with ⟨h, _, _⟩ | ⟨g', cap', cur, h1, h2, h3, h4, h5, h6, _⟩
  · cases h
  · obtain ⟨rfl, rfl, rfl⟩ : g = g' ∧ n = xs.length ∧ cap = cap' := by simpa using h1
    rw [cell_of_row w g j cur t (0, 0) h2]
    have hlt : j < xs.length := by
      rcases Nat.lt_or_ge j xs.length with h | h
      · exact h
      · rw [List.getElem?_eq_none h] at hj; cases hj
    have : (cur.toList.take xs.length)[j]? = some x := by rw [h6]; exact hj
    rw [List.getElem?_take, if_pos hlt] at this
    simpa using this

theorem SlRow.owns {w : World} {t : TypeId} {v : Value} {xs : List Value} {fp : List Nat} (h : SlRow w t v xs fp) : w.ownsRow 0 t 1 v xs.length xs := by
  refine ⟨by simp, ?_⟩
  rcases h with ⟨rfl, rfl, _⟩ | ⟨g, cap, cur, h1, h2, h3, h4, h5, h6, _⟩
  · exact .inl ⟨rfl, rfl⟩
  · exact .inr ⟨g, cap, cur, h1, Nat.zero_le _, h2, h3, h4, by omega, by simpa using h6⟩

theorem SlRow.of_owns {w : World} {t : TypeId} {g cap n : Nat} {xs : List Value} {base : Nat} (h : w.ownsRow base t 1 (.slice (some ⟨g, 0, none⟩) n cap) n xs) : SlRow w t (.slice (some ⟨g, 0, none⟩) n cap) xs [g] := by
  obtain ⟨hl, h⟩ := h
  have hl : xs.length = n := by simpa using hl
  subst hl
  rcases h with ⟨h, _⟩ | ⟨g', cap', cur, h1, h2, h3, h4, h5, h6, h7⟩
  · cases h
  · obtain ⟨rfl, rfl⟩ : g = g' ∧ cap = cap' := by simpa using h1
    exact .inr ⟨g, cap, cur, rfl, h3, h4, h5, by omega, by simpa using h7, rfl⟩

/-! ### a node -/

/-- The pointer to the head of a block. -/
abbrev ptr (b : Nat) : Value := .pointer (some ⟨b, 0, none⟩)

def KidRow (w : World) (cv : Value) (co : Option (List Nat)) (cf : List Nat) : Prop :=
  match co with
  | none => cv = .slice none 0 0 ∧ cf = []
  | some l => l ≠ [] ∧ SlRow w 27 cv (l.map ptr) cf

theorem KidRow.keep {w w' : World} {cv : Value} {co : Option (List Nat)} {cf : List Nat} (h : KidRow w cv co cf) (hk : ∀ k ∈ cf, w'.heap[k]? = w.heap[k]?) : KidRow w' cv co cf := by
  cases co with
  | none => exact h
  | some l => exact ⟨h.1, h.2.keep hk⟩

theorem KidRow.lt {w : World} {cv : Value} {co : Option (List Nat)} {cf : List Nat} (h : KidRow w cv co cf) : ∀ k ∈ cf, k < w.heap.size := by
  cases co with
  | none => obtain ⟨_, rfl⟩ := h; intro k hk; simp at hk
  | some l => exact h.2.lt

/-- Block b is a node of entries e and children co (none: a leaf); fp: its own block and those of its rows. -/
def Node (w : World) (b : Nat) (e : List KV) (co : Option (List Nat)) (fp : List Nat) : Prop :=
  ∃ kv vv cv kf vf cf, w.heap[b]? = some (.cells #[.int .u64 0, kv, vv, cv] 44 (0, 0)) ∧ SlRow w 9 kv (e.map fun p => .string p.1) kf ∧ SlRow w 9 vv (e.map fun p => .string p.2) vf ∧ KidRow w cv co cf ∧ fp = b :: (kf ++ (vf ++ cf))

theorem Node.keep {w w' : World} {b : Nat} {e : List KV} {co : Option (List Nat)} {fp : List Nat} (h : Node w b e co fp) (hk : ∀ k ∈ fp, w'.heap[k]? = w.heap[k]?) : Node w' b e co fp := by
  obtain ⟨kv, vv, cv, kf, vf, cf, h1, h2, h3, h4, rfl⟩ := h
  exact ⟨kv, vv, cv, kf, vf, cf, (hk b (by simp)).trans h1, h2.keep (fun k hx => hk k (by simp [hx])), h3.keep (fun k hx => hk k (by simp [hx])), h4.keep (fun k hx => hk k (by simp [hx])), rfl⟩

theorem Node.lt {w : World} {b : Nat} {e : List KV} {co : Option (List Nat)} {fp : List Nat} (h : Node w b e co fp) : ∀ k ∈ fp, k < w.heap.size := by
  obtain ⟨kv, vv, cv, kf, vf, cf, h1, h2, h3, h4, rfl⟩ := h
  intro k hk
  simp only [List.mem_cons, List.mem_append] at hk
  rcases hk with rfl | hk | hk | hk
  · exact lt_of_block h1
  · exact h2.lt k hk
  · exact h3.lt k hk
  · exact h4.lt k hk

/-! ### the tree under a node -/

/-- Block b at height d, with n entries, holds the content m; fp: all blocks that it takes. -/
def Rep : Nat → Nat → World → Nat → List Nat → List KV → Prop
  | 0, n, w, b, fp, m => Node w b m none fp ∧ m.length = n ∧ n ≤ 32
  | d + 1, n, w, b, fp, m => ∃ (e : List KV) (K : List Kid) (f0 : List Nat), Node w b e (some (K.map (·.1))) f0 ∧ e.length = n ∧ n ≤ 32 ∧ K.length = e.length + 1 ∧
      (∀ c ∈ K, ∃ n', Rep d n' w c.1 c.2.1 c.2.2) ∧ fp = f0 ++ K.flatMap (·.2.1) ∧ m = cont e K

theorem Rep.keep {w w' : World} : ∀ {d n b : Nat} {fp : List Nat} {m : List KV}, Rep d n w b fp m → (∀ k ∈ fp, w'.heap[k]? = w.heap[k]?) → Rep d n w' b fp m
  | 0, _, _, _, _, h, hk => ⟨h.1.keep hk, h.2⟩
  | d + 1, _, _, _, _, h, hk => by
    obtain ⟨e, K, f0, h1, h2, h3, h4, h5, rfl, h7⟩ := h
    refine ⟨e, K, f0, h1.keep (fun k hx => hk k (by simp [hx])), h2, h3, h4, fun c hc => ?_, rfl, h7⟩
    obtain ⟨n', hn'⟩ := h5 c hc
    exact ⟨n', hn'.keep (fun k hx => hk k (List.mem_append_right _ (List.mem_flatMap.2 ⟨c, hc, hx⟩)))⟩

theorem Rep.lt {w : World} : ∀ {d n b : Nat} {fp : List Nat} {m : List KV}, Rep d n w b fp m → ∀ k ∈ fp, k < w.heap.size
  | 0, _, _, _, _, h, k, hk => h.1.lt k hk
  | d + 1, _, _, _, _, h, k, hk => by
    obtain ⟨e, K, f0, h1, h2, h3, h4, h5, rfl, h7⟩ := h
    rcases List.mem_append.1 hk with hk | hk
    · exact h1.lt k hk
    · obtain ⟨c, hc, hx⟩ := List.mem_flatMap.1 hk
      obtain ⟨n', hn'⟩ := h5 c hc
      exact hn'.lt k hx

theorem Rep.fr {S : List Nat} {w w' : World} {d n b : Nat} {fp : List Nat} {m : List KV} (h : Rep d n w b fp m) (hf : Fr S w w') (hS : ∀ k ∈ fp, k ∉ S) : Rep d n w' b fp m :=
  h.keep (fun k hk => hf.block k (h.lt k hk) (hS k hk))

theorem Rep.mem {w : World} : ∀ {d n b : Nat} {fp : List Nat} {m : List KV}, Rep d n w b fp m → b ∈ fp
  | 0, _, _, _, _, h => by obtain ⟨⟨_, _, _, _, _, _, _, _, _, _, rfl⟩, _⟩ := h; simp
  | d + 1, _, _, _, _, h => by obtain ⟨_, _, _, ⟨_, _, _, _, _, _, _, _, _, _, rfl⟩, _, _, _, _, rfl, _⟩ := h; simp

/-- The store: its own block sb, its content m; fp: all its blocks. -/
def Store (w : World) (sb : Nat) (fp : List Nat) (m : List KV) : Prop :=
  Srt m ∧ fp.Nodup ∧ ∃ root z, w.heap[sb]? = some (.cells #[root, .int .i64 z, .int .u64 0] 30 (0, 0)) ∧
    ((root = .pointer none ∧ m = [] ∧ fp = [sb]) ∨ ∃ rb d n f, root = ptr rb ∧ Rep d n w rb f m ∧ fp = sb :: f)

theorem Store.fr {S : List Nat} {w w' : World} {sb : Nat} {fp : List Nat} {m : List KV} (h : Store w sb fp m) (hf : Fr S w w') (hS : ∀ k ∈ fp, k ∉ S) : Store w' sb fp m := by
  obtain ⟨h1, h2, root, z, h3, h4⟩ := h
  refine ⟨h1, h2, root, z, ?_, ?_⟩
  · refine hf.at h3 (hS sb ?_)
    rcases h4 with ⟨_, _, rfl⟩ | ⟨_, _, _, _, _, _, rfl⟩ <;> simp
  · rcases h4 with h4 | ⟨rb, d, n, f, h5, h6, rfl⟩
    · exact .inl h4
    · exact .inr ⟨rb, d, n, f, h5, h6.fr hf (fun k hk => hS k (by simp [hk])), rfl⟩

theorem Store.lt {w : World} {sb : Nat} {fp : List Nat} {m : List KV} (h : Store w sb fp m) : ∀ k ∈ fp, k < w.heap.size := by
  obtain ⟨h1, h2, root, z, h3, h4⟩ := h
  intro k hk
  rcases h4 with ⟨_, _, rfl⟩ | ⟨rb, d, n, f, h5, h6, rfl⟩
  · rw [List.mem_singleton.1 hk]; exact lt_of_block h3
  · rcases List.mem_cons.1 hk with rfl | hk
    · exact lt_of_block h3
    · exact h6.lt k hk

end Go.Proofs.Qxb6600882a
