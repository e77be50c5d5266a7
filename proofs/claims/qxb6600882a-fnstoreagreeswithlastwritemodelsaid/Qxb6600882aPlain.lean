/-
  THE PLAIN SIDE: byte order on keys, sorted lists of pairs, insertion, lookup, the content of a B-tree's node. No Go here.
-/
import Derived.Shelf.Spec.SearchS
namespace Go.Proofs.Qxb6600882a

/-- A pair: key, value. -/
abbrev KV := ByteArray × ByteArray

/-- The byte order of two keys, as the program's '<' on strings gives it. -/
def kl (a b : ByteArray) : Bool := Op.bytesLess a.toList b.toList

theorem less_dec : ∀ (x y : List UInt8), Op.bytesLess x y = decide (x < y)
  | [], [] => by simp [Op.bytesLess]
  | _ :: _, [] => by simp [Op.bytesLess]
  | [], _ :: _ => by simp [Op.bytesLess]
  | a :: x, b :: y => by
    rw [Op.bytesLess, less_dec x y]
    simp only [List.cons_lt_cons_iff]
    by_cases h1 : a < b <;> by_cases h2 : a = b <;> by_cases h3 : x < y <;> simp [h1, h2, h3]

theorem kl_eq (a b : ByteArray) : kl a b = decide (a.toList < b.toList) := less_dec _ _

theorem toList_inj {a b : ByteArray} (h : a.toList = b.toList) : a = b := by
  rw [Lib.toList_data, Lib.toList_data] at h
  cases a; cases b
  exact congrArg ByteArray.mk (Array.toList_inj.1 h)

theorem kl_irrefl (a : ByteArray) : kl a a = false := by
  rw [kl_eq]; exact decide_eq_false (List.lt_irrefl _)

theorem kl_trans {a b c : ByteArray} (h : kl a b = true) (h' : kl b c = true) : kl a c = true := by
  rw [kl_eq] at *
  exact decide_eq_true (List.lt_trans (of_decide_eq_true h) (of_decide_eq_true h'))

theorem kl_total {a b : ByteArray} (h : kl a b = false) (hne : a ≠ b) : kl b a = true := by
  rw [kl_eq] at *
  have h1 := of_decide_eq_false h
  refine decide_eq_true ?_
  rcases List.le_iff_lt_or_eq.1 (List.not_lt.1 h1) with h2 | h2
  · exact h2
  · exact absurd (toList_inj h2).symm hne

theorem kl_asymm {a b : ByteArray} (h : kl a b = true) : kl b a = false := by
  cases hb : kl b a
  · rfl
  · have := kl_trans h hb; rw [kl_irrefl] at this; cases this

theorem kl_ne {a b : ByteArray} (h : kl a b = true) : a ≠ b := by
  intro e; subst e; rw [kl_irrefl] at h; cases h

/-- Sorted strictly by key. -/
def Srt (m : List KV) : Prop := m.Pairwise fun a b => kl a.1 b.1 = true

/-- The insertion of a pair: what Put does to the content. -/
def ins (k v : ByteArray) : List KV → List KV
  | [] => [(k, v)]
  | p :: r => if kl p.1 k = true then p :: ins k v r else if p.1 = k then (k, v) :: r else (k, v) :: p :: r

/-- The value at a key. -/
def look (q : ByteArray) : List KV → Option ByteArray
  | [] => none
  | p :: r => if p.1 = q then some p.2 else look q r

theorem look_ins_same (k v : ByteArray) : ∀ m, look k (ins k v m) = some v
  | [] => by simp [ins, look]
  | p :: r => by
    simp only [ins]
    split
    · rename_i h
      simp only [look, if_neg (kl_ne h)]
      exact look_ins_same k v r
    · split <;> simp [look]

theorem look_ins_other (k v q : ByteArray) (h : q ≠ k) : ∀ m, look q (ins k v m) = look q m
  | [] => by simp [ins, look, Ne.symm h]
  | p :: r => by
    simp only [ins]
    split
    · simp only [look, look_ins_other k v q h r]
    · split
      · rename_i h2
        simp [look, Ne.symm h, h2]
      · simp [look, Ne.symm h]

theorem ins_mem (k v : ByteArray) : ∀ (m : List KV) (p : KV), p ∈ ins k v m → p = (k, v) ∨ p ∈ m
  | [], p, hp => by simp [ins] at hp; exact .inl hp
  | x :: r, p, hp => by
    simp only [ins] at hp
    split at hp
    · rcases List.mem_cons.1 hp with h | h
      · exact .inr (by simp [h])
      · rcases ins_mem k v r p h with h | h
        · exact .inl h
        · exact .inr (List.mem_cons_of_mem _ h)
    · split at hp
      · rcases List.mem_cons.1 hp with h | h
        · exact .inl h
        · exact .inr (List.mem_cons_of_mem _ h)
      · rcases List.mem_cons.1 hp with h | h
        · exact .inl h
        · exact .inr h

theorem ins_srt (k v : ByteArray) : ∀ (m : List KV), Srt m → Srt (ins k v m)
  | [], _ => by simp [ins, Srt]
  | x :: r, h => by
    have hx := (List.pairwise_cons.1 h).1
    have hr : Srt r := (List.pairwise_cons.1 h).2
    simp only [ins]
    split
    · rename_i hk
      refine List.pairwise_cons.2 ⟨fun p hp => ?_, ins_srt k v r hr⟩
      rcases ins_mem k v r p hp with h | h
      · rw [h]; exact hk
      · exact hx p h
    · split
      · rename_i hk
        refine List.pairwise_cons.2 ⟨fun p hp => ?_, hr⟩
        show kl k p.1 = true
        rw [← hk]; exact hx p hp
      · rename_i h1 h2
        have hkx : kl k x.1 = true := kl_total (by simpa using h1) h2
        refine List.pairwise_cons.2 ⟨fun p hp => ?_, h⟩
        rcases List.mem_cons.1 hp with e | e
        · rw [e]; exact hkx
        · exact kl_trans hkx (hx p e)

/-- Whatever stands ahead with lesser keys and behind with greater ones is not touched. -/
theorem ins_mid (k v : ByteArray) : ∀ (a mid c : List KV), (∀ p ∈ a, kl p.1 k = true) → (∀ p ∈ c, kl k p.1 = true) → ins k v (a ++ mid ++ c) = a ++ ins k v mid ++ c
  | [], mid, c, _, hc => by
    induction mid with
    | nil =>
      cases c with
      | nil => rfl
      | cons p r =>
        have hp := hc p (by simp)
        show ins k v (p :: r) = _
        simp [ins, kl_asymm hp, Ne.symm (kl_ne hp)]
    | cons p r ih =>
      show ins k v (p :: (r ++ c)) = ins k v (p :: r) ++ c
      have ih' : ins k v (r ++ c) = ins k v r ++ c := ih
      simp only [ins]
      split
      · rw [ih']; rfl
      · split <;> rfl
  | x :: a, mid, c, ha, hc => by
    show ins k v (x :: (a ++ mid ++ c)) = x :: (a ++ ins k v mid ++ c)
    rw [ins, if_pos (ha x (by simp)), ins_mid k v a mid c (fun p hp => ha p (by simp [hp])) hc]

theorem look_mid (q : ByteArray) : ∀ (a mid c : List KV), (∀ p ∈ a, p.1 ≠ q) → (∀ p ∈ c, p.1 ≠ q) → look q (a ++ mid ++ c) = look q mid
  | [], mid, c, _, hc => by
    have hcn : look q c = none := by
      induction c with
      | nil => rfl
      | cons p r ih =>
        rw [look, if_neg (hc p (by simp))]
        exact ih (fun x hx => hc x (by simp [hx]))
    induction mid with
    | nil => exact hcn
    | cons p r ih =>
      show look q (p :: (r ++ c)) = look q (p :: r)
      have ih' : look q (r ++ c) = look q r := ih
      simp only [look, ih']
  | x :: a, mid, c, ha, hc => by
    show look q (x :: (a ++ mid ++ c)) = _
    rw [look, if_neg (ha x (by simp)), look_mid q a mid c (fun p hp => ha p (by simp [hp])) hc]

/-! ### where a key stands among the keys of a node -/

/-- How many of the leading entries have a lesser key. -/
def pos (q : ByteArray) : List KV → Nat
  | [] => 0
  | p :: r => if kl p.1 q = true then pos q r + 1 else 0

theorem pos_le (q : ByteArray) : ∀ e : List KV, pos q e ≤ e.length
  | [] => Nat.le_refl _
  | p :: r => by simp only [pos]; split <;> simp [pos_le q r]

theorem pos_take (q : ByteArray) : ∀ (e : List KV), ∀ p ∈ e.take (pos q e), kl p.1 q = true
  | [], p, hp => by simp at hp
  | x :: r, p, hp => by
    simp only [pos] at hp
    split at hp
    · rename_i h
      rw [List.take_succ_cons] at hp
      rcases List.mem_cons.1 hp with e | e
      · rw [e]; exact h
      · exact pos_take q r p e
    · simp at hp

theorem pos_drop (q : ByteArray) : ∀ (e : List KV), Srt e → ∀ p ∈ e.drop (pos q e), kl p.1 q = false
  | [], _, p, hp => by simp at hp
  | x :: r, hs, p, hp => by
    have hx := (List.pairwise_cons.1 hs).1
    have hr : Srt r := (List.pairwise_cons.1 hs).2
    simp only [pos] at hp
    split at hp
    · rw [List.drop_succ_cons] at hp
      exact pos_drop q r hr p hp
    · rename_i h
      have h' : kl x.1 q = false := by simpa using h
      rw [List.drop_zero] at hp
      rcases List.mem_cons.1 hp with e | e
      · rw [e]; exact h'
      · cases hc : kl p.1 q
        · rfl
        · have := kl_trans (hx p e) hc; rw [h'] at this; cases this

/-- The key at its place, if it is there. -/
def found (q : ByteArray) (e : List KV) : Bool := decide ((e[pos q e]?).map (·.1) = some q)

/-- What the binary search over the keys gives. -/
theorem bsGo_pos (q : ByteArray) (e : List KV) (hs : Srt e) :
    Lib.bsGo (fun t => Op.bytesLess (((e[t]?).map (·.1)).getD q).toList q.toList) e.length 0 e.length = pos q e := by
  refine Lib.bsGo_spec _ (pos q e) (fun t ht => ?_) (fun t ht => ?_) _ _ _ (by omega) (Nat.zero_le _) (pos_le q e)
  · have hl := pos_le q e
    have hte : t < e.length := by omega
    rw [List.getElem?_eq_getElem hte]
    refine pos_take q e e[t] ?_
    rw [List.mem_take_iff_getElem]
    exact ⟨t, by omega, rfl⟩
  · by_cases hte : t < e.length
    · rw [List.getElem?_eq_getElem hte]
      refine pos_drop q e hs e[t] ?_
      rw [List.mem_drop_iff_getElem]
      exact ⟨t - pos q e, by omega, by congr 1; omega⟩
    · rw [List.getElem?_eq_none (by omega)]
      exact kl_irrefl q

theorem pos_drop_gt (q : ByteArray) (e : List KV) (hs : Srt e) (hf : found q e = false) : ∀ p ∈ e.drop (pos q e), kl q p.1 = true := by
  intro p hp
  refine kl_total (pos_drop q e hs p hp) ?_
  intro hpq
  obtain ⟨j, hj, hje⟩ := List.mem_drop_iff_getElem.1 hp
  have h0 : pos q e < e.length := by omega
  have hq0 := pos_drop q e hs e[pos q e] (List.mem_drop_iff_getElem.2 ⟨0, by omega, by simp⟩)
  unfold found at hf
  rw [List.getElem?_eq_getElem h0] at hf
  have hne : e[pos q e].1 ≠ q := fun h => by simp [h] at hf
  have hlt : kl q e[pos q e].1 = true := kl_total hq0 hne
  by_cases hj0 : j = 0
  · subst hj0
    apply hne
    have : e[pos q e] = p := by rw [← hje]; simp
    rw [this]; exact hpq
  · have := List.pairwise_iff_getElem.1 hs (pos q e) (pos q e + j) h0 (by omega) (by omega)
    rw [hje] at this
    have h2 := kl_trans hlt this
    rw [hpq, kl_irrefl] at h2
    cases h2

theorem found_at (q : ByteArray) (e : List KV) (hf : found q e = true) : ∃ h : pos q e < e.length, e[pos q e].1 = q := by
  unfold found at hf
  have hf := of_decide_eq_true hf
  by_cases h0 : pos q e < e.length
  · rw [List.getElem?_eq_getElem h0] at hf
    exact ⟨h0, by simpa using hf⟩
  · rw [List.getElem?_eq_none (by omega)] at hf
    cases hf

end Go.Proofs.Qxb6600882a
