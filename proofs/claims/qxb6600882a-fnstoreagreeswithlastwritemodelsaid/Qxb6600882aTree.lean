/-
  THE PLAIN SIDE, TWO: the content of an inner node, out of its entries and its children's contents. No Go here.
-/
import Derived.Test.Qxb6600882aPlain
namespace Go.Proofs.Qxb6600882a

/-- A child: its block, its footprint (the blocks that it and all under it take), its content. -/
abbrev Kid := Nat × List Nat × List KV

def contR : List KV → List Kid → List KV
  | e :: es, b :: bs => e :: (b.2.2 ++ contR es bs)
  | _, _ => []

def contL : List KV → List Kid → List KV
  | e :: es, a :: t => a.2.2 ++ e :: contL es t
  | _, _ => []

/-- The content of an inner node. -/
def cont (e : List KV) : List Kid → List KV
  | [] => []
  | k :: ks => k.2.2 ++ contR e ks

theorem contR_cons (e : KV) (es : List KV) : ∀ (K : List Kid), K ≠ [] → contR (e :: es) K = e :: cont es K
  | [], h => absurd rfl h
  | _ :: _, _ => rfl

theorem cont_split : ∀ (EA EB : List KV) (A : List Kid) (c : Kid) (B : List Kid), EA.length = A.length → cont (EA ++ EB) (A ++ c :: B) = contL EA A ++ c.2.2 ++ contR EB B
  | [], EB, [], c, B, _ => by simp [cont, contL]
  | e :: EA, EB, a :: A, c, B, h => by
    have ih := cont_split EA EB A c B (by simpa using h)
    show a.2.2 ++ contR (e :: (EA ++ EB)) (A ++ c :: B) = (a.2.2 ++ e :: contL EA A) ++ c.2.2 ++ contR EB B
    rw [contR_cons _ _ _ (by simp), ih]
    simp
  | [], _, _ :: _, _, _, h => by simp at h
  | _ :: _, _, [], _, _, h => by simp at h

theorem cont_join : ∀ (EA : List KV) (kv : KV) (EB : List KV) (KA KB : List Kid), KA.length = EA.length + 1 → KB ≠ [] → cont (EA ++ kv :: EB) (KA ++ KB) = cont EA KA ++ kv :: cont EB KB
  | [], kv, EB, [k], KB, _, hB => by
    show k.2.2 ++ contR (kv :: EB) KB = (k.2.2 ++ contR [] []) ++ kv :: cont EB KB
    rw [contR_cons _ _ _ hB]
    simp [contR]
  | e :: EA, kv, EB, k :: KA, KB, h, hB => by
    have hl : KA.length = EA.length + 1 := by simpa using h
    have ih := cont_join EA kv EB KA KB hl hB
    have hA : KA ≠ [] := by intro e0; rw [e0] at hl; simp at hl
    show k.2.2 ++ contR (e :: (EA ++ kv :: EB)) (KA ++ KB) = (k.2.2 ++ contR (e :: EA) KA) ++ kv :: cont EB KB
    rw [contR_cons _ _ _ (by simp [hA]), contR_cons _ _ _ hA, ih]
    simp
  | [], _, _, [], _, h, _ => by simp at h
  | [], _, _, _ :: _ :: _, _, h, _ => by simp at h
  | _ :: _, _, _, [], _, h, _ => by simp at h

theorem contL_lt (q : ByteArray) : ∀ (EA : List KV) (A : List Kid), Srt (contL EA A) → (∀ p ∈ EA, kl p.1 q = true) → ∀ p ∈ contL EA A, kl p.1 q = true
  | [], _, _, _, p, hp => by simp [contL] at hp
  | _ :: _, [], _, _, p, hp => by simp [contL] at hp
  | e :: EA, a :: A, hs, hE, p, hp => by
    have hs' : (a.2.2 ++ e :: contL EA A).Pairwise fun a b => kl a.1 b.1 = true := hs
    rw [List.pairwise_append] at hs'
    obtain ⟨_, h2, h3⟩ := hs'
    have hp' : p ∈ a.2.2 ++ e :: contL EA A := hp
    rcases List.mem_append.1 hp' with h | h
    · exact kl_trans (h3 p h e (by simp)) (hE e (by simp))
    · rcases List.mem_cons.1 h with h | h
      · rw [h]; exact hE e (by simp)
      · exact contL_lt q EA A (List.pairwise_cons.1 h2).2 (fun x hx => hE x (by simp [hx])) p h

theorem contR_gt (q : ByteArray) : ∀ (EB : List KV) (B : List Kid), Srt (contR EB B) → (∀ p ∈ EB, kl q p.1 = true) → ∀ p ∈ contR EB B, kl q p.1 = true
  | [], _, _, _, p, hp => by simp [contR] at hp
  | _ :: _, [], _, _, p, hp => by simp [contR] at hp
  | e :: EB, b :: B, hs, hE, p, hp => by
    have hs' : (e :: (b.2.2 ++ contR EB B)).Pairwise fun a b => kl a.1 b.1 = true := hs
    rw [List.pairwise_cons] at hs'
    obtain ⟨h1, h2⟩ := hs'
    have hp' : p ∈ e :: (b.2.2 ++ contR EB B) := hp
    rcases List.mem_cons.1 hp' with h | h
    · rw [h]; exact hE e (by simp)
    · rcases List.mem_append.1 h with h' | h'
      · exact kl_trans (hE e (by simp)) (h1 p h)
      · rw [List.pairwise_append] at h2
        exact contR_gt q EB B h2.2.1 (fun x hx => hE x (by simp [hx])) p h'

theorem sub_contR : ∀ (e : List KV) (K : List Kid), K.length = e.length → e.Sublist (contR e K)
  | [], _, _ => List.nil_sublist _
  | x :: e, k :: K, h => by
    show (x :: e).Sublist (x :: (k.2.2 ++ contR e K))
    exact List.Sublist.cons_cons x ((sub_contR e K (by simpa using h)).trans (List.sublist_append_right _ _))
  | _ :: _, [], h => by simp at h

theorem sub_cont (e : List KV) : ∀ (K : List Kid), K.length = e.length + 1 → e.Sublist (cont e K)
  | k :: K, h => (sub_contR e K (by simpa using h)).trans (List.sublist_append_right _ _)
  | [], h => by simp at h

theorem Srt.entries {e : List KV} {K : List Kid} (h : Srt (cont e K)) (hl : K.length = e.length + 1) : Srt e := List.Pairwise.sublist (sub_cont e K hl) h

/-- The parts of a node's content about child number i. -/
theorem parts {e : List KV} {A : List Kid} {c : Kid} {B : List Kid} (i : Nat) (hA : A.length = i) (hi : i ≤ e.length) :
    cont e (A ++ c :: B) = contL (e.take i) A ++ c.2.2 ++ contR (e.drop i) B := by
  have := cont_split (e.take i) (e.drop i) A c B (by simp [hA]; omega)
  rwa [List.take_append_drop] at this

theorem srt_parts {a m c : List KV} (h : Srt (a ++ m ++ c)) : Srt a ∧ Srt m ∧ Srt c := by
  unfold Srt at *
  rw [List.pairwise_append] at h
  obtain ⟨h1, h2, _⟩ := h
  rw [List.pairwise_append] at h1
  exact ⟨h1.1, h1.2.1, h2⟩

section
variable {e : List KV} {A : List Kid} {c : Kid} {B : List Kid} {q : ByteArray}

theorem sides (hs : Srt (cont e (A ++ c :: B))) (hl : (A ++ c :: B).length = e.length + 1) (hA : A.length = pos q e) (hf : found q e = false) :
    (∀ p ∈ contL (e.take (pos q e)) A, kl p.1 q = true) ∧ (∀ p ∈ contR (e.drop (pos q e)) B, kl q p.1 = true) := by
  have he : Srt e := hs.entries hl
  have hp := pos_le q e
  rw [parts (pos q e) hA hp] at hs
  obtain ⟨h1, _, h3⟩ := srt_parts hs
  exact ⟨contL_lt q _ _ h1 (pos_take q e), contR_gt q _ _ h3 (pos_drop_gt q e he hf)⟩

/-- Not among the node's own keys: the child between has it, or nobody. -/
theorem look_down (hs : Srt (cont e (A ++ c :: B))) (hl : (A ++ c :: B).length = e.length + 1) (hA : A.length = pos q e) (hf : found q e = false) :
    look q (cont e (A ++ c :: B)) = look q c.2.2 := by
  obtain ⟨h1, h2⟩ := sides hs hl hA hf
  rw [parts (pos q e) hA (pos_le q e)]
  exact look_mid q _ _ _ (fun p hp => kl_ne (h1 p hp)) (fun p hp => (kl_ne (h2 p hp)).symm)

theorem ins_down (v : ByteArray) (fp' : List Nat) (hs : Srt (cont e (A ++ c :: B))) (hl : (A ++ c :: B).length = e.length + 1) (hA : A.length = pos q e) (hf : found q e = false) :
    ins q v (cont e (A ++ c :: B)) = cont e (A ++ (c.1, fp', ins q v c.2.2) :: B) := by
  obtain ⟨h1, h2⟩ := sides hs hl hA hf
  rw [parts (pos q e) hA (pos_le q e), parts (pos q e) hA (pos_le q e)]
  exact ins_mid q v _ _ _ h1 h2

theorem srt_child (hs : Srt (cont e (A ++ c :: B))) (hA : A.length = pos q e) : Srt c.2.2 := by
  rw [parts (pos q e) hA (pos_le q e)] at hs
  exact (srt_parts hs).2.1
end

theorem look_hit {q u : ByteArray} {a c : List KV} (hs : Srt (a ++ (q, u) :: c)) : look q (a ++ (q, u) :: c) = some u := by
  induction a with
  | nil => simp [look]
  | cons p r ih =>
    have hp := (List.pairwise_cons.1 hs).1 (q, u) (by simp)
    show look q (p :: (r ++ (q, u) :: c)) = _
    rw [look, if_neg (kl_ne hp)]
    exact ih (List.pairwise_cons.1 hs).2

theorem ins_hit {q u : ByteArray} (v : ByteArray) {a c : List KV} (hs : Srt (a ++ (q, u) :: c)) : ins q v (a ++ (q, u) :: c) = a ++ (q, v) :: c := by
  induction a with
  | nil => simp [ins, kl_irrefl]
  | cons p r ih =>
    have hp := (List.pairwise_cons.1 hs).1 (q, u) (by simp)
    show ins q v (p :: (r ++ (q, u) :: c)) = _
    rw [ins, if_pos hp, ih (List.pairwise_cons.1 hs).2]
    rfl

/-- A sorted list of entries at a key that it holds. -/
theorem at_found {q : ByteArray} {e : List KV} (hf : found q e = true) : ∃ u, e = e.take (pos q e) ++ (q, u) :: e.drop (pos q e + 1) ∧ (e[pos q e]?) = some (q, u) := by
  obtain ⟨h, hq⟩ := found_at q e hf
  have this : e[pos q e] = (q, e[pos q e].2) := Prod.ext hq rfl
  refine ⟨e[pos q e].2, ?_, ?_⟩
  · rw [← this, ← List.drop_eq_getElem_cons h, List.take_append_drop]
  · rw [List.getElem?_eq_getElem h, ← this]

theorem set_at {q u v : ByteArray} {a c : List KV} {i : Nat} (hi : a.length = i) : (a ++ (q, u) :: c).set i (q, v) = a ++ (q, v) :: c := by
  subst hi; simp

theorem leaf_hit {q : ByteArray} (v : ByteArray) {e : List KV} (hs : Srt e) (hf : found q e = true) : (∃ u, e[pos q e]? = some (q, u) ∧ look q e = some u) ∧ ins q v e = e.set (pos q e) (q, v) := by
  obtain ⟨u, he, hu⟩ := at_found hf
  have hp := pos_le q e
  obtain ⟨h, _⟩ := found_at q e hf
  have hs' := hs
  rw [he] at hs'
  refine ⟨⟨u, hu, ?_⟩, ?_⟩
  · rw [he]; exact look_hit hs'
  · have h1 := ins_hit v hs'
    have h2 := set_at (q := q) (u := u) (v := v) (a := e.take (pos q e)) (c := e.drop (pos q e + 1)) (i := pos q e) (by simp; omega)
    rw [← he] at h1 h2
    rw [h1, h2]

theorem leaf_miss {q : ByteArray} (v : ByteArray) {e : List KV} (hs : Srt e) (hf : found q e = false) : look q e = none ∧ ins q v e = e.take (pos q e) ++ (q, v) :: e.drop (pos q e) := by
  have h1 := pos_take q e
  have h2 := pos_drop_gt q e hs hf
  have hl := look_mid q (e.take (pos q e)) [] (e.drop (pos q e)) (fun p hp => kl_ne (h1 p hp)) (fun p hp => (kl_ne (h2 p hp)).symm)
  have hi := ins_mid q v (e.take (pos q e)) [] (e.drop (pos q e)) h1 h2
  simp only [List.append_nil, List.take_append_drop] at hl hi
  refine ⟨hl, ?_⟩
  rw [hi]
  simp [ins]

theorem inner_hit {q : ByteArray} (v : ByteArray) {e : List KV} {K : List Kid} (hs : Srt (cont e K)) (hl : K.length = e.length + 1) (hf : found q e = true) :
    (∃ u, e[pos q e]? = some (q, u) ∧ look q (cont e K) = some u) ∧ ins q v (cont e K) = cont (e.set (pos q e) (q, v)) K := by
  obtain ⟨u, he, hu⟩ := at_found hf
  have hp := pos_le q e
  obtain ⟨h, _⟩ := found_at q e hf
  have hset := set_at (q := q) (u := u) (v := v) (a := e.take (pos q e)) (c := e.drop (pos q e + 1)) (i := pos q e) (by simp; omega)
  rw [← he] at hset
  rw [hset]
  have hK : K = K.take (pos q e + 1) ++ K.drop (pos q e + 1) := (List.take_append_drop _ _).symm
  have hj : ∀ x : ByteArray, cont (e.take (pos q e) ++ (q, x) :: e.drop (pos q e + 1)) K = cont (e.take (pos q e)) (K.take (pos q e + 1)) ++ (q, x) :: cont (e.drop (pos q e + 1)) (K.drop (pos q e + 1)) := fun x => by
    conv => lhs; rw [hK]
    refine cont_join _ _ _ _ _ ?_ ?_
    · simp; omega
    · intro e0; have := congrArg List.length e0; simp at this; omega
  have hc := hj u
  rw [← he] at hc
  rw [hc] at hs ⊢
  rw [hj v]
  exact ⟨⟨u, hu, look_hit hs⟩, ins_hit v hs⟩

/-- A full child parted about its middle key: the content of the node is as it was. -/
theorem cont_parted {e : List KV} {A : List Kid} {c : Kid} {B : List Kid} (i : Nat) (l r : Kid) (kv : KV) (hA : A.length = i) (hi : i ≤ e.length) (hc : c.2.2 = l.2.2 ++ kv :: r.2.2) :
    cont (e.take i ++ kv :: e.drop i) (A ++ l :: r :: B) = cont e (A ++ c :: B) := by
  rw [parts (e := e) i hA hi, cont_split (e.take i) (kv :: e.drop i) A l (r :: B) (by simp [hA]; omega), hc]
  simp [contR]

end Go.Proofs.Qxb6600882a
