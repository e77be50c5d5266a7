/-
  Put's loop: the relation, and what each way through a round does to it. No walk here.
-/
import Derived.Test.Qxb6600882aSplitB
namespace Go.Proofs.Qxb6600882a
open Go.RowKit Go.Lib

/-- The store's own block. -/
def SB (w : World) (sb : Nat) (root : Value) : Prop := ∃ z, w.heap[sb]? = some (.cells #[root, .int .i64 z, .int .u64 0] 30 (0, 0))

theorem SB.fr {S : List Nat} {w w' : World} {sb : Nat} {root : Value} (h : SB w sb root) (hf : Fr S w w') (hS : sb ∉ S) : SB w' sb root := by
  obtain ⟨z, h⟩ := h; exact ⟨z, hf.at h hS⟩

/-- The node at which the loop stands. -/
def LoopAt (key : ByteArray) (g : Nat) (w : World) (d b : Nat) (f : List Nat) (m : List KV) : Prop :=
  ∃ e f0, (d = 0 ∧ Node w b e none f0 ∧ m = e ∧ f = f0 ∧ e.length ≤ 31) ∨
    (∃ d' K, d = d' + 1 ∧ Node w b e (some (K.map (·.1))) f0 ∧ e.length ≤ 32 ∧ K.length = e.length + 1 ∧ (∀ c ∈ K, ∃ n', Rep d' n' w c.1 c.2.1 c.2.2) ∧ f = f0 ++ K.flatMap (·.2.1) ∧ m = cont e K ∧
      ((e.length ≤ 31 ∧ 2 * d + 1 ≤ g) ∨ (2 * d ≤ g ∧ ∀ c, K[pos key e]? = some c → ∃ n', n' ≤ 31 ∧ Rep d' n' w c.1 c.2.1 c.2.2)))

/-- What is owed at the end, from where the loop stands. -/
def Wand (sb : Nat) (root : Value) (key value : ByteArray) (Fin : World → Prop) (w : World) (d b : Nat) (f : List Nat) (m : List KV) : Prop :=
  ∀ w' f' n', SB w' sb root → Rep d n' w' b f' (ins key value m) → f'.Nodup → (∀ x ∈ f', x ∈ f ∨ w.heap.size ≤ x) → sb ∉ f' → Fr (sb :: f) w w' → Fin w'

def PutRel (sb : Nat) (root : Value) (key value : ByteArray) (Fin : World → Prop) (g : Nat) (s6 : Value) (w : World) : Prop :=
  ∃ b d f m, s6 = ptr b ∧ SB w sb root ∧ sb ∉ f ∧ f.Nodup ∧ Srt m ∧ LoopAt key g w d b f m ∧ Wand sb root key value Fin w d b f m

theorem LoopAt.of_rep {key : ByteArray} {w : World} {d n b : Nat} {f : List Nat} {m : List KV} (h : Rep d n w b f m) (hn : n ≤ 31) : LoopAt key (2 * d + 1) w d b f m := by
  cases d with
  | zero => exact ⟨m, f, .inl ⟨rfl, h.1, rfl, rfl, by have := h.2.1; omega⟩⟩
  | succ d =>
    obtain ⟨e, K, f0, h1, h2, h3, h4, h5, h6, h7⟩ := h
    exact ⟨e, f0, .inr ⟨d, K, rfl, h1, by omega, h4, h5, h6, h7, .inl ⟨by omega, Nat.le_refl _⟩⟩⟩

/-- The same heap: the same facts. -/
theorem PutRel.drewN {sb : Nat} {root : Value} {key value : ByteArray} {Fin : World → Prop} {g : Nat} {s6 : Value} {w : World} (h : PutRel sb root key value Fin g s6 w) (q : Nat) : PutRel sb root key value Fin g s6 (w.drewN q) := by
  obtain ⟨b, d, f, m, h1, h2, h3, h4, h5, ⟨e, f0, h6⟩, h7⟩ := h
  refine ⟨b, d, f, m, h1, h2, h3, h4, h5, ⟨e, f0, ?_⟩, fun w' f' n' a1 a2 a3 a4 a5 a6 => h7 w' f' n' a1 a2 a3 a4 a5 ⟨a6.os, a6.tape, a6.output, a6.size, a6.block⟩⟩
  rcases h6 with ⟨a1, a2, a3⟩ | ⟨d', K, a1, a2, a3, a4, a5, a6, a7, a8⟩
  · exact .inl ⟨a1, a2.keep (fun _ _ => rfl), a3⟩
  · refine .inr ⟨d', K, a1, a2.keep (fun _ _ => rfl), a3, a4, fun c hc => ?_, a6, a7, ?_⟩
    · obtain ⟨n', hn'⟩ := a5 c hc; exact ⟨n', hn'.keep (fun _ _ => rfl)⟩
    · rcases a8 with h | ⟨h1, h2⟩
      · exact .inl h
      · refine .inr ⟨h1, fun c hc => ?_⟩
        obtain ⟨n', hn, hn'⟩ := h2 c hc
        exact ⟨n', hn, hn'.keep (fun _ _ => rfl)⟩

theorem pos_append (q : ByteArray) : ∀ (a b : List KV), (∀ p ∈ a, kl p.1 q = true) → pos q (a ++ b) = a.length + pos q b
  | [], b, _ => by simp
  | x :: a, b, h => by
    show pos q (x :: (a ++ b)) = _
    rw [pos, if_pos (h x (by simp)), pos_append q a b (fun p hp => h p (by simp [hp]))]
    simp; omega

theorem pos_zero (q : ByteArray) : ∀ (b : List KV), (∀ p ∈ b, kl q p.1 = true) → pos q b = 0
  | [], _ => rfl
  | x :: b, h => by rw [pos, if_neg (by rw [kl_asymm (h x (by simp))]; simp)]

section
variable {sb b d' : Nat} {root : Value} {key value : ByteArray} {Fin : World → Prop} {w w2 : World} {e : List KV} {A B : List Kid} {c : Kid} {f0 : List Nat}

/-- The child was full: it has been parted; the loop looks again. -/
theorem put_split {kv : KV} {l r : Kid} {f0' : List Nat} (hsb : SB w sb root) (hsf : sb ∉ f0 ++ (A ++ c :: B).flatMap (·.2.1)) (hel : e.length ≤ 31) (hK : (A ++ c :: B).length = e.length + 1) (hA : A.length = pos key e)
    (hf : found key e = false) (hs : Srt (cont e (A ++ c :: B))) (hw : Wand sb root key value Fin w (d' + 1) b (f0 ++ (A ++ c :: B).flatMap (·.2.1)) (cont e (A ++ c :: B)))
    (hn : Node w2 b (e.take (pos key e) ++ kv :: e.drop (pos key e)) (some ((A ++ l :: r :: B).map (·.1))) f0') (hk : ∀ c' ∈ A ++ l :: r :: B, ∃ n', Rep d' n' w2 c'.1 c'.2.1 c'.2.2)
    (hl : ∃ n', n' ≤ 31 ∧ Rep d' n' w2 l.1 l.2.1 l.2.2) (hr : ∃ n', n' ≤ 31 ∧ Rep d' n' w2 r.1 r.2.1 r.2.2) (hc : c.2.2 = l.2.2 ++ kv :: r.2.2)
    (hnd : (f0' ++ (A ++ l :: r :: B).flatMap (·.2.1)).Nodup) (hsub : ∀ x ∈ f0' ++ (A ++ l :: r :: B).flatMap (·.2.1), x ∈ f0 ++ (A ++ c :: B).flatMap (·.2.1) ∨ w.heap.size ≤ x) (hfr : Fr (f0 ++ (A ++ c :: B).flatMap (·.2.1)) w w2) :
    PutRel sb root key value Fin (2 * (d' + 1)) (ptr b) w2 := by
  have hp := pos_le key e
  have hcm : cont (e.take (pos key e) ++ kv :: e.drop (pos key e)) (A ++ l :: r :: B) = cont e (A ++ c :: B) := cont_parted (pos key e) l r kv hA hp hc
  have hes : Srt e := hs.entries hK
  have hlt : sb < w.heap.size := by obtain ⟨z, h⟩ := hsb; exact lt_of_block h
  refine ⟨b, d' + 1, f0' ++ (A ++ l :: r :: B).flatMap (·.2.1), cont e (A ++ c :: B), rfl, hsb.fr hfr hsf, fun hx => ?_, hnd, hs, ⟨_, f0', .inr ⟨d', _, rfl, hn, ?_, ?_, hk, rfl, hcm.symm, .inr ⟨Nat.le_refl _, fun c' hc' => ?_⟩⟩⟩, ?_⟩
  · rcases hsub sb hx with h | h
    · exact hsf h
    · omega
  · simp; omega
  · simp at hK ⊢; omega
  · cases hkv : kl kv.1 key
    · have hpos : pos key (e.take (pos key e) ++ kv :: e.drop (pos key e)) = pos key e := by
        rw [pos_append key _ _ (pos_take key e), pos, if_neg (by rw [hkv]; simp)]
        simp; omega
      rw [hpos, ← hA] at hc'
      simp at hc'
      rw [← hc']; exact hl
    · have hpos : pos key (e.take (pos key e) ++ kv :: e.drop (pos key e)) = pos key e + 1 := by
        rw [pos_append key _ _ (pos_take key e), pos, if_pos hkv, pos_zero key _ (pos_drop_gt key e hes hf)]
        simp; omega
      rw [hpos, ← hA, List.getElem?_append_right (by omega)] at hc'
      simp at hc'
      rw [← hc']; exact hr
  · intro w' f' n' a1 a2 a3 a4 a5 a6
    refine hw w' f' n' a1 a2 a3 (fun x hx => ?_) a5 ?_
    · rcases a4 x hx with h | h
      · exact hsub x h
      · exact .inr (by have := hfr.size; omega)
    · refine (hfr.mono (fun x hx => List.mem_cons_of_mem _ hx)).trans a6 (fun x hx => ?_)
      rcases List.mem_cons.1 hx with h | h
      · exact .inl (by simp [h])
      · rcases hsub x h with h | h
        · exact .inl (List.mem_cons_of_mem _ h)
        · exact .inr h

/-- Down to a child that is not full. -/
theorem put_down {n : Nat} (hsb : SB w sb root) (hsf : sb ∉ f0 ++ (A ++ c :: B).flatMap (·.2.1)) (hel : e.length ≤ 32) (hK : (A ++ c :: B).length = e.length + 1) (hA : A.length = pos key e)
    (hf : found key e = false) (hs : Srt (cont e (A ++ c :: B))) (hw : Wand sb root key value Fin w (d' + 1) b (f0 ++ (A ++ c :: B).flatMap (·.2.1)) (cont e (A ++ c :: B)))
    (hn : Node w b e (some ((A ++ c :: B).map (·.1))) f0) (hk : ∀ c' ∈ A ++ c :: B, ∃ n', Rep d' n' w c'.1 c'.2.1 c'.2.2) (hc : Rep d' n w c.1 c.2.1 c.2.2) (hn31 : n ≤ 31)
    (hnd : (f0 ++ (A ++ c :: B).flatMap (·.2.1)).Nodup) : PutRel sb root key value Fin (2 * d' + 1) (ptr c.1) w := by
  have hnd' := hnd
  rw [flatMap_kids] at hnd'
  obtain ⟨n0, nA, nc, nB, e0, eA, ec⟩ := nodup_sub hnd'
  have hsf' := hsf
  rw [flatMap_kids] at hsf'
  simp only [List.mem_append, not_or] at hsf'
  have hold : ∀ x ∈ f0 ++ (A ++ c :: B).flatMap (·.2.1), x < w.heap.size := fun x hx => by
    rcases List.mem_append.1 hx with h | h
    · exact hn.lt x h
    · obtain ⟨c', hc', hx'⟩ := List.mem_flatMap.1 h
      obtain ⟨n', hn'⟩ := hk c' hc'
      exact hn'.lt x hx'
  refine ⟨c.1, d', c.2.1, c.2.2, rfl, hsb, hsf'.2.2.1, nc, srt_child hs hA, LoopAt.of_rep hc hn31, ?_⟩
  intro w' fc n' a1 a2 a3 a4 a5 a6
  have hold' : ∀ x, x ∈ f0 ∨ x ∈ A.flatMap (·.2.1) ∨ x ∈ B.flatMap (·.2.1) → x < w.heap.size := fun x hx => hold x (by
    rw [flatMap_kids]
    rcases hx with h | h | h <;> simp [h])
  have hfar : ∀ x, x ∈ f0 ∨ x ∈ A.flatMap (·.2.1) ∨ x ∈ B.flatMap (·.2.1) → x ∉ fc := fun x hx hy => by
    rcases a4 x hy with h | h
    · rcases hx with h' | h' | h'
      · exact (e0 x h').2.1 h
      · exact (eA x h').1 h
      · exact ec x h h'
    · have := hold' x hx; omega
  have hkept : ∀ x, x ∈ f0 ∨ x ∈ A.flatMap (·.2.1) ∨ x ∈ B.flatMap (·.2.1) → w'.heap[x]? = w.heap[x]? := fun x hx =>
    a6.block x (hold' x hx) (fun hy => by
      rcases List.mem_cons.1 hy with h | h
      · subst h
        rcases hx with h' | h' | h'
        · exact hsf'.1 h'
        · exact hsf'.2.1 h'
        · exact hsf'.2.2.2 h'
      · rcases hx with h' | h' | h'
        · exact (e0 x h').2.1 h
        · exact (eA x h').1 h
        · exact ec x h h')
  refine hw w' (f0 ++ (A ++ (c.1, fc, ins key value c.2.2) :: B).flatMap (·.2.1)) e.length a1 ⟨e, A ++ (c.1, fc, ins key value c.2.2) :: B, f0, ?_, rfl, hel, by simpa using hK, fun c' hc' => ?_, rfl, ?_⟩ ?_ ?_ ?_ ?_
  · have : (A ++ (c.1, fc, ins key value c.2.2) :: B).map (·.1) = (A ++ c :: B).map (·.1) := by simp
    rw [this]
    exact hn.keep (fun k hk => hkept k (.inl hk))
  · rcases List.mem_append.1 hc' with h | h
    · obtain ⟨n', hn'⟩ := hk c' (List.mem_append_left _ h)
      exact ⟨n', hn'.keep (fun k hk' => hkept k (.inr (.inl (List.mem_flatMap.2 ⟨c', h, hk'⟩))))⟩
    · rcases List.mem_cons.1 h with h | h
      · subst h; exact ⟨_, a2⟩
      · obtain ⟨n', hn'⟩ := hk c' (List.mem_append_right _ (List.mem_cons_of_mem _ h))
        exact ⟨n', hn'.keep (fun k hk' => hkept k (.inr (.inr (List.mem_flatMap.2 ⟨c', h, hk'⟩))))⟩
  · exact ins_down value fc hs hK hA hf
  · rw [flatMap_kids]
    refine nodup_mk n0 nA a3 nB (fun x hx => ⟨(e0 x hx).1, hfar x (.inl hx), (e0 x hx).2.2⟩) (fun x hx => ⟨hfar x (.inr (.inl hx)), (eA x hx).2⟩) (fun x hx hy => hfar x (.inr (.inr hy)) hx)
  · intro x hx
    rw [flatMap_kids] at hx
    rw [flatMap_kids]
    simp only [List.mem_append] at hx ⊢
    rcases hx with h | h | h | h
    · exact .inl (.inl h)
    · exact .inl (.inr (.inl h))
    · rcases a4 x h with h | h
      · exact .inl (.inr (.inr (.inl h)))
      · exact .inr h
    · exact .inl (.inr (.inr (.inr h)))
  · intro hx
    rw [flatMap_kids] at hx
    simp only [List.mem_append] at hx
    rcases hx with h | h | h | h
    · exact hsf'.1 h
    · exact hsf'.2.1 h
    · exact a5 h
    · exact hsf'.2.2.2 h
  · refine a6.mono (fun x hx => ?_)
    rcases List.mem_cons.1 hx with h | h
    · simp [h]
    · rw [flatMap_kids]; simp [h]
end

/-- The store of the size. -/
theorem SB.size {w : World} {sb : Nat} {root : Value} (h : SB w sb root) (z' : Int) : SB (w.setCell ⟨sb, 1, none⟩ (.int .i64 z')) sb root := by
  obtain ⟨z, h⟩ := h
  exact ⟨z', heap_setCell_same w sb 1 _ _ (.int .i64 z') h⟩

/-- The key is there: its value is changed. -/
theorem hit_node {w : World} {sb b vg n vcap i : Nat} {kv cv : Value} {e : List KV} {co : Option (List Nat)} {kf cf : List Nat} {key value u : ByteArray} (z' : Int)
    (hb : w.heap[b]? = some (.cells #[.int .u64 0, kv, .slice (some ⟨vg, 0, none⟩) n vcap, cv] 44 (0, 0))) (hk : SlRow w 9 kv (e.map fun p => .string p.1) kf) (hv : SlRow w 9 (.slice (some ⟨vg, 0, none⟩) n vcap) (e.map fun p => .string p.2) [vg])
    (hx : KidRow w cv co cf) (hu : e[i]? = some (key, u)) (hnd : (b :: (kf ++ ([vg] ++ cf))).Nodup) (hsb : sb ∉ b :: (kf ++ ([vg] ++ cf))) :
    Node ((w.setCell ⟨sb, 1, none⟩ (.int .i64 z')).setCell ⟨vg, i, none⟩ (.string value)) b (e.set i (key, value)) co (b :: (kf ++ ([vg] ++ cf))) := by
  have hsb' := hsb
  simp only [List.mem_cons, List.mem_append, List.not_mem_nil, or_false, not_or] at hsb'
  obtain ⟨s1, s2, s3, s4⟩ := hsb'
  rw [List.nodup_cons, List.nodup_append, List.nodup_append] at hnd
  obtain ⟨n1, n2, ⟨n3, n4, n5⟩, n6⟩ := hnd
  simp only [List.mem_append, List.mem_singleton, not_or] at n1
  have kp : ∀ k, k ≠ sb → k ≠ vg → ((w.setCell ⟨sb, 1, none⟩ (.int .i64 z')).setCell ⟨vg, i, none⟩ (.string value)).heap[k]? = w.heap[k]? := fun k h1 h2 => by
    rw [heap_setCell_other _ _ _ _ h2, heap_setCell_other _ _ _ _ h1]
  refine ⟨kv, _, cv, kf, [vg], cf, (kp b (Ne.symm s1) n1.2.1).trans hb, ?_, ?_, ?_, rfl⟩
  · have : (e.set i (key, value)).map (fun p : KV => Value.string p.1) = e.map fun p => .string p.1 := by
      rw [List.map_set]
      refine List.ext_getElem? (fun j => ?_)
      rw [List.getElem?_set]
      split
      · rename_i h
        subst h
        split
        · rw [List.getElem?_map, hu]; rfl
        · rename_i h
          rw [List.getElem?_eq_none (by omega)]
      · rfl
    rw [this]
    exact hk.keep (fun k hk' => kp k (fun h => s2 (by rw [← h]; exact hk')) (fun h => n6 k hk' vg (by simp) h))
  · rw [List.map_set]
    have hv2 : SlRow (w.setCell ⟨sb, 1, none⟩ (.int .i64 z')) 9 (.slice (some ⟨vg, 0, none⟩) n vcap) (e.map fun p => .string p.2) [vg] := hv.keep (fun k hk' => by rw [List.mem_singleton.1 hk']; exact heap_setCell_other _ _ _ _ (Ne.symm s3))
    exact hv2.set i (.string value)
  · exact hx.keep (fun k hk' => kp k (fun h => s4 (by rw [← h]; exact hk')) (fun h => n5 vg (by simp) k hk' h.symm))

theorem hit_fr {w : World} {sb vg i : Nat} {value : ByteArray} (z' : Int) {f : List Nat} (hvg : vg ∈ f) : Fr (sb :: f) w ((w.setCell ⟨sb, 1, none⟩ (.int .i64 z')).setCell ⟨vg, i, none⟩ (.string value)) :=
  ((Fr.refl _ w).setCell (.inl (by simp)) _).setCell (.inl (List.mem_cons_of_mem _ hvg)) _

theorem hit_sb {w : World} {sb vg i : Nat} {root : Value} {value : ByteArray} (z' : Int) (h : SB w sb root) (hne : sb ≠ vg) : SB ((w.setCell ⟨sb, 1, none⟩ (.int .i64 z')).setCell ⟨vg, i, none⟩ (.string value)) sb root := by
  obtain ⟨z, h⟩ := h.size z'
  exact ⟨z, by rw [heap_setCell_other _ _ _ _ hne]; exact h⟩

/-- A new pair in a leaf. -/
theorem leaf_done {sb b n g1 c1 g2 c2 : Nat} {root : Value} {key value : ByteArray} {Fin : World → Prop} {w w7 : World} {e : List KV} {kf vf : List Nat} (z' : Int) (hsb : SB w sb root) (hsf : sb ∉ b :: (kf ++ (vf ++ []))) (hel : e.length ≤ 31) (hs : Srt e) (hf : found key e = false)
    (hw : Wand sb root key value Fin w 0 b (b :: (kf ++ (vf ++ []))) e)
    (h7 : w7.heap[b]? = some (.cells #[.int .u64 0, .slice (some ⟨g1, 0, none⟩) n c1, .slice (some ⟨g2, 0, none⟩) n c2, .slice none 0 0] 44 (0, 0)))
    (r1 : SlRow w7 9 (.slice (some ⟨g1, 0, none⟩) n c1) (putIn (e.map fun p => .string p.1) (pos key e) (.string key)) [g1]) (r2 : SlRow w7 9 (.slice (some ⟨g2, 0, none⟩) n c2) (putIn (e.map fun p => .string p.2) (pos key e) (.string value)) [g2])
    (hg1 : g1 ∈ kf ∨ w.heap.size ≤ g1) (hg2 : g2 ∈ vf ∨ w.heap.size ≤ g2) (h12 : g1 ≠ g2) (h1n : g1 ≠ b) (h2n : g2 ≠ b) (hF : Fr (b :: (kf ++ vf)) w w7) :
    Fin (w7.setCell ⟨sb, 1, none⟩ (.int .i64 z')) := by
  have hlt : sb < w.heap.size := by obtain ⟨z, h⟩ := hsb; exact lt_of_block h
  simp only [List.append_nil, List.mem_cons, List.mem_append, not_or] at hsf
  have s1 : g1 ≠ sb := fun h => by
    rcases hg1 with h' | h'
    · exact hsf.2.1 (by rw [← h]; exact h')
    · omega
  have s2 : g2 ≠ sb := fun h => by
    rcases hg2 with h' | h'
    · exact hsf.2.2 (by rw [← h]; exact h')
    · omega
  have hsb7 : SB w7 sb root := hsb.fr hF (by simp [hsf])
  have ha := leaf_miss value hs hf
  refine hw _ [b, g1, g2] (e.length + 1) (hsb7.size z') ⟨?_, ?_, by omega⟩ ?_ ?_ ?_ ?_
  · rw [ha.2]
    refine ⟨_, _, _, [g1], [g2], [], (heap_setCell_other _ _ _ _ (Ne.symm hsf.1)).trans h7, ?_, ?_, ⟨rfl, rfl⟩, rfl⟩
    · rw [← map_putIn (fun p : KV => Value.string p.1) e _ (key, value)]
      exact r1.keep (fun k hk => by rw [List.mem_singleton.1 hk]; exact heap_setCell_other _ _ _ _ s1)
    · rw [← map_putIn (fun p : KV => Value.string p.2) e _ (key, value)]
      exact r2.keep (fun k hk => by rw [List.mem_singleton.1 hk]; exact heap_setCell_other _ _ _ _ s2)
  · rw [ha.2]
    have := pos_le key e
    simp; omega
  · simp only [List.nodup_cons, List.mem_cons, List.not_mem_nil, or_false, not_or, not_false_eq_true, List.nodup_nil, and_true]
    exact ⟨⟨Ne.symm h1n, Ne.symm h2n⟩, h12⟩
  · intro x hx
    simp only [List.append_nil, List.mem_cons, List.mem_append, List.not_mem_nil, or_false] at hx ⊢
    rcases hx with rfl | rfl | rfl
    · exact .inl (.inl rfl)
    · rcases hg1 with h | h
      · exact .inl (.inr (.inl h))
      · exact .inr h
    · rcases hg2 with h | h
      · exact .inl (.inr (.inr h))
      · exact .inr h
  · simp only [List.mem_cons, List.not_mem_nil, or_false, not_or]
    exact ⟨hsf.1, Ne.symm s1, Ne.symm s2⟩
  · exact (hF.mono (fun x hx => by simp only [List.append_nil]; exact List.mem_cons_of_mem _ hx)).setCell (.inl (by simp)) _

end Go.Proofs.Qxb6600882a
