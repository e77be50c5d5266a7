/-
  Two Inserts in one statement ('n.keys, n.values = Insert(..), Insert(..)'): the worlds' side.
-/
import Derived.Test.Qxb6600882aInsB
import Derived.Test.Qxb6600882aGet
import Derived.Test.Qxb6600882aOrders
namespace Go.Proofs.Qxb6600882a
open Go.RowKit Go.Lib

theorem cell_eq {w : World} {b j : Nat} {c : Array Value} {t : TypeId} {v : Value} (h : w.heap[b]? = some (.cells c t (0, 0))) (hj : c[j]? = some v) : w.cell? ⟨b, j, none⟩ = some v := by
  rw [cell_of_row w b j _ _ _ h]; exact hj

theorem fr_a1 (S : List Nat) (w : World) (o : Obj) : Fr S w ((w.alloc o).drew) := ((Fr.refl S w).alloc o).drew
theorem fr_a2 (S : List Nat) (w : World) (o o' : Obj) : Fr S w (((w.alloc o).alloc o').drew) := (((Fr.refl S w).alloc o).alloc o').drew

theorem SlRow.cap {w : World} {t : TypeId} {a : Option Addr} {n cap : Nat} {xs : List Value} {fp : List Nat} (h : SlRow w t (.slice a n cap) xs fp) : n = xs.length ∧ n ≤ cap ∧ cap ≤ 9223372036854775807 := by
  rcases h with ⟨h, rfl, _⟩ | ⟨g, cap', cur, h1, _, h3, h4, _⟩
  · simp at h; simp [h]
  · simp [maxLen] at h1 h4; obtain ⟨_, rfl, rfl⟩ := h1; omega

theorem SlRow.fr {S : List Nat} {w w' : World} {t : TypeId} {v : Value} {xs : List Value} {fp : List Nat} (h : SlRow w t v xs fp) (hf : Fr S w w') (hS : ∀ k ∈ fp, k ∉ S) : SlRow w' t v xs fp :=
  h.keep (fun k hk => hf.block k (h.lt k hk) (hS k hk))

/-- The first Insert of the two, in whatever world behind new blocks alone. -/
theorem first_ins {w0 : World} {v : Value} {xs : List Value} {nkf : List Nat} {i n : Nat} {X1 : Value} (hr : SlRow w0 9 v xs nkf) (hn : xs.length = n) (hi : i ≤ n) (hsm : n ≤ 1000) (h1c : ∀ u ∈ xs, u.oneCell' = true) (h1x : X1.oneCell' = true) :
    ∀ wx vb, Fr [] w0 wx → wx.heap[vb]? = some (.cells #[X1] 9 (0, 0)) → w0.heap.size ≤ vb → Calls Try.prog 23 #[v, .int .i64 i, .slice (some ⟨vb, 0, none⟩) 1 1] wx fun r w1 =>
      ∃ g cap, r = .returned (.slice (some ⟨g, 0, none⟩) (n + 1) cap) ∧ SlRow w1 9 (.slice (some ⟨g, 0, none⟩) (n + 1) cap) (putIn xs i X1) [g] ∧ (g ∈ nkf ∨ w0.heap.size ≤ g) ∧ Fr nkf w0 w1 ∧ Fr nkf wx w1 := by
  intro wx vb hf hv hle
  subst hn
  refine (insS v i vb 1 xs X1 nkf wx (hr.fr hf (by simp)) hi (by omega) hv (fun hx => ?_) h1c h1x).mono ?_
  · have := hr.lt vb hx; omega
  · rintro r w1 ⟨g, cap, h1, h2, h3, h4⟩
    refine ⟨g, cap, h1, h2, ?_, (hf.mono (by simp)).step h4, h4⟩
    have := hf.size
    rcases h3 with h | h
    · exact .inl h
    · exact .inr (by omega)

/-- The second one, behind the first. -/
theorem second_ins {w0 : World} {v : Value} {xs : List Value} {nkf nvf : List Nat} {i n : Nat} {X2 : Value} (hr : SlRow w0 9 v xs nvf) (hn : xs.length = n) (hi : i ≤ n) (hsm : n ≤ 1000) (hd : ∀ x ∈ nvf, x ∉ nkf) (h1c : ∀ u ∈ xs, u.oneCell' = true) (h1x : X2.oneCell' = true) :
    ∀ wy vb, Fr nkf w0 wy → wy.heap[vb]? = some (.cells #[X2] 9 (0, 0)) → w0.heap.size ≤ vb → Calls Try.prog 23 #[v, .int .i64 i, .slice (some ⟨vb, 0, none⟩) 1 1] wy fun r w2 =>
      ∃ g cap, r = .returned (.slice (some ⟨g, 0, none⟩) (n + 1) cap) ∧ SlRow w2 9 (.slice (some ⟨g, 0, none⟩) (n + 1) cap) (putIn xs i X2) [g] ∧ (g ∈ nvf ∨ wy.heap.size ≤ g) ∧ Fr (nkf ++ nvf) w0 w2 ∧ Fr nvf wy w2 := by
  intro wy vb hf hv hle
  subst hn
  refine (insS v i vb 1 xs X2 nvf wy (hr.fr hf hd) hi (by omega) hv (fun hx => ?_) h1c h1x).mono ?_
  · have := hr.lt vb hx; omega
  · rintro r w2 ⟨g, cap, h1, h2, h3, h4⟩
    exact ⟨g, cap, h1, h2, h3, (hf.mono (fun x hx => List.mem_append_left _ hx)).step (h4.mono (fun x hx => List.mem_append_right _ hx)), h4⟩

/-- The node's two cells behind both. -/
theorem node_two {w0 w' : World} {nb : Nat} {a b c : Value} {S : List Nat} (hnb : w0.heap[nb]? = some (.cells #[.int .u64 0, a, b, c] 44 (0, 0))) (hS : nb ∉ S) (hf : Fr S w0 w') :
    w'.cell? ⟨nb, 1, none⟩ = some a ∧ w'.cell? ⟨nb, 2, none⟩ = some b ∧ w'.frozen? ⟨nb, 1, none⟩ = false ∧ w'.frozen? ⟨nb, 2, none⟩ = false := by
  have h := hf.at hnb hS
  exact ⟨cell_eq h rfl, cell_eq h rfl, frozen_of_row w' nb 1 _ _ h, frozen_of_row w' nb 2 _ _ h⟩

/-- What lies there when both have been stored. -/
theorem two_ins {w0 w1 w2 : World} {nb : Nat} {nkf nvf : List Nat} {a b ncv : Value} {l1 l2 : List Value} {g1 g2 n c1 c2 sy : Nat} (hnb : w0.heap[nb]? = some (.cells #[.int .u64 0, a, b, ncv] 44 (0, 0)))
    (r1 : SlRow w1 9 (.slice (some ⟨g1, 0, none⟩) n c1) l1 [g1]) (hg1 : g1 ∈ nkf ∨ w0.heap.size ≤ g1) (hb : w2.heap[g1]? = w1.heap[g1]? ) (h01 : w0.heap.size ≤ w1.heap.size) (hsy : w1.heap.size ≤ sy)
    (r2 : SlRow w2 9 (.slice (some ⟨g2, 0, none⟩) n c2) l2 [g2]) (hg2 : g2 ∈ nvf ∨ sy ≤ g2) (hF2 : Fr (nkf ++ nvf) w0 w2) (hnd : (nb :: (nkf ++ nvf)).Nodup) (hvl : ∀ x ∈ nvf, x < w0.heap.size) :
    ((w2.setCell ⟨nb, 1, none⟩ (.slice (some ⟨g1, 0, none⟩) n c1)).setCell ⟨nb, 2, none⟩ (.slice (some ⟨g2, 0, none⟩) n c2)).heap[nb]? = some (.cells #[.int .u64 0, .slice (some ⟨g1, 0, none⟩) n c1, .slice (some ⟨g2, 0, none⟩) n c2, ncv] 44 (0, 0)) ∧
    SlRow ((w2.setCell ⟨nb, 1, none⟩ (.slice (some ⟨g1, 0, none⟩) n c1)).setCell ⟨nb, 2, none⟩ (.slice (some ⟨g2, 0, none⟩) n c2)) 9 (.slice (some ⟨g1, 0, none⟩) n c1) l1 [g1] ∧
    SlRow ((w2.setCell ⟨nb, 1, none⟩ (.slice (some ⟨g1, 0, none⟩) n c1)).setCell ⟨nb, 2, none⟩ (.slice (some ⟨g2, 0, none⟩) n c2)) 9 (.slice (some ⟨g2, 0, none⟩) n c2) l2 [g2] ∧
    g1 ≠ g2 ∧ g1 ≠ nb ∧ g2 ≠ nb ∧ Fr (nb :: (nkf ++ nvf)) w0 ((w2.setCell ⟨nb, 1, none⟩ (.slice (some ⟨g1, 0, none⟩) n c1)).setCell ⟨nb, 2, none⟩ (.slice (some ⟨g2, 0, none⟩) n c2)) := by
  have hnl := lt_of_block hnb
  rw [List.nodup_cons, List.mem_append, List.nodup_append] at hnd
  obtain ⟨hn1, _, _, hdis⟩ := hnd
  have l1' := r1.lt g1 (by simp)
  have hn2 : w2.heap[nb]? = some (.cells #[.int .u64 0, a, b, ncv] 44 (0, 0)) := hF2.at hnb (by simpa using hn1)
  have e1 : g1 ≠ nb := by
    intro e; subst e
    rcases hg1 with h | h
    · exact hn1 (.inl h)
    · omega
  have e3 : g1 ≠ g2 := by
    intro e; subst e
    rcases hg2 with h2 | h2
    · rcases hg1 with h | h
      · exact hdis _ h _ h2 rfl
      · have := hvl _ h2; omega
    · omega
  have e2 : g2 ≠ nb := by
    intro e; subst e
    rcases hg2 with h | h
    · exact hn1 (.inr h)
    · omega
  refine ⟨?_, ?_, ?_, e3, e1, e2, ?_⟩
  · have h1 := heap_setCell_same w2 nb 1 _ _ (.slice (some ⟨g1, 0, none⟩) n c1) hn2
    exact heap_setCell_same _ nb 2 _ _ (.slice (some ⟨g2, 0, none⟩) n c2) h1
  · refine r1.keep (fun k hk => ?_)
    rw [List.mem_singleton.1 hk, heap_setCell_other _ _ _ _ e1, heap_setCell_other _ _ _ _ e1]
    exact hb
  · refine r2.keep (fun k hk => ?_)
    rw [List.mem_singleton.1 hk, heap_setCell_other _ _ _ _ e2, heap_setCell_other _ _ _ _ e2]
  · exact ((hF2.mono (fun x hx => List.mem_cons_of_mem _ hx)).setCell (.inl (by simp)) _).setCell (.inl (by simp)) _

end Go.Proofs.Qxb6600882a
