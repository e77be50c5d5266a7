/-
  (*Store).split: a full child parted about its middle key.
-/
import Derived.Test.Qxb6600882aTwoIns
import Derived.Deep.RegionHeld3
import Derived.Deep.DeepCutAuto
import Derived.Deep.DrawnRows
namespace Go.Proofs.Qxb6600882a
open Go.RowKit Go.Lib
attribute [local go_sem ↓] Go.wp_at_zero Go.wp_at_succ
set_option linter.unusedSimpArgs false
set_option linter.unusedVariables false

theorem run_neq42 (w : World) (a : Option Addr) (n c n' c' : Nat) : (binOp .neq 42 (.slice a n c) (.slice none n' c')).run Try.prog w = .ok (.bool (!a.isNone)) w := run_neq_slice_nil_any w _ _ a n c n' c' Try.underlying42

/-- Two fresh rows and a block over them: a fresh leaf. -/
theorem fresh_node {w w1 w2 : World} {e : List KV} {n g1 c1 g2 c2 : Nat} (B : Nat) (hB : B ≤ w.heap.size) (h1 : SlRow w1 9 (.slice (some ⟨g1, 0, none⟩) n c1) (e.map fun p => .string p.1) [g1]) (hge1 : w.heap.size ≤ g1) (hfr1 : Fr [] w w1)
    (h2 : SlRow w2 9 (.slice (some ⟨g2, 0, none⟩) n c2) (e.map fun p => .string p.2) [g2]) (hge2 : w1.heap.size ≤ g2) (hfr2 : Fr [] w1 w2) :
    Node (w2.alloc (.cells #[.int .u64 0, .slice (some ⟨g1, 0, none⟩) n c1, .slice (some ⟨g2, 0, none⟩) n c2, .slice none 0 0] 44)) w2.heap.size e none [w2.heap.size, g1, g2] ∧
    [w2.heap.size, g1, g2].Nodup ∧ (∀ x ∈ [w2.heap.size, g1, g2], B ≤ x) := by
  have l1 := h1.lt g1 (by simp)
  have l2 := h2.lt g2 (by simp)
  have l3 := hfr1.size
  have l4 := hfr2.size
  refine ⟨⟨_, _, _, [g1], [g2], [], heap_alloc_new _ _, ?_, ?_, ⟨rfl, rfl⟩, rfl⟩, by simp; omega, by simp; omega⟩
  · refine h1.keep (fun k hk => ?_)
    rw [List.mem_singleton.1 hk, Below.heap_alloc _ _ _ (by omega)]
    exact hfr2.block g1 l1 (by simp)
  · refine h2.keep (fun k hk => ?_)
    rw [List.mem_singleton.1 hk, Below.heap_alloc _ _ _ l2]

/-- A clone of a part of a row of strings, in a later world. -/
theorem clone_part {w w' : World} {g cap o n c : Nat} {f : KV → ByteArray} {e : List KV} {N : Nat} (h : SlRow w 9 (.slice (some ⟨g, 0, none⟩) N cap) (e.map fun p => .string (f p)) [g]) (hw : w'.heap[g]? = w.heap[g]?) (hn : 0 < n) (hl : o + n ≤ e.length) (hs : n ≤ 1000) :
    Calls Try.prog 25 #[.slice (some ⟨g, o, none⟩) n c] w' fun r w1 => ∃ g' cap', r = .returned (.slice (some ⟨g', 0, none⟩) n cap') ∧ SlRow w1 9 (.slice (some ⟨g', 0, none⟩) n cap') (((e.drop o).take n).map fun p => .string (f p)) [g'] ∧ w'.heap.size ≤ g' ∧ Fr [] w' w1 := by
  refine cloneS g o n c _ w' (by simp; omega) hn (by omega) (fun j u hj => ?_) (fun u hu => ?_)
  · refine (h.keep (fun k hk => by rw [List.mem_singleton.1 hk]; exact hw)).cell (o + j) u ?_
    rw [List.getElem?_map, List.getElem?_take] at hj
    split at hj
    · rw [List.getElem?_drop] at hj
      rw [List.getElem?_map]; exact hj
    · cases hj
  · obtain ⟨p, _, rfl⟩ := List.mem_map.1 hu; rfl

/-- The same of a row of children. -/
theorem clone_kids {w w' : World} {g cap o n c : Nat} {l : List Nat} {N : Nat} (h : SlRow w 27 (.slice (some ⟨g, 0, none⟩) N cap) (l.map ptr) [g]) (hw : w'.heap[g]? = w.heap[g]?) (hn : 0 < n) (hl : o + n ≤ l.length) (hs : n ≤ 1000) :
    Calls Try.prog 26 #[.slice (some ⟨g, o, none⟩) n c] w' fun r w1 => ∃ g' cap', r = .returned (.slice (some ⟨g', 0, none⟩) n cap') ∧ SlRow w1 27 (.slice (some ⟨g', 0, none⟩) n cap') (((l.drop o).take n).map ptr) [g'] ∧ w'.heap.size ≤ g' ∧ Fr [] w' w1 := by
  refine cloneN g o n c _ w' (by simp; omega) hn (by omega) (fun j u hj => ?_) (fun u hu => ?_)
  · refine (h.keep (fun k hk => by rw [List.mem_singleton.1 hk]; exact hw)).cell (o + j) u ?_
    rw [List.getElem?_map, List.getElem?_take] at hj
    split at hj
    · rw [List.getElem?_drop] at hj
      rw [List.getElem?_map]; exact hj
    · cases hj
  · obtain ⟨p, _, rfl⟩ := List.mem_map.1 hu; rfl

/-- A leaf that is given children. -/
theorem Node.give {w : World} {b : Nat} {e : List KV} {fp : List Nat} (h : Node w b e none fp) {w' : World} {g cap n : Nat} {l : List Nat} (hl : l ≠ []) (hr : SlRow w' 27 (.slice (some ⟨g, 0, none⟩) n cap) (l.map ptr) [g])
    (hk : ∀ k ∈ fp, k ≠ b → w'.heap[k]? = w.heap[k]?) (hnd : fp.Nodup)
    (hb : ∀ kv vv, w.heap[b]? = some (.cells #[.int .u64 0, kv, vv, .slice none 0 0] 44 (0, 0)) → w'.heap[b]? = some (.cells #[.int .u64 0, kv, vv, .slice (some ⟨g, 0, none⟩) n cap] 44 (0, 0))) :
    Node w' b e (some l) (fp ++ [g]) := by
  obtain ⟨kv, vv, cv, kf, vf, cf, h1, h2, h3, ⟨rfl, rfl⟩, rfl⟩ := h
  have hbn := (List.nodup_cons.1 hnd).1
  refine ⟨kv, vv, _, kf, vf, [g], hb _ _ h1, h2.keep (fun k hx => hk k (by simp [hx]) (fun e => hbn (by rw [← e]; simp [hx]))), h3.keep (fun k hx => hk k (by simp [hx]) (fun e => hbn (by rw [← e]; simp [hx]))), ⟨hl, hr⟩, by simp⟩

theorem Node.block {w : World} {b : Nat} {e : List KV} {fp : List Nat} (h : Node w b e none fp) : ∃ kv vv, w.heap[b]? = some (.cells #[.int .u64 0, kv, vv, .slice none 0 0] 44 (0, 0)) ∧ b ∈ fp := by
  obtain ⟨kv, vv, cv, kf, vf, cf, h1, h2, h3, ⟨rfl, rfl⟩, rfl⟩ := h
  exact ⟨kv, vv, h1, by simp⟩

/-- A store into a row of one's own. -/
theorem SlRow.set {w : World} {t : TypeId} {g n cap : Nat} {xs : List Value} (h : SlRow w t (.slice (some ⟨g, 0, none⟩) n cap) xs [g]) (i : Nat) (v : Value) : SlRow (w.setCell ⟨g, i, none⟩ v) t (.slice (some ⟨g, 0, none⟩) n cap) (xs.set i v) [g] := by
  rcases h with ⟨h, _, _⟩ | ⟨g', cap', cur, h1, h2, h3, h4, h5, h6, h7⟩
  · cases h
  · obtain ⟨rfl, rfl, rfl⟩ : g = g' ∧ n = xs.length ∧ cap = cap' := by simpa using h1
    refine .inr ⟨g, cap, _, by simp, heap_setCell_same w g i cur t v h2, by simpa using h3, h4, by simpa using h5, ?_, rfl⟩
    rw [Array.toList_setIfInBounds, List.length_set, List.take_set, h6]

/-- Both halves of a parted inner node are given their children. -/
theorem give_kids {w wr w1 w2 : World} {lb rb g1 c1 n1 g2 c2 n2 : Nat} {e1 e2 : List KV} {lf rf l1 l2 : List Nat} (hwr : Fr [] w wr) (hl : Node wr lb e1 none lf) (hr : Node wr rb e2 none rf) (hnd : (lf ++ rf).Nodup) (hge : ∀ x ∈ lf ++ rf, w.heap.size ≤ x)
    (hfr1 : Fr [] wr w1) (hrow1 : SlRow w1 27 (.slice (some ⟨g1, 0, none⟩) n1 c1) (l1.map ptr) [g1]) (hge1 : wr.heap.size ≤ g1)
    (hfr2 : Fr [] w1 w2) (hrow2 : SlRow w2 27 (.slice (some ⟨g2, 0, none⟩) n2 c2) (l2.map ptr) [g2]) (hge2 : w1.heap.size ≤ g2) (h1 : l1 ≠ []) (h2 : l2 ≠ []) :
    ∃ lf' rf', Node ((w2.setCell ⟨lb, 3, none⟩ (.slice (some ⟨g1, 0, none⟩) n1 c1)).setCell ⟨rb, 3, none⟩ (.slice (some ⟨g2, 0, none⟩) n2 c2)) lb e1 (some l1) lf' ∧
      Node ((w2.setCell ⟨lb, 3, none⟩ (.slice (some ⟨g1, 0, none⟩) n1 c1)).setCell ⟨rb, 3, none⟩ (.slice (some ⟨g2, 0, none⟩) n2 c2)) rb e2 (some l2) rf' ∧
      (lf' ++ rf').Nodup ∧ (∀ x ∈ lf' ++ rf', w.heap.size ≤ x) ∧ Fr [] w ((w2.setCell ⟨lb, 3, none⟩ (.slice (some ⟨g1, 0, none⟩) n1 c1)).setCell ⟨rb, 3, none⟩ (.slice (some ⟨g2, 0, none⟩) n2 c2)) := by
  obtain ⟨lkv, lvv, hlb, hlm⟩ := hl.block
  obtain ⟨rkv, rvv, hrb, hrm⟩ := hr.block
  have hf2 : Fr [] wr w2 := hfr1.step hfr2
  have hnd' := List.nodup_append.1 hnd
  have hlr : lb ≠ rb := fun e => hnd'.2.2 lb hlm rb hrm e
  have ll : ∀ k ∈ lf, k < wr.heap.size := hl.lt
  have rl : ∀ k ∈ rf, k < wr.heap.size := hr.lt
  have g1l := hrow1.lt g1 (by simp)
  have g2l := hrow2.lt g2 (by simp)
  have z1 := hfr1.size
  have z0 := hwr.size
  have lbl := ll lb hlm
  have rbl := rl rb hrm
  have hg1 : g1 ≠ lb ∧ g1 ≠ rb := by omega
  have hg2 : g2 ≠ lb ∧ g2 ≠ rb := by omega
  have hkeep : ∀ k, k ≠ lb → k ≠ rb → ((w2.setCell ⟨lb, 3, none⟩ (.slice (some ⟨g1, 0, none⟩) n1 c1)).setCell ⟨rb, 3, none⟩ (.slice (some ⟨g2, 0, none⟩) n2 c2)).heap[k]? = w2.heap[k]? := fun k h1 h2 => by
    rw [heap_setCell_other _ _ _ _ h2, heap_setCell_other _ _ _ _ h1]
  refine ⟨lf ++ [g1], rf ++ [g2], ?_, ?_, ?_, ?_, ?_⟩
  · refine hl.give h1 (hrow1.keep (fun k hk => ?_)) (fun k hk hne => ?_) hnd'.1 (fun kv vv h => ?_)
    · rw [List.mem_singleton.1 hk, hkeep g1 hg1.1 hg1.2]
      exact hfr2.block g1 g1l (by simp)
    · rw [hkeep k hne (fun e => hnd'.2.2 k hk rb hrm e)]
      exact hf2.block k (ll k hk) (by simp)
    · rw [heap_setCell_other _ _ _ _ hlr]
      exact heap_setCell_same w2 lb 3 _ _ _ (hf2.at h (by simp))
  · refine hr.give h2 (hrow2.keep (fun k hk => ?_)) (fun k hk hne => ?_) hnd'.2.1 (fun kv vv h => ?_)
    · rw [List.mem_singleton.1 hk, hkeep g2 hg2.1 hg2.2]
    · rw [hkeep k (fun e => hnd'.2.2 lb hlm k hk e.symm) hne]
      exact hf2.block k (rl k hk) (by simp)
    · have h0 : (w2.setCell ⟨lb, 3, none⟩ (.slice (some ⟨g1, 0, none⟩) n1 c1)).heap[rb]? = some (.cells #[.int .u64 0, kv, vv, .slice none 0 0] 44 (0, 0)) := by
        rw [heap_setCell_other _ _ _ _ (Ne.symm hlr)]
        exact hf2.at h (by simp)
      exact heap_setCell_same _ rb 3 _ _ (.slice (some ⟨g2, 0, none⟩) n2 c2) h0
  · rw [List.nodup_append]
    refine ⟨?_, ?_, ?_⟩
    · rw [List.nodup_append]
      refine ⟨hnd'.1, by simp, fun x hx y hy e => ?_⟩
      have := ll x hx; simp at hy; omega
    · rw [List.nodup_append]
      refine ⟨hnd'.2.1, by simp, fun x hx y hy e => ?_⟩
      have := rl x hx; simp at hy; omega
    · intro x hx y hy e
      rw [List.mem_append, List.mem_singleton] at hx hy
      rcases hx with hx | hx
      · rcases hy with hy | hy
        · exact hnd'.2.2 x hx y hy e
        · have := ll x hx; omega
      · rcases hy with hy | hy
        · have := rl y hy; omega
        · omega
  · intro x hx
    simp only [List.mem_append, List.mem_singleton] at hx
    rcases hx with (hx | hx) | (hx | hx)
    · exact hge x (List.mem_append_left _ hx)
    · omega
    · exact hge x (List.mem_append_right _ hx)
    · omega
  · have glb : w.heap.size ≤ lb := hge lb (List.mem_append_left _ hlm)
    have grb : w.heap.size ≤ rb := hge rb (List.mem_append_right _ hrm)
    exact ((hwr.step hf2).setCell (.inr glb) _).setCell (.inr grb) _

/-- The end of split: what lies there behind the last store. -/
theorem split_end {w w6 w7 w9 : World} {nb ng nl nccap n i lb rb g1 c1 g2 c2 g3 c3 : Nat} {nkf nvf lf rf : List Nat} {e1 e2 : List KV} {o1 o2 : Option (List Nat)} {l1 l2 l3 : List Value} {vl : Value}
    (hF : Fr [] w w6) (hL : Node w6 lb e1 o1 lf) (hR : Node w6 rb e2 o2 rf) (hLR : (lf ++ rf).Nodup) (hGE : ∀ x ∈ lf ++ rf, w.heap.size ≤ x)
    (hnd : (nb :: (nkf ++ (nvf ++ [ng]))).Nodup) (hold : ∀ x ∈ nb :: (nkf ++ (nvf ++ [ng])), x < w.heap.size)
    (h7 : w7.heap[nb]? = some (.cells #[.int .u64 0, .slice (some ⟨g1, 0, none⟩) (n + 1) c1, .slice (some ⟨g2, 0, none⟩) (n + 1) c2, .slice (some ⟨ng, 0, none⟩) nl nccap] 44 (0, 0)))
    (r1 : SlRow w7 9 (.slice (some ⟨g1, 0, none⟩) (n + 1) c1) l1 [g1]) (r2 : SlRow w7 9 (.slice (some ⟨g2, 0, none⟩) (n + 1) c2) l2 [g2])
    (hg1 : g1 ∈ nkf ∨ w6.heap.size ≤ g1) (hg2 : g2 ∈ nvf ∨ w6.heap.size ≤ g2) (h12 : g1 ≠ g2) (h1n : g1 ≠ nb) (h2n : g2 ≠ nb) (hF7 : Fr (nb :: (nkf ++ nvf)) w6 w7)
    (r3 : SlRow w9 27 (.slice (some ⟨g3, 0, none⟩) (nl + 1) c3) l3 [g3]) (hg3 : g3 ∈ [ng] ∨ w7.heap.size + 1 ≤ g3) (hF9 : Fr [ng] ((w7.setCell ⟨ng, i, none⟩ vl).alloc (.cells #[ptr rb] 27)) w9) :
    ∃ lb' rb' lf' rf' g1' c1' g2' c2' g3' c3', lb' = lb ∧ rb' = rb ∧
      (w9.setCell ⟨nb, 3, none⟩ (.slice (some ⟨g3, 0, none⟩) (nl + 1) c3)).heap[nb]? = some (.cells #[.int .u64 0, .slice (some ⟨g1', 0, none⟩) (n + 1) c1', .slice (some ⟨g2', 0, none⟩) (n + 1) c2', .slice (some ⟨g3', 0, none⟩) (nl + 1) c3'] 44 (0, 0)) ∧
      SlRow (w9.setCell ⟨nb, 3, none⟩ (.slice (some ⟨g3, 0, none⟩) (nl + 1) c3)) 9 (.slice (some ⟨g1', 0, none⟩) (n + 1) c1') l1 [g1'] ∧ SlRow (w9.setCell ⟨nb, 3, none⟩ (.slice (some ⟨g3, 0, none⟩) (nl + 1) c3)) 9 (.slice (some ⟨g2', 0, none⟩) (n + 1) c2') l2 [g2'] ∧
      SlRow (w9.setCell ⟨nb, 3, none⟩ (.slice (some ⟨g3, 0, none⟩) (nl + 1) c3)) 27 (.slice (some ⟨g3', 0, none⟩) (nl + 1) c3') l3 [g3'] ∧
      (g1' ∈ nkf ∨ w.heap.size ≤ g1') ∧ (g2' ∈ nvf ∨ w.heap.size ≤ g2') ∧ (g3' = ng ∨ w.heap.size ≤ g3') ∧ (nb :: [g1', g2', g3'] ++ (lf' ++ rf')).Nodup ∧
      Node (w9.setCell ⟨nb, 3, none⟩ (.slice (some ⟨g3, 0, none⟩) (nl + 1) c3)) lb' e1 o1 lf' ∧ Node (w9.setCell ⟨nb, 3, none⟩ (.slice (some ⟨g3, 0, none⟩) (nl + 1) c3)) rb' e2 o2 rf' ∧ (∀ x ∈ lf' ++ rf', w.heap.size ≤ x) ∧
      Fr (nb :: (nkf ++ (nvf ++ [ng]))) w (w9.setCell ⟨nb, 3, none⟩ (.slice (some ⟨g3, 0, none⟩) (nl + 1) c3)) := by
  have z6 := hF.size
  have z7 := hF7.size
  have z9 : w7.heap.size + 1 ≤ w9.heap.size := by have := hF9.size; simp at this; omega
  have onb := hold nb (by simp)
  have ong := hold ng (by simp)
  have ok1 : ∀ x ∈ nkf, x < w.heap.size ∧ x ≠ ng ∧ x ≠ nb ∧ x ∉ nvf := fun x hx => by
    rw [List.nodup_cons, List.nodup_append] at hnd
    refine ⟨hold x (by simp [hx]), fun e => hnd.2.2.2 x hx ng (by simp) e, fun e => hnd.1 (by rw [← e]; simp [hx]), fun h => hnd.2.2.2 x hx x (by simp [h]) rfl⟩
  have ok2 : ∀ x ∈ nvf, x < w.heap.size ∧ x ≠ ng ∧ x ≠ nb := fun x hx => by
    rw [List.nodup_cons, List.nodup_append, List.nodup_append] at hnd
    refine ⟨hold x (by simp [hx]), fun e => hnd.2.2.1.2.2 x hx ng (by simp) e, fun e => hnd.1 (by rw [← e]; simp [hx])⟩
  have hngnb : ng ≠ nb := fun e => by rw [List.nodup_cons] at hnd; exact hnd.1 (by rw [← e]; simp)
  have l1' := r1.lt g1 (by simp)
  have l2' := r2.lt g2 (by simp)
  have l3' := r3.lt g3 (by simp)
  have h1g : g1 ≠ ng := by
    rcases hg1 with h | h
    · exact (ok1 g1 h).2.1
    · omega
  have h2g : g2 ≠ ng := by
    rcases hg2 with h | h
    · exact (ok2 g2 h).2.1
    · omega
  have h3n : g3 ≠ nb := by
    rcases hg3 with h | h
    · rw [List.mem_singleton.1 h]; exact hngnb
    · omega
  have h13 : g1 ≠ g3 := by
    rcases hg3 with h | h
    · rw [List.mem_singleton.1 h]; exact h1g
    · omega
  have h23 : g2 ≠ g3 := by
    rcases hg3 with h | h
    · rw [List.mem_singleton.1 h]; exact h2g
    · omega
  -- a block of w7 that is neither nb nor ng
  have kp : ∀ k, k < w7.heap.size → k ≠ ng → k ≠ nb → (w9.setCell ⟨nb, 3, none⟩ (.slice (some ⟨g3, 0, none⟩) (nl + 1) c3)).heap[k]? = w7.heap[k]? := fun k hk h1 h2 => by
    rw [heap_setCell_other _ _ _ _ h2, hF9.block k (by simp; omega) (by simpa using h1), Below.heap_alloc _ _ _ (by simpa using hk), heap_setCell_other _ _ _ _ h1]
  have kl : ∀ k ∈ lf ++ rf, (w9.setCell ⟨nb, 3, none⟩ (.slice (some ⟨g3, 0, none⟩) (nl + 1) c3)).heap[k]? = w6.heap[k]? := fun k hk => by
    have hge := hGE k hk
    have hlt : k < w6.heap.size := by rcases List.mem_append.1 hk with h | h; exact hL.lt k h; exact hR.lt k h
    rw [kp k (by omega) (by omega) (by omega)]
    refine hF7.block k hlt (fun hx => ?_)
    have := hold k (by rcases List.mem_cons.1 hx with h | h; simp [h]; rcases List.mem_append.1 h with h | h <;> simp [h])
    omega
  refine ⟨lb, rb, lf, rf, g1, c1, g2, c2, g3, c3, rfl, rfl, ?_, ?_, ?_, ?_, ?_, ?_, ?_, ?_, ?_, ?_, hGE, ?_⟩
  · have h9 : w9.heap[nb]? = some (.cells #[.int .u64 0, .slice (some ⟨g1, 0, none⟩) (n + 1) c1, .slice (some ⟨g2, 0, none⟩) (n + 1) c2, .slice (some ⟨ng, 0, none⟩) nl nccap] 44 (0, 0)) := by
      rw [hF9.block nb (by simp; omega) (by simpa using Ne.symm hngnb), Below.heap_alloc _ _ _ (by simp; omega), heap_setCell_other _ _ _ _ (Ne.symm hngnb)]
      exact h7
    exact heap_setCell_same w9 nb 3 _ _ (.slice (some ⟨g3, 0, none⟩) (nl + 1) c3) h9
  · exact r1.keep (fun k hk => by rw [List.mem_singleton.1 hk]; exact kp g1 l1' h1g h1n)
  · exact r2.keep (fun k hk => by rw [List.mem_singleton.1 hk]; exact kp g2 l2' h2g h2n)
  · exact r3.keep (fun k hk => by rw [List.mem_singleton.1 hk]; exact heap_setCell_other _ _ _ _ h3n)
  · rcases hg1 with h | h
    · exact .inl h
    · exact .inr (by omega)
  · rcases hg2 with h | h
    · exact .inl h
    · exact .inr (by omega)
  · rcases hg3 with h | h
    · exact .inl (by simpa using h)
    · exact .inr (by omega)
  · have hx1 : g1 ∉ lf ++ rf := fun hx => by
      have hge := hGE g1 hx
      have hlt : g1 < w6.heap.size := by rcases List.mem_append.1 hx with h | h; exact hL.lt _ h; exact hR.lt _ h
      rcases hg1 with h | h
      · have := (ok1 g1 h).1; omega
      · omega
    have hx2 : g2 ∉ lf ++ rf := fun hx => by
      have hge := hGE g2 hx
      have hlt : g2 < w6.heap.size := by rcases List.mem_append.1 hx with h | h; exact hL.lt _ h; exact hR.lt _ h
      rcases hg2 with h | h
      · have := (ok2 g2 h).1; omega
      · omega
    have hx3 : g3 ∉ lf ++ rf := fun hx => by
      have hge := hGE g3 hx
      have hlt : g3 < w6.heap.size := by rcases List.mem_append.1 hx with h | h; exact hL.lt _ h; exact hR.lt _ h
      rcases hg3 with h | h
      · rw [List.mem_singleton.1 h] at hge; omega
      · omega
    have hxn : nb ∉ lf ++ rf := fun hx => by have := hGE nb hx; omega
    show (nb :: g1 :: g2 :: g3 :: (lf ++ rf)).Nodup
    refine List.nodup_cons.2 ⟨?_, List.nodup_cons.2 ⟨?_, List.nodup_cons.2 ⟨?_, List.nodup_cons.2 ⟨hx3, hLR⟩⟩⟩⟩
    · simp only [List.mem_cons, not_or]; exact ⟨Ne.symm h1n, Ne.symm h2n, Ne.symm h3n, hxn⟩
    · simp only [List.mem_cons, not_or]; exact ⟨h12, h13, hx1⟩
    · simp only [List.mem_cons, not_or]; exact ⟨h23, hx2⟩
  · exact hL.keep (fun k hk => kl k (List.mem_append_left _ hk))
  · exact hR.keep (fun k hk => kl k (List.mem_append_right _ hk))
  · have f7 : Fr (nb :: (nkf ++ (nvf ++ [ng]))) w w7 := (hF.mono (by simp)).step (hF7.mono (fun x hx => by
      rcases List.mem_cons.1 hx with h | h
      · simp [h]
      · rcases List.mem_append.1 h with h | h <;> simp [h]))
    exact (((f7.setCell (p := ⟨ng, i, none⟩) (.inl (by simp)) vl).alloc _).step (hF9.mono (by simp))).setCell (.inl (by simp)) _


end Go.Proofs.Qxb6600882a
