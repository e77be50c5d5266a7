/-
  slices.Insert(s, i, x) with no room, and the three roads in one contract, at []string and []*node.
-/
import Derived.Test.Qxb6600882aInsA
namespace Go.Proofs.Qxb6600882a
open Go.RowKit Go.Lib
set_option linter.unusedVariables false
set_option linter.unusedSimpArgs false

/-- A block's cells behind a store of several. -/
def putAt (c : Array Value) : Nat → List Value → Array Value
  | _, [] => c
  | o, v :: r => putAt (c.setIfInBounds o v) (o + 1) r

theorem heap_setCells_same (b : Nat) (t : TypeId) : ∀ (vs : List Value) (o : Nat) (w : World) (c : Array Value), w.heap[b]? = some (.cells c t (0, 0)) → (w.setCells b o vs).heap[b]? = some (.cells (putAt c o vs) t (0, 0))
  | [], _, _, _, h => h
  | v :: r, o, w, c, h => heap_setCells_same b t r (o + 1) (w.setCell ⟨b, o, none⟩ v) (c.setIfInBounds o v) (heap_setCell_same w b o c t v h)

theorem heap_setCells_other (b k : Nat) (hk : k ≠ b) : ∀ (vs : List Value) (o : Nat) (w : World), (w.setCells b o vs).heap[k]? = w.heap[k]?
  | [], _, _ => rfl
  | v :: r, o, w => (heap_setCells_other b k hk r (o + 1) (w.setCell ⟨b, o, none⟩ v)).trans (heap_setCell_other w ⟨b, o, none⟩ k v hk)

theorem size_setCells (b : Nat) : ∀ (vs : List Value) (o : Nat) (w : World), (w.setCells b o vs).heap.size = w.heap.size
  | [], _, _ => rfl
  | v :: r, o, w => (size_setCells b r (o + 1) (w.setCell ⟨b, o, none⟩ v)).trans (by simp)

theorem Fr.setCells {S : List Nat} {a w : World} (h : Fr S a w) {b : Nat} (hb : b ∈ S ∨ a.heap.size ≤ b) : ∀ (vs : List Value) (o : Nat), Fr S a (w.setCells b o vs) := by
  intro vs
  induction vs generalizing w with
  | nil => intro o; exact h
  | cons v r ih => intro o; exact ih (h.setCell (p := ⟨b, o, none⟩) hb v) (o + 1)

theorem size_putAt : ∀ (vs : List Value) (o : Nat) (c : Array Value), (putAt c o vs).size = c.size
  | [], _, _ => rfl
  | v :: r, o, c => (size_putAt r (o + 1) (c.setIfInBounds o v)).trans (by simp)

theorem getElem?_putAt : ∀ (vs : List Value) (o : Nat) (c : Array Value) (j : Nat), o + vs.length ≤ c.size → (putAt c o vs)[j]? = if o ≤ j ∧ j < o + vs.length then vs[j - o]? else c[j]?
  | [], o, c, j, h => by simp [putAt]; intro h1 h2; omega
  | v :: r, o, c, j, h => by
    have hl : o + 1 + r.length ≤ c.size := by simp at h; omega
    rw [putAt, getElem?_putAt r (o + 1) (c.setIfInBounds o v) j (by simpa using hl)]
    simp only [List.length_cons]
    by_cases h1 : o + 1 ≤ j ∧ j < o + 1 + r.length
    · rw [if_pos h1, if_pos (by omega), show j - o = (j - (o + 1)) + 1 by omega, List.getElem?_cons_succ]
    · rw [if_neg h1]
      by_cases h2 : j = o
      · subst h2
        rw [if_pos (by omega)]
        simp [show j < c.size by omega]
      · rw [if_neg (by omega), Array.getElem?_setIfInBounds_ne (by omega)]

/-- The list with x put in at i. -/
abbrev putIn (xs : List Value) (i : Nat) (x : Value) : List Value := xs.take i ++ x :: xs.drop i

theorem getElem?_putIn (xs : List Value) (i : Nat) (x : Value) (hi : i ≤ xs.length) (j : Nat) : (putIn xs i x)[j]? = if j < i then xs[j]? else if j = i then some x else xs[j - 1]? := by
  have hl : (xs.take i).length = i := by simp; omega
  by_cases h1 : j < i
  · rw [if_pos h1, List.getElem?_append_left (by omega), List.getElem?_take, if_pos h1]
  · rw [if_neg h1, List.getElem?_append_right (by omega), hl]
    by_cases h2 : j = i
    · subst h2; simp
    · rw [if_neg h2, show j - i = (j - i - 1) + 1 by omega, List.getElem?_cons_succ, List.getElem?_drop]
      congr 1; omega

theorem putIn_row (cur : Array Value) (xs : List Value) (i : Nat) (x : Value) (hi : i ≤ xs.length)
    (hget : ∀ j, j < xs.length + 1 → cur[j]? = if j < i then xs[j]? else if j = i then some x else xs[j - 1]?) : cur.toList.take (putIn xs i x).length = putIn xs i x := by
  have hl : (putIn xs i x).length = xs.length + 1 := by simp; omega
  apply List.ext_getElem?
  intro j
  rw [List.getElem?_take, hl]
  by_cases hj : j < xs.length + 1
  · rw [if_pos hj, getElem?_putIn xs i x hi]
    have := hget j hj
    simpa using this
  · rw [if_neg hj, List.getElem?_eq_none (by omega)]

set_option maxHeartbeats 4000000 in
set_option maxRecDepth 100000 in
/-- i < len(s), no room: a new row. -/
theorem insGrowS (b n c i vb vc : Nat) (cs : List Value) (x : Value) (w : World) (hi : i < n) (hnc : n ≤ c) (hroom : c < n + 1) (hbig : n ≤ 1000000) (hcl : cs.length = n)
    (hcs : ∀ j v, cs[j]? = some v → w.cell? ⟨b, j, none⟩ = some v) (hvx : w.cell? ⟨vb, 0, none⟩ = some x) (h1c : ∀ v ∈ cs, v.oneCell' = true) (h1v : x.oneCell' = true) :
    Calls Try.prog 23 #[.slice (some ⟨b, 0, none⟩) n c, .int .i64 i, .slice (some ⟨vb, 0, none⟩) 1 vc] w fun e w' =>
      e = .returned (.slice (some ⟨w.heap.size, 0, none⟩) (n + 1) (grownCap w (n + 1) c 9)) ∧
      w' = (((w.alloc (.cells ((cs.take i).toArray ++ Builtin.zeroCells (Value.string ⟨#[]⟩).cells (n + 1 - i) ++ Builtin.zeroCells (Value.string ⟨#[]⟩).cells (grownCap w (n + 1) c 9 - (n + 1))) 9)).drew.setCells w.heap.size i [x]).drew).setCells w.heap.size (i + 1) (cs.drop i) := by
  obtain ⟨i0, hi0, hz0, hzs, hzb⟩ := info_parts info9
  have hz2 : ¬ ((i : Int) = (n : Int)) := by omega
  have hz3 : (c : Int) < (n : Int) + 1 := by omega
  have hsz : (Try.prog.info? 9).map (·.size) = some 1 := by rw [hi0]; simp [hzs]
  have hvs : ∀ j v, [x][j]? = some v → w.cell? ⟨vb, j, none⟩ = some v := fun j v hj => by
    cases j with
    | zero => simp at hj; rw [← hj]; exact hvx
    | succ j => simp at hj
  have hbw : b < w.heap.size := block_lt_of_cell (hcs 0 _ (List.getElem?_eq_getElem (by omega)))
  have hvw : vb < w.heap.size := block_lt_of_cell hvx
  have hkk : (n : Int) + 1 - (i : Int) = ((n + 1 - i : Nat) : Int) := by omega
  have hik : i + (n + 1 - i) = n + 1 := by omega
  have hold : (Builtin.firstCells i0.size i (.slice (some ⟨b, 0, none⟩) i c)).run Try.prog w.drew = .ok (cs.take i).toArray w.drew := by
    rw [hzs]
    exact run_firstCells_some w.drew 1 i ⟨b, 0, none⟩ i c (cs.take i) (by rw [List.length_take]; omega) (fun j v hj => by
      rw [Addr.add_lit, Nat.zero_add]
      rw [List.getElem?_take] at hj
      split at hj
      · exact hcs j v hj
      · cases hj)
  have hrz : ∀ ty, (Builtin.append_ #[22, 3] ty #[.slice (some ⟨b, 0, none⟩) i c, .int .i64 ((n : Int) + 1 - (i : Int))]).run Try.prog w =
      .ok (.slice (some ⟨w.heap.size, 0, none⟩) (n + 1) (grownCap w (n + 1) c 9)) (w.drew.alloc (.cells ((cs.take i).toArray ++ Builtin.zeroCells (Value.string ⟨#[]⟩).cells (n + 1 - i) ++ Builtin.zeroCells (Value.string ⟨#[]⟩).cells (grownCap w (n + 1) c 9 - (n + 1))) 9)) := fun ty => by
    have h := Lib.run_append_grow_zeros w 22 3 ty 9 i0 _ .i64 .i64 Try.underlying22 Try.underlying3 hi0 hz0 (some ⟨b, 0, none⟩) i c (cs.take i) hold (n + 1 - i) (by omega) (by omega) (by omega) (by omega) (by rw [hzb]; omega) (by rw [hzb, hik]; exact growslice_fits hroom (by omega))
    rw [hik] at h
    rw [hkk]
    exact h
  obtain ⟨G, hG⟩ : ∃ G, G = grownCap w (n + 1) c 9 := ⟨_, rfl⟩
  obtain ⟨ROW, hROW⟩ : ∃ ROW : Array Value, ROW = (cs.take i).toArray ++ Builtin.zeroCells (Value.string ⟨#[]⟩).cells (n + 1 - i) ++ Builtin.zeroCells (Value.string ⟨#[]⟩).cells (G - (n + 1)) := ⟨_, rfl⟩
  rw [← hG] at hrz ⊢
  rw [← hROW] at hrz ⊢
  have hRl : n + 1 ≤ ROW.size := by
    rw [hROW]
    simp [Builtin.zeroCells, Value.cells]
    omega
  obtain ⟨W1, hW1⟩ : ∃ W1, W1 = w.drew.alloc (.cells ROW 9) := ⟨_, rfl⟩
  rw [← hW1] at hrz
  have hN : ∀ j, j < n + 1 → (W1.cell? ⟨w.heap.size, j, none⟩).isSome = true := fun j hj => by
    rw [hW1, World.cell?_alloc_at (w := w.drew) ROW _ w.heap.size j rfl, Array.getElem?_eq_getElem (by omega)]; rfl
  have hNf : ∀ j, W1.frozen? ⟨w.heap.size, j, none⟩ = false := fun j => by rw [hW1]; exact World.frozen?_alloc_at (w := w.drew) ROW _ w.heap.size j rfl
  have hOb : ∀ j v, w.cell? ⟨b, j, none⟩ = some v → W1.cell? ⟨b, j, none⟩ = some v := fun j v h => by rw [hW1, World.cell?_alloc_past (w := w.drew) _ b j hbw]; exact h
  have hOv : ∀ j v, w.cell? ⟨vb, j, none⟩ = some v → W1.cell? ⟨vb, j, none⟩ = some v := fun j v h => by rw [hW1, World.cell?_alloc_past (w := w.drew) _ vb j hvw]; exact h
  have hcpA : ∀ (W : World), (∀ x, W.cell? x = W1.cell? x) → (∀ x, W.frozen? x = W1.frozen? x) → ∀ ty dc, (Builtin.copy_ #[22, 22] ty #[.slice (some ⟨w.heap.size, i, none⟩) (n + 1 - i) dc, .slice (some ⟨vb, 0, none⟩) 1 vc]).run Try.prog W = .ok (goInt [x].length) (W.setCells w.heap.size i [x]) := fun W hWc hWf ty dc =>
    run_copy_cells W _ _ ty 9 w.heap.size i (n + 1 - i) dc ⟨vb, 0, none⟩ 1 vc [x] Try.underlying22 hsz (by simp only [List.length_singleton, Nat.min_def]; split <;> omega)
      (fun j v hj => by rw [Addr.add_lit, hWc, Nat.zero_add]; exact hOv _ v (hvs j v hj))
      (fun j hj => by rw [hWc]; exact hN _ (by simp at hj; omega)) (fun j hj => by rw [hWf]; exact hNf _) (fun v hv => by rw [List.mem_singleton.1 hv]; exact h1v)
  have hGn : n + 1 ≤ G := by rw [hG]; exact grownCap_ge w _ _ _
  have hG63 : G ≤ 9223372036854775807 := by
    have := grownCap_le_maxLen w (n + 1) c 9 (by unfold maxLen; omega)
    rw [← hG] at this
    unfold maxLen at this
    omega
  have hGi : ¬ (G = i) := by omega
  have hGim : ¬ (G = i + 1) := by omega
  have hci : ¬ (c = i) := by omega
  have hbN : b ≠ w.heap.size := by omega
  have hdl : (cs.drop i).length = n - i := by rw [List.length_drop, hcl]
  have hcpB : ∀ (W : World), (∀ y, W.cell? y = (W1.setCells w.heap.size i [x]).cell? y) → (∀ y, W.frozen? y = (W1.setCells w.heap.size i [x]).frozen? y) → ∀ ty dc sc, (Builtin.copy_ #[22, 22] ty #[.slice (some ⟨w.heap.size, i + 1, none⟩) (n - i) dc, .slice (some ⟨b, i, none⟩) (n - i) sc]).run Try.prog W = .ok (goInt (cs.drop i).length) (W.setCells w.heap.size (i + 1) (cs.drop i)) := fun W hWc hWf ty dc sc =>
    run_copy_cells W _ _ ty 9 w.heap.size (i + 1) (n - i) dc ⟨b, i, none⟩ (n - i) sc (cs.drop i) Try.underlying22 hsz (by rw [hdl]; simp only [Nat.min_def]; split <;> omega)
      (fun j v hj => by
        rw [Addr.add_lit, hWc, World.cell?_setCells_out _ _ _ _ _ (fun h _ => absurd h hbN)]
        exact hOb _ v (hcs (i + j) v (by rwa [List.getElem?_drop] at hj)))
      (fun j hj => by rw [hWc]; exact isSome_setCells w.heap.size [x] i W1 (fun t ht => hN _ (by simp at ht; omega)) _ (hN _ (by omega)))
      (fun j hj => by rw [hWf, World.frozen?_setCells]; exact hNf _) (fun v hv => h1c v (List.mem_of_mem_drop hv))
  subst hW1
  have hE1 : ∀ x, ((w.alloc (.cells ROW 9)).drew).cell? x = (w.drew.alloc (.cells ROW 9)).cell? x := fun x => rfl
  have hE2 : ∀ x, ((w.alloc (.cells ROW 9)).drew).frozen? x = (w.drew.alloc (.cells ROW 9)).frozen? x := fun x => rfl
  have hF1 : ∀ y, (((w.alloc (.cells ROW 9)).drew.setCells w.heap.size i [x]).drew).cell? y = ((w.drew.alloc (.cells ROW 9)).setCells w.heap.size i [x]).cell? y := fun x => rfl
  have hF2 : ∀ y, (((w.alloc (.cells ROW 9)).drew.setCells w.heap.size i [x]).drew).frozen? y = ((w.drew.alloc (.cells ROW 9)).setCells w.heap.size i [x]).frozen? y := fun x => rfl
  have hw1 : IntKind.i64.wrap ((i : Int) + 1) = (i : Int) + 1 := by rw [IntKind.wrap_i64]; omega
  have hb1 : (0 : Int) ≤ (i : Int) + 1 := by omega
  have hin : i ≤ n := by omega
  have htn : ((i : Int) + 1).toNat = i + 1 := by omega
  have hb3 : (i : Int) ≤ (n : Int) := by omega
  clear hkk hik hold hROW hG hRl hN hNf hOb hOv hvs hvx hcs
  go_enter Try.func23, Try.ntmps23
  go_wp2_with (first
    | (at_builtin; refine Lib.wpList_append_run _ rfl _ _ _ _ rfl _ _ rfl rfl _ _ (hrz _) ?_)
    | (at_builtin; refine wpList_copy_runI _ rfl _ _ 22 22 rfl _ _ rfl rfl (hcpA _ hE1 hE2 _ _) ?_)
    | (at_builtin; refine wpList_copy_runI _ rfl _ _ 22 22 rfl _ _ rfl rfl (hcpB _ (fun _ => rfl) (fun _ => rfl) _ _ _) ?_))
  go_region_law (refine step_copy_runI rfl _ _ 22 22 rfl (.slice (some ⟨w.heap.size, i + 1, none⟩) (n - i) (G - (i + 1))) (.slice (some ⟨b, i, none⟩) (n - i) (c - i)) (by simp [Act.eval, Act.put]) (by simp [Act.eval, Act.put]) (hcpB _ hF1 hF2 3 (G - (i + 1)) (c - i)) ?_)
  go_wp2
  go_ret
  exact ⟨rfl, rfl⟩

/-- slices.Insert(s, i, x): whatever the road. -/
theorem insS (v : Value) (i vb vc : Nat) (xs : List Value) (x : Value) (fp : List Nat) (w : World) (hrow : SlRow w 9 v xs fp) (hi : i ≤ xs.length) (hsm : xs.length ≤ 1000000)
    (hv : w.heap[vb]? = some (.cells #[x] 9 (0, 0))) (hvf : vb ∉ fp) (h1c : ∀ v ∈ xs, v.oneCell' = true) (h1v : x.oneCell' = true) :
    Calls Try.prog 23 #[v, .int .i64 i, .slice (some ⟨vb, 0, none⟩) 1 vc] w fun e w' =>
      ∃ g cap, e = .returned (.slice (some ⟨g, 0, none⟩) (xs.length + 1) cap) ∧ SlRow w' 9 (.slice (some ⟨g, 0, none⟩) (xs.length + 1) cap) (putIn xs i x) [g] ∧ (g ∈ fp ∨ w.heap.size ≤ g) ∧ Fr fp w w' := by
  by_cases hin : i = xs.length
  · subst hin
    refine (insEndS v xs.length vb vc xs x fp w hrow rfl hsm hv h1v).mono ?_
    rintro e w' ⟨g, cap, h1, h2, h3, h4⟩
    refine ⟨g, cap, h1, ?_, h3, h4⟩
    simpa [putIn] using h2
  · have hlt : i < xs.length := by omega
    obtain ⟨b, c, cur, rfl, hb, hnc, hcm, hcs, htk, rfl⟩ := hrow.form (by intro h; simp [h] at hlt)
    have hcell : ∀ j v, xs[j]? = some v → w.cell? ⟨b, j, none⟩ = some v := fun j v hj => hrow.cell j v hj
    have hcur : ∀ j, j < xs.length → cur[j]? = xs[j]? := fun j hj => by
      have h0 := hcell j _ (List.getElem?_eq_getElem hj)
      rw [cell_of_row w b j _ _ _ hb] at h0
      rw [h0, List.getElem?_eq_getElem hj]
    have hl : (putIn xs i x).length = xs.length + 1 := by simp; omega
    have hdl : (xs.drop i).length = xs.length - i := by simp
    by_cases hroom : xs.length + 1 ≤ c
    · refine (insShiftS b xs.length c i vb vc xs x w hlt hroom (by simpa [maxLen] using hcm) (by simpa using hvf) rfl cur hb hcs hcell hv h1c h1v).mono ?_
      rintro e w' ⟨h1, rfl⟩
      refine ⟨b, c, h1, ?_, .inl (by simp), ((Fr.refl [b] w).drew.setCells (.inl (by simp)) _ _).setCells (.inl (by simp)) _ _⟩
      have hh := heap_setCells_same b 9 [x] i _ _ (heap_setCells_same b 9 (xs.drop i) (i + 1) w.drew cur hb)
      refine .inr ⟨b, c, _, by rw [hl], hh, by omega, hcm, by rw [size_putAt, size_putAt, hcs], ?_, rfl⟩
      refine putIn_row _ xs i x hi (fun j hj => ?_)
      rw [getElem?_putAt _ _ _ _ (by rw [size_putAt]; simp; omega), getElem?_putAt _ _ _ _ (by rw [hdl]; omega)]
      simp only [List.length_singleton, hdl]
      by_cases h1 : j < i
      · rw [if_neg (by omega), if_neg (by omega), if_pos h1, hcur j (by omega)]
      · by_cases h2 : j = i
        · subst h2; rw [if_pos (by omega), if_neg h1, if_pos rfl]; simp
        · rw [if_neg (by omega), if_pos (by omega), if_neg h1, if_neg h2, List.getElem?_drop]
          congr 1; omega
    · refine (insGrowS b xs.length c i vb vc xs x w hlt hnc (by omega) hsm rfl hcell (by rw [cell_of_row w vb 0 _ _ _ hv]; rfl) h1c h1v).mono ?_
      rintro e w' ⟨h1, rfl⟩
      have hge := grownCap_ge w (xs.length + 1) c 9
      have hle := grownCap_le_maxLen w (xs.length + 1) c 9 (by unfold maxLen; omega)
      generalize grownCap w (xs.length + 1) c 9 = G at *
      refine ⟨w.heap.size, G, h1, ?_, .inr (Nat.le_refl _), (((((Fr.refl [b] w).alloc _).drew.setCells (.inr (Nat.le_refl _)) _ _).drew).setCells (.inr (Nat.le_refl _)) _ _)⟩
      obtain ⟨ROW, hROW⟩ : ∃ ROW : Array Value, ROW = (xs.take i).toArray ++ Builtin.zeroCells (Value.string ⟨#[]⟩).cells (xs.length + 1 - i) ++ Builtin.zeroCells (Value.string ⟨#[]⟩).cells (G - (xs.length + 1)) := ⟨_, rfl⟩
      have hRs : ROW.size = G := by
        rw [hROW]
        simp [Builtin.zeroCells, Value.cells]
        omega
      have hRg : ∀ j, j < i → ROW[j]? = xs[j]? := fun j hj => by
        rw [hROW, Array.append_assoc, Array.getElem?_append_left (by simp; omega)]
        simp [List.getElem?_take, hj]
      rw [← hROW]
      have hh := heap_setCells_same w.heap.size 9 (xs.drop i) (i + 1) _ _ (show (((w.alloc (.cells ROW 9)).drew.setCells w.heap.size i [x]).drew).heap[w.heap.size]? = _ from heap_setCells_same w.heap.size 9 [x] i (w.alloc (.cells ROW 9)).drew ROW (heap_alloc_new w (.cells ROW 9)))
      refine .inr ⟨w.heap.size, G, _, by rw [hl], hh, by omega, hle, by rw [size_putAt, size_putAt, hRs], ?_, rfl⟩
      refine putIn_row _ xs i x hi (fun j hj => ?_)
      rw [getElem?_putAt _ _ _ _ (by rw [size_putAt, hdl]; omega), getElem?_putAt _ _ _ _ (by simp; omega)]
      simp only [List.length_singleton, hdl]
      by_cases h1 : j < i
      · rw [if_neg (by omega), if_neg (by omega), if_pos h1, hRg j h1]
      · by_cases h2 : j = i
        · subst h2; rw [if_neg (by omega), if_pos (by omega), if_neg h1, if_pos rfl]; simp
        · rw [if_pos (by omega), if_neg h1, if_neg h2, List.getElem?_drop]
          congr 1; omega

set_option maxHeartbeats 4000000 in
set_option maxRecDepth 100000 in
/-- i < len(s), no room: a new row. -/
theorem insGrowN (b n c i vb vc : Nat) (cs : List Value) (x : Value) (w : World) (hi : i < n) (hnc : n ≤ c) (hroom : c < n + 1) (hbig : n ≤ 1000000) (hcl : cs.length = n)
    (hcs : ∀ j v, cs[j]? = some v → w.cell? ⟨b, j, none⟩ = some v) (hvx : w.cell? ⟨vb, 0, none⟩ = some x) (h1c : ∀ v ∈ cs, v.oneCell' = true) (h1v : x.oneCell' = true) :
    Calls Try.prog 27 #[.slice (some ⟨b, 0, none⟩) n c, .int .i64 i, .slice (some ⟨vb, 0, none⟩) 1 vc] w fun e w' =>
      e = .returned (.slice (some ⟨w.heap.size, 0, none⟩) (n + 1) (grownCap w (n + 1) c 27)) ∧
      w' = (((w.alloc (.cells ((cs.take i).toArray ++ Builtin.zeroCells (Value.pointer none).cells (n + 1 - i) ++ Builtin.zeroCells (Value.pointer none).cells (grownCap w (n + 1) c 27 - (n + 1))) 27)).drew.setCells w.heap.size i [x]).drew).setCells w.heap.size (i + 1) (cs.drop i) := by
  obtain ⟨i0, hi0, hz0, hzs, hzb⟩ := info_parts info27
  have hz2 : ¬ ((i : Int) = (n : Int)) := by omega
  have hz3 : (c : Int) < (n : Int) + 1 := by omega
  have hsz : (Try.prog.info? 27).map (·.size) = some 1 := by rw [hi0]; simp [hzs]
  have hvs : ∀ j v, [x][j]? = some v → w.cell? ⟨vb, j, none⟩ = some v := fun j v hj => by
    cases j with
    | zero => simp at hj; rw [← hj]; exact hvx
    | succ j => simp at hj
  have hbw : b < w.heap.size := block_lt_of_cell (hcs 0 _ (List.getElem?_eq_getElem (by omega)))
  have hvw : vb < w.heap.size := block_lt_of_cell hvx
  have hkk : (n : Int) + 1 - (i : Int) = ((n + 1 - i : Nat) : Int) := by omega
  have hik : i + (n + 1 - i) = n + 1 := by omega
  have hold : (Builtin.firstCells i0.size i (.slice (some ⟨b, 0, none⟩) i c)).run Try.prog w.drew = .ok (cs.take i).toArray w.drew := by
    rw [hzs]
    exact run_firstCells_some w.drew 1 i ⟨b, 0, none⟩ i c (cs.take i) (by rw [List.length_take]; omega) (fun j v hj => by
      rw [Addr.add_lit, Nat.zero_add]
      rw [List.getElem?_take] at hj
      split at hj
      · exact hcs j v hj
      · cases hj)
  have hrz : ∀ ty, (Builtin.append_ #[42, 3] ty #[.slice (some ⟨b, 0, none⟩) i c, .int .i64 ((n : Int) + 1 - (i : Int))]).run Try.prog w =
      .ok (.slice (some ⟨w.heap.size, 0, none⟩) (n + 1) (grownCap w (n + 1) c 27)) (w.drew.alloc (.cells ((cs.take i).toArray ++ Builtin.zeroCells (Value.pointer none).cells (n + 1 - i) ++ Builtin.zeroCells (Value.pointer none).cells (grownCap w (n + 1) c 27 - (n + 1))) 27)) := fun ty => by
    have h := Lib.run_append_grow_zeros w 42 3 ty 27 i0 _ .i64 .i64 Try.underlying42 Try.underlying3 hi0 hz0 (some ⟨b, 0, none⟩) i c (cs.take i) hold (n + 1 - i) (by omega) (by omega) (by omega) (by omega) (by rw [hzb]; omega) (by rw [hzb, hik]; exact growslice_fits hroom (by omega))
    rw [hik] at h
    rw [hkk]
    exact h
  obtain ⟨G, hG⟩ : ∃ G, G = grownCap w (n + 1) c 27 := ⟨_, rfl⟩
  obtain ⟨ROW, hROW⟩ : ∃ ROW : Array Value, ROW = (cs.take i).toArray ++ Builtin.zeroCells (Value.pointer none).cells (n + 1 - i) ++ Builtin.zeroCells (Value.pointer none).cells (G - (n + 1)) := ⟨_, rfl⟩
  rw [← hG] at hrz ⊢
  rw [← hROW] at hrz ⊢
  have hRl : n + 1 ≤ ROW.size := by
    rw [hROW]
    simp [Builtin.zeroCells, Value.cells]
    omega
  obtain ⟨W1, hW1⟩ : ∃ W1, W1 = w.drew.alloc (.cells ROW 27) := ⟨_, rfl⟩
  rw [← hW1] at hrz
  have hN : ∀ j, j < n + 1 → (W1.cell? ⟨w.heap.size, j, none⟩).isSome = true := fun j hj => by
    rw [hW1, World.cell?_alloc_at (w := w.drew) ROW _ w.heap.size j rfl, Array.getElem?_eq_getElem (by omega)]; rfl
  have hNf : ∀ j, W1.frozen? ⟨w.heap.size, j, none⟩ = false := fun j => by rw [hW1]; exact World.frozen?_alloc_at (w := w.drew) ROW _ w.heap.size j rfl
  have hOb : ∀ j v, w.cell? ⟨b, j, none⟩ = some v → W1.cell? ⟨b, j, none⟩ = some v := fun j v h => by rw [hW1, World.cell?_alloc_past (w := w.drew) _ b j hbw]; exact h
  have hOv : ∀ j v, w.cell? ⟨vb, j, none⟩ = some v → W1.cell? ⟨vb, j, none⟩ = some v := fun j v h => by rw [hW1, World.cell?_alloc_past (w := w.drew) _ vb j hvw]; exact h
  have hcpA : ∀ (W : World), (∀ x, W.cell? x = W1.cell? x) → (∀ x, W.frozen? x = W1.frozen? x) → ∀ ty dc, (Builtin.copy_ #[42, 42] ty #[.slice (some ⟨w.heap.size, i, none⟩) (n + 1 - i) dc, .slice (some ⟨vb, 0, none⟩) 1 vc]).run Try.prog W = .ok (goInt [x].length) (W.setCells w.heap.size i [x]) := fun W hWc hWf ty dc =>
    run_copy_cells W _ _ ty 27 w.heap.size i (n + 1 - i) dc ⟨vb, 0, none⟩ 1 vc [x] Try.underlying42 hsz (by simp only [List.length_singleton, Nat.min_def]; split <;> omega)
      (fun j v hj => by rw [Addr.add_lit, hWc, Nat.zero_add]; exact hOv _ v (hvs j v hj))
      (fun j hj => by rw [hWc]; exact hN _ (by simp at hj; omega)) (fun j hj => by rw [hWf]; exact hNf _) (fun v hv => by rw [List.mem_singleton.1 hv]; exact h1v)
  have hGn : n + 1 ≤ G := by rw [hG]; exact grownCap_ge w _ _ _
  have hG63 : G ≤ 9223372036854775807 := by
    have := grownCap_le_maxLen w (n + 1) c 27 (by unfold maxLen; omega)
    rw [← hG] at this
    unfold maxLen at this
    omega
  have hGi : ¬ (G = i) := by omega
  have hGim : ¬ (G = i + 1) := by omega
  have hci : ¬ (c = i) := by omega
  have hbN : b ≠ w.heap.size := by omega
  have hdl : (cs.drop i).length = n - i := by rw [List.length_drop, hcl]
  have hcpB : ∀ (W : World), (∀ y, W.cell? y = (W1.setCells w.heap.size i [x]).cell? y) → (∀ y, W.frozen? y = (W1.setCells w.heap.size i [x]).frozen? y) → ∀ ty dc sc, (Builtin.copy_ #[42, 42] ty #[.slice (some ⟨w.heap.size, i + 1, none⟩) (n - i) dc, .slice (some ⟨b, i, none⟩) (n - i) sc]).run Try.prog W = .ok (goInt (cs.drop i).length) (W.setCells w.heap.size (i + 1) (cs.drop i)) := fun W hWc hWf ty dc sc =>
    run_copy_cells W _ _ ty 27 w.heap.size (i + 1) (n - i) dc ⟨b, i, none⟩ (n - i) sc (cs.drop i) Try.underlying42 hsz (by rw [hdl]; simp only [Nat.min_def]; split <;> omega)
      (fun j v hj => by
        rw [Addr.add_lit, hWc, World.cell?_setCells_out _ _ _ _ _ (fun h _ => absurd h hbN)]
        exact hOb _ v (hcs (i + j) v (by rwa [List.getElem?_drop] at hj)))
      (fun j hj => by rw [hWc]; exact isSome_setCells w.heap.size [x] i W1 (fun t ht => hN _ (by simp at ht; omega)) _ (hN _ (by omega)))
      (fun j hj => by rw [hWf, World.frozen?_setCells]; exact hNf _) (fun v hv => h1c v (List.mem_of_mem_drop hv))
  subst hW1
  have hE1 : ∀ x, ((w.alloc (.cells ROW 27)).drew).cell? x = (w.drew.alloc (.cells ROW 27)).cell? x := fun x => rfl
  have hE2 : ∀ x, ((w.alloc (.cells ROW 27)).drew).frozen? x = (w.drew.alloc (.cells ROW 27)).frozen? x := fun x => rfl
  have hF1 : ∀ y, (((w.alloc (.cells ROW 27)).drew.setCells w.heap.size i [x]).drew).cell? y = ((w.drew.alloc (.cells ROW 27)).setCells w.heap.size i [x]).cell? y := fun x => rfl
  have hF2 : ∀ y, (((w.alloc (.cells ROW 27)).drew.setCells w.heap.size i [x]).drew).frozen? y = ((w.drew.alloc (.cells ROW 27)).setCells w.heap.size i [x]).frozen? y := fun x => rfl
  have hw1 : IntKind.i64.wrap ((i : Int) + 1) = (i : Int) + 1 := by rw [IntKind.wrap_i64]; omega
  have hb1 : (0 : Int) ≤ (i : Int) + 1 := by omega
  have hin : i ≤ n := by omega
  have htn : ((i : Int) + 1).toNat = i + 1 := by omega
  have hb3 : (i : Int) ≤ (n : Int) := by omega
  clear hkk hik hold hROW hG hRl hN hNf hOb hOv hvs hvx hcs
  go_enter Try.func27, Try.ntmps27
  go_wp2_with (first
    | (at_builtin; refine Lib.wpList_append_run _ rfl _ _ _ _ rfl _ _ rfl rfl _ _ (hrz _) ?_)
    | (at_builtin; refine wpList_copy_runI _ rfl _ _ 42 42 rfl _ _ rfl rfl (hcpA _ hE1 hE2 _ _) ?_)
    | (at_builtin; refine wpList_copy_runI _ rfl _ _ 42 42 rfl _ _ rfl rfl (hcpB _ (fun _ => rfl) (fun _ => rfl) _ _ _) ?_))
  go_region_law (refine step_copy_runI rfl _ _ 42 42 rfl (.slice (some ⟨w.heap.size, i + 1, none⟩) (n - i) (G - (i + 1))) (.slice (some ⟨b, i, none⟩) (n - i) (c - i)) (by simp [Act.eval, Act.put]) (by simp [Act.eval, Act.put]) (hcpB _ hF1 hF2 3 (G - (i + 1)) (c - i)) ?_)
  go_wp2
  go_ret
  exact ⟨rfl, rfl⟩

/-- slices.Insert(s, i, x): whatever the road. -/
theorem insN (v : Value) (i vb vc : Nat) (xs : List Value) (x : Value) (fp : List Nat) (w : World) (hrow : SlRow w 27 v xs fp) (hi : i ≤ xs.length) (hsm : xs.length ≤ 1000000)
    (hv : w.heap[vb]? = some (.cells #[x] 27 (0, 0))) (hvf : vb ∉ fp) (h1c : ∀ v ∈ xs, v.oneCell' = true) (h1v : x.oneCell' = true) :
    Calls Try.prog 27 #[v, .int .i64 i, .slice (some ⟨vb, 0, none⟩) 1 vc] w fun e w' =>
      ∃ g cap, e = .returned (.slice (some ⟨g, 0, none⟩) (xs.length + 1) cap) ∧ SlRow w' 27 (.slice (some ⟨g, 0, none⟩) (xs.length + 1) cap) (putIn xs i x) [g] ∧ (g ∈ fp ∨ w.heap.size ≤ g) ∧ Fr fp w w' := by
  by_cases hin : i = xs.length
  · subst hin
    refine (insEndN v xs.length vb vc xs x fp w hrow rfl hsm hv h1v).mono ?_
    rintro e w' ⟨g, cap, h1, h2, h3, h4⟩
    refine ⟨g, cap, h1, ?_, h3, h4⟩
    simpa [putIn] using h2
  · have hlt : i < xs.length := by omega
    obtain ⟨b, c, cur, rfl, hb, hnc, hcm, hcs, htk, rfl⟩ := hrow.form (by intro h; simp [h] at hlt)
    have hcell : ∀ j v, xs[j]? = some v → w.cell? ⟨b, j, none⟩ = some v := fun j v hj => hrow.cell j v hj
    have hcur : ∀ j, j < xs.length → cur[j]? = xs[j]? := fun j hj => by
      have h0 := hcell j _ (List.getElem?_eq_getElem hj)
      rw [cell_of_row w b j _ _ _ hb] at h0
      rw [h0, List.getElem?_eq_getElem hj]
    have hl : (putIn xs i x).length = xs.length + 1 := by simp; omega
    have hdl : (xs.drop i).length = xs.length - i := by simp
    by_cases hroom : xs.length + 1 ≤ c
    · refine (insShiftN b xs.length c i vb vc xs x w hlt hroom (by simpa [maxLen] using hcm) (by simpa using hvf) rfl cur hb hcs hcell hv h1c h1v).mono ?_
      rintro e w' ⟨h1, rfl⟩
      refine ⟨b, c, h1, ?_, .inl (by simp), ((Fr.refl [b] w).drew.setCells (.inl (by simp)) _ _).setCells (.inl (by simp)) _ _⟩
      have hh := heap_setCells_same b 27 [x] i _ _ (heap_setCells_same b 27 (xs.drop i) (i + 1) w.drew cur hb)
      refine .inr ⟨b, c, _, by rw [hl], hh, by omega, hcm, by rw [size_putAt, size_putAt, hcs], ?_, rfl⟩
      refine putIn_row _ xs i x hi (fun j hj => ?_)
      rw [getElem?_putAt _ _ _ _ (by rw [size_putAt]; simp; omega), getElem?_putAt _ _ _ _ (by rw [hdl]; omega)]
      simp only [List.length_singleton, hdl]
      by_cases h1 : j < i
      · rw [if_neg (by omega), if_neg (by omega), if_pos h1, hcur j (by omega)]
      · by_cases h2 : j = i
        · subst h2; rw [if_pos (by omega), if_neg h1, if_pos rfl]; simp
        · rw [if_neg (by omega), if_pos (by omega), if_neg h1, if_neg h2, List.getElem?_drop]
          congr 1; omega
    · refine (insGrowN b xs.length c i vb vc xs x w hlt hnc (by omega) hsm rfl hcell (by rw [cell_of_row w vb 0 _ _ _ hv]; rfl) h1c h1v).mono ?_
      rintro e w' ⟨h1, rfl⟩
      have hge := grownCap_ge w (xs.length + 1) c 27
      have hle := grownCap_le_maxLen w (xs.length + 1) c 27 (by unfold maxLen; omega)
      generalize grownCap w (xs.length + 1) c 27 = G at *
      refine ⟨w.heap.size, G, h1, ?_, .inr (Nat.le_refl _), (((((Fr.refl [b] w).alloc _).drew.setCells (.inr (Nat.le_refl _)) _ _).drew).setCells (.inr (Nat.le_refl _)) _ _)⟩
      obtain ⟨ROW, hROW⟩ : ∃ ROW : Array Value, ROW = (xs.take i).toArray ++ Builtin.zeroCells (Value.pointer none).cells (xs.length + 1 - i) ++ Builtin.zeroCells (Value.pointer none).cells (G - (xs.length + 1)) := ⟨_, rfl⟩
      have hRs : ROW.size = G := by
        rw [hROW]
        simp [Builtin.zeroCells, Value.cells]
        omega
      have hRg : ∀ j, j < i → ROW[j]? = xs[j]? := fun j hj => by
        rw [hROW, Array.append_assoc, Array.getElem?_append_left (by simp; omega)]
        simp [List.getElem?_take, hj]
      rw [← hROW]
      have hh := heap_setCells_same w.heap.size 27 (xs.drop i) (i + 1) _ _ (show (((w.alloc (.cells ROW 27)).drew.setCells w.heap.size i [x]).drew).heap[w.heap.size]? = _ from heap_setCells_same w.heap.size 27 [x] i (w.alloc (.cells ROW 27)).drew ROW (heap_alloc_new w (.cells ROW 27)))
      refine .inr ⟨w.heap.size, G, _, by rw [hl], hh, by omega, hle, by rw [size_putAt, size_putAt, hRs], ?_, rfl⟩
      refine putIn_row _ xs i x hi (fun j hj => ?_)
      rw [getElem?_putAt _ _ _ _ (by rw [size_putAt, hdl]; omega), getElem?_putAt _ _ _ _ (by simp; omega)]
      simp only [List.length_singleton, hdl]
      by_cases h1 : j < i
      · rw [if_neg (by omega), if_neg (by omega), if_pos h1, hRg j h1]
      · by_cases h2 : j = i
        · subst h2; rw [if_neg (by omega), if_pos (by omega), if_neg h1, if_pos rfl]; simp
        · rw [if_pos (by omega), if_neg h1, if_neg h2, List.getElem?_drop]
          congr 1; omega

end Go.Proofs.Qxb6600882a
