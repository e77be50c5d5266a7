/-
  slices.Insert(s, i, x), one element, at []string and []*node: walked over this program (after the guide's Shelf/Spec/SlicesInsert, SlicesInsertGrow).
-/
import Derived.Test.Qxb6600882aClone
import Derived.Shelf.Spec.SlicesInsertGrow
namespace Go.Proofs.Qxb6600882a
open Go.RowKit Go.Lib
set_option linter.unusedVariables false
set_option linter.unusedSimpArgs false

set_option maxHeartbeats 2000000 in
set_option maxRecDepth 100000 in
/-- i < len(s), there is room: in place. -/
theorem insShiftS (b n c i vb vc : Nat) (cs : List Value) (x : Value) (w : World) (hi : i < n) (hroom : n + 1 ≤ c) (hc63 : c ≤ 9223372036854775807) (hvb : vb ≠ b)
    (hcl : cs.length = n) (cur : Array Value) (hb : w.heap[b]? = some (.cells cur 9 (0, 0))) (hcur : cur.size = c)
    (hcs : ∀ j v, cs[j]? = some v → w.cell? ⟨b, j, none⟩ = some v) (hv : w.heap[vb]? = some (.cells #[x] 9 (0, 0))) (h1c : ∀ v ∈ cs, v.oneCell' = true) (h1v : x.oneCell' = true) :
    Calls Try.prog 23 #[.slice (some ⟨b, 0, none⟩) n c, .int .i64 i, .slice (some ⟨vb, 0, none⟩) 1 vc] w fun e w' =>
      e = .returned (.slice (some ⟨b, 0, none⟩) (n + 1) c) ∧ w' = (w.drew.setCells b (i + 1) (cs.drop i)).setCells b i [x] := by
  have hz2 : ¬ ((i : Int) = (n : Int)) := by omega
  have hsz : (Try.prog.info? 9).map (·.size) = some 1 := by kernel_rfl
  have hsb : w.shape? b = some (9, c) := by simp [World.shape?, hb, hcur]
  have hsa : w.shape? vb = some (9, 1) := by simp [World.shape?, hv]
  have hfa : w.frozen? ⟨vb, 0, none⟩ = false := frozen_of_row w vb 0 _ _ hv
  have hfe : w.frozen? ⟨vb, 1, none⟩ = false := frozen_of_row w vb 1 _ _ hv
  have hsp : ∀ j, j < n + 1 → (w.cell? ⟨b, j, none⟩).isSome = true := fun j hj => by
    rw [cell_of_row w b j _ _ _ hb, Array.getElem?_eq_getElem (by omega)]; rfl
  have hfz : ∀ j, w.frozen? ⟨b, j, none⟩ = false := fun j => frozen_of_row w b j _ _ hb
  have hvs : ∀ j v, [x][j]? = some v → w.cell? ⟨vb, j, none⟩ = some v := fun j v hj => by
    rw [cell_of_row w vb j _ _ _ hv]; simpa using hj
  have hov : ∀ lb cb, (callFunc 30 #[.slice (some ⟨vb, 0, none⟩) 1 vc, .slice (some ⟨b, i + 1, none⟩) lb cb]).run Try.prog w = .ok (.value (.bool false)) w := fun lb cb => by
    rw [run_callFunc_extern Try.func30 (by kernel_rfl) (by kernel_rfl) (by kernel_rfl) (e := Extern.SlicesOverlaps.overlaps #[22, 22] #[4]) (by kernel_rfl),
      Lib.run_overlaps_apart w 22 4 9 Try.underlying22 1 Try.sizeOf9 ⟨vb, 0, none⟩ ⟨b, i + 1, none⟩ 1 vc lb cb hvb 9 9 1 c hsa hsb (by omega) hfa hfe]
    rfl
  have hdl : (cs.drop i).length = n - i := by rw [List.length_drop, hcl]
  have hw1 : IntKind.i64.wrap ((i : Int) + 1) = (i : Int) + 1 := by rw [IntKind.wrap_i64]; omega
  have hb1 : (0 : Int) ≤ (i : Int) + 1 := by omega
  have htn : ((i : Int) + 1).toNat = i + 1 := by omega
  have hb2 : ¬ (c = i + 1) := by omega
  have hb3 : (i : Int) ≤ (n : Int) + 1 := by omega
  have hb4 : ¬ (c = i) := by omega
  have hin : i ≤ n := by omega
  have hcp1 : ∀ ty dc sc, (Builtin.copy_ #[22, 22] ty #[.slice (some ⟨b, i + 1, none⟩) (n - i) dc, .slice (some ⟨b, i, none⟩) (n + 1 - i) sc]).run Try.prog w.drew = .ok (goInt (cs.drop i).length) (w.drew.setCells b (i + 1) (cs.drop i)) := fun ty dc sc =>
    run_copy_cells w.drew _ _ ty 9 b (i + 1) (n - i) dc ⟨b, i, none⟩ (n + 1 - i) sc (cs.drop i) Try.underlying22 hsz (by rw [hdl]; simp only [Nat.min_def]; split <;> omega)
      (fun j v hj => by rw [Addr.add_lit]; exact hcs (i + j) v (by rwa [List.getElem?_drop] at hj))
      (fun j hj => hsp _ (by omega)) (fun j hj => hfz _) (fun v hv => h1c v (List.mem_of_mem_drop hv))
  obtain ⟨W1, hW1⟩ : ∃ W1, W1 = w.drew.setCells b (i + 1) (cs.drop i) := ⟨_, rfl⟩
  have hsp1 : ∀ k, k < n + 1 → (W1.cell? ⟨b, k, none⟩).isSome = true := fun k hk => by
    rw [hW1]
    exact isSome_setCells b (cs.drop i) (i + 1) w.drew (fun j hj => hsp _ (by rw [hdl] at hj; omega)) k (hsp k hk)
  have hcp2 : ∀ (W : World), (∀ x, W.cell? x = W1.cell? x) → (∀ x, W.frozen? x = W1.frozen? x) → ∀ ty dc, (Builtin.copy_ #[22, 22] ty #[.slice (some ⟨b, i, none⟩) (n + 1 - i) dc, .slice (some ⟨vb, 0, none⟩) 1 vc]).run Try.prog W = .ok (goInt [x].length) (W.setCells b i [x]) := fun W hWc hWf ty dc =>
    run_copy_cells W _ _ ty 9 b i (n + 1 - i) dc ⟨vb, 0, none⟩ 1 vc [x] Try.underlying22 hsz (by simp only [List.length_singleton, Nat.min_def]; split <;> omega)
      (fun j v hj => by
        rw [Addr.add_lit, hWc, hW1, World.cell?_setCells_out b _ _ _ _ (fun h _ => absurd h hvb)]
        simpa using hvs j v hj)
      (fun j hj => by rw [hWc]; exact hsp1 _ (by simp at hj; omega)) (fun j hj => by rw [hWf, hW1, World.frozen?_setCells]; exact hfz _) (fun v hv => by rw [List.mem_singleton.1 hv]; exact h1v)
  rw [← hW1] at hcp1
  clear hb hv hsa hsb hfa hfe hsp hfz hvs hsp1 hcs hcur
  go_enter Try.func23, Try.ntmps23
  go_wp2_with (simp only [hov])
  go_region_law (refine step_copy_runI rfl _ _ 22 22 rfl (.slice (some ⟨b, i + 1, none⟩) (n - i) (c - (i + 1))) (.slice (some ⟨b, i, none⟩) (n + 1 - i) (c - i)) (by simp [Act.eval, Act.put]) (by simp [Act.eval, Act.put]) (hcp1 _ _ _) ?_)
  go_wp2_with (at_builtin; refine wpList_copy_runI _ rfl _ _ 22 22 rfl _ _ rfl rfl (hcp2 _ (fun _ => rfl) (fun _ => rfl) _ _) ?_)
  go_ret
  first | exact ⟨rfl, rfl⟩ | exact ⟨rfl, by rw [hW1]⟩

set_option maxHeartbeats 2000000 in
set_option maxRecDepth 100000 in
/-- i = len(s): append. -/
theorem insEndS (v : Value) (n vb vc : Nat) (xs : List Value) (x : Value) (fp : List Nat) (w : World) (hrow : SlRow w 9 v xs fp) (hn : xs.length = n) (hsm : n ≤ 1000000)
    (hv : w.heap[vb]? = some (.cells #[x] 9 (0, 0))) (h1v : x.oneCell' = true) :
    Calls Try.prog 23 #[v, .int .i64 n, .slice (some ⟨vb, 0, none⟩) 1 vc] w fun e w' =>
      ∃ g cap, e = .returned (.slice (some ⟨g, 0, none⟩) (n + 1) cap) ∧ SlRow w' 9 (.slice (some ⟨g, 0, none⟩) (n + 1) cap) (xs ++ [x]) [g] ∧ (g ∈ fp ∨ w.heap.size ≤ g) ∧ Fr fp w w' := by
  obtain ⟨i0, hi, hz0, hz1, hz2⟩ := info_parts info9
  have hown := hrow.owns
  rw [hn] at hown
  have hob : ∀ k, v.ownBlock = some k → k ∈ fp := by
    intro k hk
    rcases hrow with ⟨rfl, _, _⟩ | ⟨g, cap, cur, rfl, _, _, _, _, _, rfl⟩
    · cases hk
    · simp [Value.ownBlock] at hk; simp [hk]
  obtain ⟨a, cap0, hva⟩ := hrow.shape
  rw [hn] at hva
  have hcap : a = none ∧ n = 0 ∧ cap0 = 0 ∨ ∃ g, a = some ⟨g, 0, none⟩ ∧ n ≤ cap0 ∧ cap0 ≤ 9223372036854775807 := by
    rcases hrow with ⟨rfl, rfl, _⟩ | ⟨g, cap, cur, rfl, _, h3, h4, _⟩
    · simp at hva hn; exact .inl ⟨hva.1.symm, hn.symm, hva.2.2.symm⟩
    · simp [maxLen] at hva h4
      exact .inr ⟨g, hva.1.symm, by omega, by omega⟩
  have HO : Hid (w.ownsRow 0 9 1 v n xs) := hown
  have HV : Hid (w.heap[vb]? = some (.cells #[x] 9 (0, 0))) := hv
  have HA : Hid (v = .slice a n cap0) := hva
  clear hown hrow hn hv hva
  have fin : ∀ g cap w1, w1.ownsRow 0 9 1 (.slice (some ⟨g, 0, none⟩) (n + 1) cap) (n + 1) (xs ++ [x]) → w.grownBy w1 v.ownBlock → (v.ownBlock = some g ∨ g = w.heap.size) →
      SlRow w1 9 (.slice (some ⟨g, 0, none⟩) (n + 1) cap) (xs ++ [x]) [g] ∧ (g ∈ fp ∨ w.heap.size ≤ g) ∧ Fr fp w w1 := fun g cap w1 h1 h2 h3 =>
    ⟨SlRow.of_owns h1, by rcases h3 with h | h; exact .inl (hob g h); exact .inr (by omega), Fr.of_grown h2 hob⟩
  have HF : Hid _ := fin
  clear fin hob
  rcases hcap with ⟨rfl, rfl, rfl⟩ | ⟨ag, rfl, hca, hcb⟩
  all_goals
    rw [HA.out]
    go_enter Try.func23, Try.ntmps23
    go_wp2_with (at_builtin; refine wpList_append_lies _ rfl _ _ 22 rfl 0 9 i0 (Value.string ⟨#[]⟩) 1 16 Try.underlying22 hi hz0 hz1 hz2 rfl (by omega) v _ xs HA.out.symm HO.out ⟨vb, 0, none⟩ 1 vc [x] rfl rfl (World.news_of_block HV.out) (fun u hu => by rw [List.mem_singleton.1 hu]; exact h1v) (by omega) (by unfold maxLen; omega) (by omega) (Nat.zero_le _) w.heap.size rfl ?_)
    all_goals
      intro g cap w1 hown hgrow hat hlt
      have hfin := HF.out g cap w1 hown hgrow hat
      have HG : Hid _ := hfin
      clear hfin hown hgrow hat
      go_wp2
      go_ret
      exact ⟨g, cap, by simp, HG.out⟩

set_option maxHeartbeats 2000000 in
set_option maxRecDepth 100000 in
/-- i < len(s), there is room: in place. -/
theorem insShiftN (b n c i vb vc : Nat) (cs : List Value) (x : Value) (w : World) (hi : i < n) (hroom : n + 1 ≤ c) (hc63 : c ≤ 9223372036854775807) (hvb : vb ≠ b)
    (hcl : cs.length = n) (cur : Array Value) (hb : w.heap[b]? = some (.cells cur 27 (0, 0))) (hcur : cur.size = c)
    (hcs : ∀ j v, cs[j]? = some v → w.cell? ⟨b, j, none⟩ = some v) (hv : w.heap[vb]? = some (.cells #[x] 27 (0, 0))) (h1c : ∀ v ∈ cs, v.oneCell' = true) (h1v : x.oneCell' = true) :
    Calls Try.prog 27 #[.slice (some ⟨b, 0, none⟩) n c, .int .i64 i, .slice (some ⟨vb, 0, none⟩) 1 vc] w fun e w' =>
      e = .returned (.slice (some ⟨b, 0, none⟩) (n + 1) c) ∧ w' = (w.drew.setCells b (i + 1) (cs.drop i)).setCells b i [x] := by
  have hz2 : ¬ ((i : Int) = (n : Int)) := by omega
  have hsz : (Try.prog.info? 27).map (·.size) = some 1 := by kernel_rfl
  have hsb : w.shape? b = some (27, c) := by simp [World.shape?, hb, hcur]
  have hsa : w.shape? vb = some (27, 1) := by simp [World.shape?, hv]
  have hfa : w.frozen? ⟨vb, 0, none⟩ = false := frozen_of_row w vb 0 _ _ hv
  have hfe : w.frozen? ⟨vb, 1, none⟩ = false := frozen_of_row w vb 1 _ _ hv
  have hsp : ∀ j, j < n + 1 → (w.cell? ⟨b, j, none⟩).isSome = true := fun j hj => by
    rw [cell_of_row w b j _ _ _ hb, Array.getElem?_eq_getElem (by omega)]; rfl
  have hfz : ∀ j, w.frozen? ⟨b, j, none⟩ = false := fun j => frozen_of_row w b j _ _ hb
  have hvs : ∀ j v, [x][j]? = some v → w.cell? ⟨vb, j, none⟩ = some v := fun j v hj => by
    rw [cell_of_row w vb j _ _ _ hv]; simpa using hj
  have hov : ∀ lb cb, (callFunc 32 #[.slice (some ⟨vb, 0, none⟩) 1 vc, .slice (some ⟨b, i + 1, none⟩) lb cb]).run Try.prog w = .ok (.value (.bool false)) w := fun lb cb => by
    rw [run_callFunc_extern Try.func32 (by kernel_rfl) (by kernel_rfl) (by kernel_rfl) (e := Extern.SlicesOverlaps.overlaps #[42, 42] #[4]) (by kernel_rfl),
      Lib.run_overlaps_apart w 42 4 27 Try.underlying42 1 Try.sizeOf27 ⟨vb, 0, none⟩ ⟨b, i + 1, none⟩ 1 vc lb cb hvb 27 27 1 c hsa hsb (by omega) hfa hfe]
    rfl
  have hdl : (cs.drop i).length = n - i := by rw [List.length_drop, hcl]
  have hw1 : IntKind.i64.wrap ((i : Int) + 1) = (i : Int) + 1 := by rw [IntKind.wrap_i64]; omega
  have hb1 : (0 : Int) ≤ (i : Int) + 1 := by omega
  have htn : ((i : Int) + 1).toNat = i + 1 := by omega
  have hb2 : ¬ (c = i + 1) := by omega
  have hb3 : (i : Int) ≤ (n : Int) + 1 := by omega
  have hb4 : ¬ (c = i) := by omega
  have hin : i ≤ n := by omega
  have hcp1 : ∀ ty dc sc, (Builtin.copy_ #[42, 42] ty #[.slice (some ⟨b, i + 1, none⟩) (n - i) dc, .slice (some ⟨b, i, none⟩) (n + 1 - i) sc]).run Try.prog w.drew = .ok (goInt (cs.drop i).length) (w.drew.setCells b (i + 1) (cs.drop i)) := fun ty dc sc =>
    run_copy_cells w.drew _ _ ty 27 b (i + 1) (n - i) dc ⟨b, i, none⟩ (n + 1 - i) sc (cs.drop i) Try.underlying42 hsz (by rw [hdl]; simp only [Nat.min_def]; split <;> omega)
      (fun j v hj => by rw [Addr.add_lit]; exact hcs (i + j) v (by rwa [List.getElem?_drop] at hj))
      (fun j hj => hsp _ (by omega)) (fun j hj => hfz _) (fun v hv => h1c v (List.mem_of_mem_drop hv))
  obtain ⟨W1, hW1⟩ : ∃ W1, W1 = w.drew.setCells b (i + 1) (cs.drop i) := ⟨_, rfl⟩
  have hsp1 : ∀ k, k < n + 1 → (W1.cell? ⟨b, k, none⟩).isSome = true := fun k hk => by
    rw [hW1]
    exact isSome_setCells b (cs.drop i) (i + 1) w.drew (fun j hj => hsp _ (by rw [hdl] at hj; omega)) k (hsp k hk)
  have hcp2 : ∀ (W : World), (∀ x, W.cell? x = W1.cell? x) → (∀ x, W.frozen? x = W1.frozen? x) → ∀ ty dc, (Builtin.copy_ #[42, 42] ty #[.slice (some ⟨b, i, none⟩) (n + 1 - i) dc, .slice (some ⟨vb, 0, none⟩) 1 vc]).run Try.prog W = .ok (goInt [x].length) (W.setCells b i [x]) := fun W hWc hWf ty dc =>
    run_copy_cells W _ _ ty 27 b i (n + 1 - i) dc ⟨vb, 0, none⟩ 1 vc [x] Try.underlying42 hsz (by simp only [List.length_singleton, Nat.min_def]; split <;> omega)
      (fun j v hj => by
        rw [Addr.add_lit, hWc, hW1, World.cell?_setCells_out b _ _ _ _ (fun h _ => absurd h hvb)]
        simpa using hvs j v hj)
      (fun j hj => by rw [hWc]; exact hsp1 _ (by simp at hj; omega)) (fun j hj => by rw [hWf, hW1, World.frozen?_setCells]; exact hfz _) (fun v hv => by rw [List.mem_singleton.1 hv]; exact h1v)
  rw [← hW1] at hcp1
  clear hb hv hsa hsb hfa hfe hsp hfz hvs hsp1 hcs hcur
  go_enter Try.func27, Try.ntmps27
  go_wp2_with (simp only [hov])
  go_region_law (refine step_copy_runI rfl _ _ 42 42 rfl (.slice (some ⟨b, i + 1, none⟩) (n - i) (c - (i + 1))) (.slice (some ⟨b, i, none⟩) (n + 1 - i) (c - i)) (by simp [Act.eval, Act.put]) (by simp [Act.eval, Act.put]) (hcp1 _ _ _) ?_)
  go_wp2_with (at_builtin; refine wpList_copy_runI _ rfl _ _ 42 42 rfl _ _ rfl rfl (hcp2 _ (fun _ => rfl) (fun _ => rfl) _ _) ?_)
  go_ret
  first | exact ⟨rfl, rfl⟩ | exact ⟨rfl, by rw [hW1]⟩

set_option maxHeartbeats 2000000 in
set_option maxRecDepth 100000 in
/-- i = len(s): append. -/
theorem insEndN (v : Value) (n vb vc : Nat) (xs : List Value) (x : Value) (fp : List Nat) (w : World) (hrow : SlRow w 27 v xs fp) (hn : xs.length = n) (hsm : n ≤ 1000000)
    (hv : w.heap[vb]? = some (.cells #[x] 27 (0, 0))) (h1v : x.oneCell' = true) :
    Calls Try.prog 27 #[v, .int .i64 n, .slice (some ⟨vb, 0, none⟩) 1 vc] w fun e w' =>
      ∃ g cap, e = .returned (.slice (some ⟨g, 0, none⟩) (n + 1) cap) ∧ SlRow w' 27 (.slice (some ⟨g, 0, none⟩) (n + 1) cap) (xs ++ [x]) [g] ∧ (g ∈ fp ∨ w.heap.size ≤ g) ∧ Fr fp w w' := by
  obtain ⟨i0, hi, hz0, hz1, hz2⟩ := info_parts info27
  have hown := hrow.owns
  rw [hn] at hown
  have hob : ∀ k, v.ownBlock = some k → k ∈ fp := by
    intro k hk
    rcases hrow with ⟨rfl, _, _⟩ | ⟨g, cap, cur, rfl, _, _, _, _, _, rfl⟩
    · cases hk
    · simp [Value.ownBlock] at hk; simp [hk]
  obtain ⟨a, cap0, hva⟩ := hrow.shape
  rw [hn] at hva
  have hcap : a = none ∧ n = 0 ∧ cap0 = 0 ∨ ∃ g, a = some ⟨g, 0, none⟩ ∧ n ≤ cap0 ∧ cap0 ≤ 9223372036854775807 := by
    rcases hrow with ⟨rfl, rfl, _⟩ | ⟨g, cap, cur, rfl, _, h3, h4, _⟩
    · simp at hva hn; exact .inl ⟨hva.1.symm, hn.symm, hva.2.2.symm⟩
    · simp [maxLen] at hva h4
      exact .inr ⟨g, hva.1.symm, by omega, by omega⟩
  have HO : Hid (w.ownsRow 0 27 1 v n xs) := hown
  have HV : Hid (w.heap[vb]? = some (.cells #[x] 27 (0, 0))) := hv
  have HA : Hid (v = .slice a n cap0) := hva
  clear hown hrow hn hv hva
  have fin : ∀ g cap w1, w1.ownsRow 0 27 1 (.slice (some ⟨g, 0, none⟩) (n + 1) cap) (n + 1) (xs ++ [x]) → w.grownBy w1 v.ownBlock → (v.ownBlock = some g ∨ g = w.heap.size) →
      SlRow w1 27 (.slice (some ⟨g, 0, none⟩) (n + 1) cap) (xs ++ [x]) [g] ∧ (g ∈ fp ∨ w.heap.size ≤ g) ∧ Fr fp w w1 := fun g cap w1 h1 h2 h3 =>
    ⟨SlRow.of_owns h1, by rcases h3 with h | h; exact .inl (hob g h); exact .inr (by omega), Fr.of_grown h2 hob⟩
  have HF : Hid _ := fin
  clear fin hob
  rcases hcap with ⟨rfl, rfl, rfl⟩ | ⟨ag, rfl, hca, hcb⟩
  all_goals
    rw [HA.out]
    go_enter Try.func27, Try.ntmps27
    go_wp2_with (at_builtin; refine wpList_append_lies _ rfl _ _ 42 rfl 0 27 i0 (Value.pointer none) 1 8 Try.underlying42 hi hz0 hz1 hz2 rfl (by omega) v _ xs HA.out.symm HO.out ⟨vb, 0, none⟩ 1 vc [x] rfl rfl (World.news_of_block HV.out) (fun u hu => by rw [List.mem_singleton.1 hu]; exact h1v) (by omega) (by unfold maxLen; omega) (by omega) (Nat.zero_le _) w.heap.size rfl ?_)
    all_goals
      intro g cap w1 hown hgrow hat hlt
      have hfin := HF.out g cap w1 hown hgrow hat
      have HG : Hid _ := hfin
      clear hfin hown hgrow hat
      go_wp2
      go_ret
      exact ⟨g, cap, by simp, HG.out⟩

end Go.Proofs.Qxb6600882a
