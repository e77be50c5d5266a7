/-
  split, said of nodes and of the tree.
-/
import Derived.Test.Qxb6600882aSplit
namespace Go.Proofs.Qxb6600882a
open Go.RowKit Go.Lib

theorem map_putIn {α : Type} (f : α → Value) (l : List α) (i : Nat) (x : α) : putIn (l.map f) i (f x) = (l.take i ++ x :: l.drop i).map f := by
  simp [putIn, List.map_take, List.map_drop]

theorem kids_putIn (cs : List Nat) (i lb rb : Nat) (hi : i < cs.length) : putIn ((cs.map ptr).set i (ptr lb)) (i + 1) (ptr rb) = (cs.take i ++ lb :: rb :: cs.drop (i + 1)).map ptr := by
  have h1 : ((cs.map ptr).set i (ptr lb)).take (i + 1) = (cs.take i).map ptr ++ [ptr lb] := by
    rw [List.take_succ_eq_append_getElem (by simpa using hi)]
    simp [List.take_set_of_le, List.map_take]
  have h2 : ((cs.map ptr).set i (ptr lb)).drop (i + 1) = (cs.drop (i + 1)).map ptr := by
    rw [List.drop_set_of_lt (by omega), List.map_drop]
  unfold putIn
  rw [h1, h2]
  simp

theorem split_node (sb nb cb i : Nat) (w : World) (root : Value) (z : Int) (e ce : List KV) (cs : List Nat) (cco : Option (List Nat)) (nf cf : List Nat) (kv : KV)
    (hsb : w.heap[sb]? = some (.cells #[root, .int .i64 z, .int .u64 0] 30 (0, 0))) (hn : Node w nb e (some cs) nf) (hc : Node w cb ce cco cf) (hnd : nf.Nodup) (hap : ∀ x ∈ nf, x ∉ cf) (hel : e.length ≤ 31) (hcs : cs.length = e.length + 1)
    (hi : cs[i]? = some cb) (hce : ce.length = 32) (hcc : ∀ l, cco = some l → l.length = 33) (h16 : ce[16]? = some kv) :
    Calls Try.prog 20 #[ptr sb, ptr nb, .int .i64 i] w fun r w' => r = .returned (.tuple #[]) ∧ ∃ lb rb nf' lf rf,
      Node w' nb (e.take i ++ kv :: e.drop i) (some (cs.take i ++ lb :: rb :: cs.drop (i + 1))) nf' ∧ Node w' lb (ce.take 16) (cco.map (·.take 17)) lf ∧ Node w' rb (ce.drop 17) (cco.map (·.drop 17)) rf ∧
      (nf' ++ (lf ++ rf)).Nodup ∧ (∀ x ∈ nf', x ∈ nf ∨ w.heap.size ≤ x) ∧ (∀ x ∈ lf ++ rf, w.heap.size ≤ x) ∧ Fr nf w w' := by
  have hil : i < cs.length := by
    rcases Nat.lt_or_ge i cs.length with h | h
    · exact h
    · rw [List.getElem?_eq_none h] at hi; cases hi
  obtain ⟨nkv, nvv, ncv, nkf, nvf, ncf, hnb, hnk, hnv, ⟨hcne, hnc⟩, rfl⟩ := hn
  obtain ⟨ckv, cvv, ccv, ckf, cvf, cxf, hcb, hck, hcv, hcx, rfl⟩ := hc
  obtain ⟨na, ncap, hka⟩ := hnk.shape
  obtain ⟨nva, nvcap, hva⟩ := hnv.shape
  obtain ⟨ng, nccap, _, hcc', _, _, _, _, _, rfl⟩ := hnc.form (by simpa using hcne)
  obtain ⟨kg, kcap, _, hk', _, _, _, _, _, rfl⟩ := hck.form (by intro h; have := congrArg List.length h; simp at this; rw [this] at hce; simp at hce)
  obtain ⟨vg, vcap, _, hv', _, _, _, _, _, rfl⟩ := hcv.form (by intro h; have := congrArg List.length h; simp at this; rw [this] at hce; simp at hce)
  rw [List.length_map] at hka hva hk' hv'
  rw [hce] at hk' hv'
  rw [List.length_map, hcs] at hcc'
  subst hka hva hcc' hk' hv'
  refine (split_walk sb nb cb i e.length w root z na nva ncap nvcap ng (e.length + 1) nccap kg kcap vg vcap ccv e ce cs cco nkf nvf cxf kv hsb hnb hcb hnk hnv hnc hck hcv hcx rfl rfl hel (by omega) hi hce hcc h16 hnd (fun x hx => ?_)).mono ?_
  · have h := hap x hx
    simp only [List.mem_cons, List.mem_append, List.not_mem_nil, or_false, not_or] at h
    exact ⟨h.1, h.2.1, h.2.2.1, h.2.2.2⟩
  · rintro r w' ⟨rfl, lb, rb, lf, rf, g1, c1, g2, c2, g3, c3, q1, q2, q3, q4, q5, q6, q7, q8, q9, q10, q11, q12⟩
    refine ⟨rfl, lb, rb, nb :: ([g1] ++ ([g2] ++ [g3])), lf, rf, ⟨_, _, _, [g1], [g2], [g3], q1, ?_, ?_, ⟨by simp, ?_⟩, rfl⟩, q9, q10, by simpa using q8, ?_, q11, q12⟩
    · rw [← map_putIn (fun p : KV => Value.string p.1) e i kv]; exact q2
    · rw [← map_putIn (fun p : KV => Value.string p.2) e i kv]; exact q3
    · rw [← kids_putIn cs i lb rb hil]; exact q4
    · intro x hx
      simp only [List.mem_cons, List.mem_append, List.not_mem_nil, or_false] at hx ⊢
      rcases hx with rfl | rfl | rfl | rfl
      · exact .inl (.inl rfl)
      · rcases q5 with h | h
        · exact .inl (.inr (.inl h))
        · exact .inr h
      · rcases q6 with h | h
        · exact .inl (.inr (.inr (.inl h)))
        · exact .inr h
      · rcases q7 with h | h
        · exact .inl (.inr (.inr (.inr h)))
        · exact .inr h

theorem flatMap_kids (A B : List Kid) (c : Kid) : (A ++ c :: B).flatMap (·.2.1) = A.flatMap (·.2.1) ++ (c.2.1 ++ B.flatMap (·.2.1)) := by
  rw [List.flatMap_append, List.flatMap_cons]

/-- A half of a full node, at its height. -/
theorem half_rep {w' : World} {lb : Nat} {e : List KV} {K : List Kid} {lf : List Nat} {d : Nat} (hn : Node w' lb e (some (K.map (·.1))) lf) (he : e.length ≤ 31) (hK : K.length = e.length + 1) (hk : ∀ c ∈ K, ∃ n', Rep d n' w' c.1 c.2.1 c.2.2) :
    Rep (d + 1) e.length w' lb (lf ++ K.flatMap (·.2.1)) (cont e K) :=
  ⟨e, K, lf, hn, rfl, by omega, hK, hk, rfl, rfl⟩

theorem nodup_sub {a b c d : List Nat} (h : (a ++ (b ++ (c ++ d))).Nodup) : a.Nodup ∧ b.Nodup ∧ c.Nodup ∧ d.Nodup ∧ (∀ x ∈ a, x ∉ b ∧ x ∉ c ∧ x ∉ d) ∧ (∀ x ∈ b, x ∉ c ∧ x ∉ d) ∧ (∀ x ∈ c, x ∉ d) := by
  rw [List.nodup_append, List.nodup_append, List.nodup_append] at h
  obtain ⟨ha, ⟨hb, ⟨hc, hd, h3⟩, h2⟩, h1⟩ := h
  refine ⟨ha, hb, hc, hd, fun x hx => ⟨fun h => h1 x hx x (by simp [h]) rfl, fun h => h1 x hx x (by simp [h]) rfl, fun h => h1 x hx x (by simp [h]) rfl⟩, fun x hx => ⟨fun h => h2 x hx x (by simp [h]) rfl, fun h => h2 x hx x (by simp [h]) rfl⟩, fun x hx h => h3 x hx x h rfl⟩

theorem nodup_mk {a b c d : List Nat} (ha : a.Nodup) (hb : b.Nodup) (hc : c.Nodup) (hd : d.Nodup) (h1 : ∀ x ∈ a, x ∉ b ∧ x ∉ c ∧ x ∉ d) (h2 : ∀ x ∈ b, x ∉ c ∧ x ∉ d) (h3 : ∀ x ∈ c, x ∉ d) : (a ++ (b ++ (c ++ d))).Nodup := by
  rw [List.nodup_append, List.nodup_append, List.nodup_append]
  refine ⟨ha, ⟨hb, ⟨hc, hd, fun x hx y hy e => h3 x hx (by rw [e]; exact hy)⟩, fun x hx y hy e => ?_⟩, fun x hx y hy e => ?_⟩
  · subst e
    rcases List.mem_append.1 hy with h | h
    · exact (h2 x hx).1 h
    · exact (h2 x hx).2 h
  · subst e
    rcases List.mem_append.1 hy with h | h
    · exact (h1 x hx).1 h
    · rcases List.mem_append.1 h with h | h
      · exact (h1 x hx).2.1 h
      · exact (h1 x hx).2.2 h

/-- split, said of the tree: the full child number i of an inner node is parted; the content is as it was. -/
theorem split_rep (sb b i d : Nat) (w : World) (root : Value) (z : Int) (e : List KV) (A : List Kid) (c : Kid) (B : List Kid) (f0 : List Nat)
    (hsb : w.heap[sb]? = some (.cells #[root, .int .i64 z, .int .u64 0] 30 (0, 0))) (hn : Node w b e (some ((A ++ c :: B).map (·.1))) f0) (hel : e.length ≤ 31) (hK : (A ++ c :: B).length = e.length + 1)
    (hk : ∀ c' ∈ A ++ c :: B, ∃ n', Rep d n' w c'.1 c'.2.1 c'.2.2) (hc : Rep d 32 w c.1 c.2.1 c.2.2) (hA : A.length = i) (hnd : (f0 ++ (A ++ c :: B).flatMap (·.2.1)).Nodup) :
    Calls Try.prog 20 #[ptr sb, ptr b, .int .i64 i] w fun r w' => r = .returned (.tuple #[]) ∧ ∃ kv l r f0', Node w' b (e.take i ++ kv :: e.drop i) (some ((A ++ l :: r :: B).map (·.1))) f0' ∧
      (∀ c' ∈ A ++ l :: r :: B, ∃ n', Rep d n' w' c'.1 c'.2.1 c'.2.2) ∧ (∃ n', n' ≤ 31 ∧ Rep d n' w' l.1 l.2.1 l.2.2) ∧ (∃ n', n' ≤ 31 ∧ Rep d n' w' r.1 r.2.1 r.2.2) ∧ c.2.2 = l.2.2 ++ kv :: r.2.2 ∧
      (f0' ++ (A ++ l :: r :: B).flatMap (·.2.1)).Nodup ∧ (∀ x ∈ f0' ++ (A ++ l :: r :: B).flatMap (·.2.1), x ∈ f0 ++ (A ++ c :: B).flatMap (·.2.1) ∨ w.heap.size ≤ x) ∧ Fr (f0 ++ (A ++ c :: B).flatMap (·.2.1)) w w' := by
  have hnd0 := hnd
  rw [flatMap_kids] at hnd
  obtain ⟨n0, nA, nc, nB, d0, dA, dc⟩ := nodup_sub hnd
  -- the child opened
  obtain ⟨ce, cco, cf0, cx, hcn, hce, hcfp, hcase⟩ : ∃ ce cco cf0 cx, Node w c.1 ce cco cf0 ∧ ce.length = 32 ∧ c.2.1 = cf0 ++ cx ∧ ((cco = none ∧ d = 0 ∧ c.2.2 = ce ∧ cx = []) ∨ ∃ d' Kc, d = d' + 1 ∧ cco = some (Kc.map (·.1)) ∧ Kc.length = 33 ∧ (∀ c' ∈ Kc, ∃ n', Rep d' n' w c'.1 c'.2.1 c'.2.2) ∧ c.2.2 = cont ce Kc ∧ cx = Kc.flatMap (·.2.1)) := by
    cases d with
    | zero => exact ⟨c.2.2, none, c.2.1, [], hc.1, hc.2.1, by simp, .inl ⟨rfl, rfl, rfl, rfl⟩⟩
    | succ d' =>
      obtain ⟨ce, Kc, cf0, h1, h2, _, h4, h5, h6, h7⟩ := hc
      exact ⟨ce, _, cf0, _, h1, h2, h6, .inr ⟨d', Kc, rfl, rfl, by omega, h5, h7, rfl⟩⟩
  obtain ⟨kv, hkv⟩ : ∃ kv, ce[16]? = some kv := ⟨ce[16]'(by omega), List.getElem?_eq_getElem _⟩
  have hcek : ce = ce.take 16 ++ kv :: ce.drop 17 := by
    have h := List.drop_eq_getElem_cons (l := ce) (i := 16) (by omega)
    rw [List.getElem?_eq_getElem (by omega)] at hkv
    rw [← Option.some.inj hkv, ← h, List.take_append_drop]
  have hcs : ((A ++ c :: B).map (·.1))[i]? = some c.1 := by rw [← hA]; simp
  refine (split_node sb b c.1 i w root z e ce ((A ++ c :: B).map (·.1)) cco f0 cf0 kv hsb hn hcn n0 (fun x hx hy => ?_) hel (by simpa using hK) hcs hce (fun l hl => ?_) hkv).mono ?_
  · exact (d0 x hx).2.1 (by rw [hcfp]; exact List.mem_append_left _ hy)
  · rcases hcase with ⟨h, _⟩ | ⟨d', Kc, _, h, hl', _⟩
    · rw [h] at hl; cases hl
    · rw [h] at hl; rw [← Option.some.inj hl]; simpa using hl'
  · rintro r w' ⟨rfl, lb, rb, nf', lf, rf, q1, q2, q3, q4, q5, q6, q7⟩
    refine ⟨rfl, kv, ?_⟩
    have hmt : (((A ++ c :: B).map (·.1)).take i ++ lb :: rb :: ((A ++ c :: B).map (·.1)).drop (i + 1)) = (A.map (·.1) ++ lb :: rb :: B.map (·.1)) := by
      subst hA
      simp [List.drop_append]
    rw [hmt] at q1
    -- what is not among f0's blocks is as it was
    have hkeep : ∀ c' ∈ A ++ c :: B, ∃ n', Rep d n' w' c'.1 c'.2.1 c'.2.2 := fun c' hc' => by
      obtain ⟨n', hn'⟩ := hk c' hc'
      refine ⟨n', hn'.fr q7 (fun k hk hx => ?_)⟩
      have hm : k ∈ (A ++ c :: B).flatMap (·.2.1) := List.mem_flatMap.2 ⟨c', hc', hk⟩
      rw [List.nodup_append] at hnd0
      exact hnd0.2.2 k hx k hm rfl
    have hold : ∀ k ∈ A.flatMap (·.2.1) ++ (c.2.1 ++ B.flatMap (·.2.1)), k < w.heap.size := fun k hk' => by
      rw [← flatMap_kids] at hk'
      obtain ⟨c', hc', hx⟩ := List.mem_flatMap.1 hk'
      obtain ⟨n', hn'⟩ := hk c' hc'
      exact hn'.lt k hx
    have fin : ∀ (lx rx : List Nat) (lm rm : List KV), (∀ x ∈ lx, x ∈ cx) → (∀ x ∈ rx, x ∈ cx) → (lx ++ rx).Nodup → (∃ n', n' ≤ 31 ∧ Rep d n' w' lb (lf ++ lx) lm) → (∃ n', n' ≤ 31 ∧ Rep d n' w' rb (rf ++ rx) rm) → c.2.2 = lm ++ kv :: rm →
        ∃ l r f0', Node w' b (e.take i ++ kv :: e.drop i) (some ((A ++ l :: r :: B).map (·.1))) f0' ∧ (∀ c' ∈ A ++ l :: r :: B, ∃ n', Rep d n' w' c'.1 c'.2.1 c'.2.2) ∧ (∃ n', n' ≤ 31 ∧ Rep d n' w' l.1 l.2.1 l.2.2) ∧ (∃ n', n' ≤ 31 ∧ Rep d n' w' r.1 r.2.1 r.2.2) ∧ c.2.2 = l.2.2 ++ kv :: r.2.2 ∧
          (f0' ++ (A ++ l :: r :: B).flatMap (·.2.1)).Nodup ∧ (∀ x ∈ f0' ++ (A ++ l :: r :: B).flatMap (·.2.1), x ∈ f0 ++ (A ++ c :: B).flatMap (·.2.1) ∨ w.heap.size ≤ x) ∧ Fr (f0 ++ (A ++ c :: B).flatMap (·.2.1)) w w' := by
      intro lx rx lm rm hlx hrx hlr hL hR hcont
      have hnl : (nf' ++ (lf ++ rf)).Nodup := q4
      rw [List.nodup_append, List.nodup_append] at hnl
      obtain ⟨u1, ⟨u2, u3, u4⟩, u5⟩ := hnl
      rw [List.nodup_append] at hlr
      obtain ⟨v1, v2, v3⟩ := hlr
      have ccx : ∀ x ∈ cx, x ∈ c.2.1 := fun x hx => by rw [hcfp]; exact List.mem_append_right _ hx
      have gl : ∀ x ∈ lf, w.heap.size ≤ x := fun x hx => q6 x (List.mem_append_left _ hx)
      have gr : ∀ x ∈ rf, w.heap.size ≤ x := fun x hx => q6 x (List.mem_append_right _ hx)
      have oA : ∀ x ∈ A.flatMap (·.2.1), x < w.heap.size := fun x hx => hold x (List.mem_append_left _ hx)
      have oc : ∀ x ∈ cx, x < w.heap.size := fun x hx => hold x (List.mem_append_right _ (List.mem_append_left _ (ccx x hx)))
      have oB : ∀ x ∈ B.flatMap (·.2.1), x < w.heap.size := fun x hx => hold x (List.mem_append_right _ (List.mem_append_right _ hx))
      have nfA : ∀ x ∈ nf', x ∉ A.flatMap (·.2.1) := fun x hx hy => by
        rcases q5 x hx with h | h
        · exact (d0 x h).1 hy
        · have := oA x hy; omega
      have nfc : ∀ x ∈ nf', x ∉ cx := fun x hx hy => by
        rcases q5 x hx with h | h
        · exact (d0 x h).2.1 (ccx x hy)
        · have := oc x hy; omega
      have nfB : ∀ x ∈ nf', x ∉ B.flatMap (·.2.1) := fun x hx hy => by
        rcases q5 x hx with h | h
        · exact (d0 x h).2.2 hy
        · have := oB x hy; omega
      refine ⟨(lb, lf ++ lx, lm), (rb, rf ++ rx, rm), nf', by simpa using q1, ?_, hL, hR, hcont, ?_, ?_, q7.mono (fun x hx => List.mem_append_left _ hx)⟩
      · intro c' hc'
        rcases List.mem_append.1 hc' with h | h
        · exact hkeep c' (List.mem_append_left _ h)
        · rcases List.mem_cons.1 h with h | h
          · obtain ⟨n', _, hn'⟩ := hL; subst h; exact ⟨n', hn'⟩
          · rcases List.mem_cons.1 h with h | h
            · obtain ⟨n', _, hn'⟩ := hR; subst h; exact ⟨n', hn'⟩
            · exact hkeep c' (List.mem_append_right _ (List.mem_cons_of_mem _ h))
      · have e1 : nf' ++ (A ++ (lb, lf ++ lx, lm) :: (rb, rf ++ rx, rm) :: B).flatMap (·.2.1) = nf' ++ (A.flatMap (·.2.1) ++ (((lf ++ lx) ++ (rf ++ rx)) ++ B.flatMap (·.2.1))) := by
          rw [flatMap_kids, List.flatMap_cons]; simp
        rw [e1]
        refine nodup_mk u1 nA ?_ nB ?_ ?_ ?_
        · rw [List.nodup_append, List.nodup_append, List.nodup_append]
          refine ⟨⟨u2, v1, fun x hx y hy e => ?_⟩, ⟨u3, v2, fun x hx y hy e => ?_⟩, fun x hx y hy e => ?_⟩
          · have h1 := gl x hx; have h2 := oc y (hlx y hy); omega
          · have h1 := gr x hx; have h2 := oc y (hrx y hy); omega
          · rcases List.mem_append.1 hx with h | h
            · rcases List.mem_append.1 hy with h' | h'
              · exact u4 x h y h' e
              · have h1 := gl x h; have h2 := oc y (hrx y h'); omega
            · rcases List.mem_append.1 hy with h' | h'
              · have h1 := gr y h'; have h2 := oc x (hlx x h); omega
              · exact v3 x h y h' e
        · intro x hx
          refine ⟨nfA x hx, fun hy => ?_, nfB x hx⟩
          rcases List.mem_append.1 hy with h | h
          · rcases List.mem_append.1 h with h | h
            · exact u5 x hx x (List.mem_append_left _ h) rfl
            · exact nfc x hx (hlx x h)
          · rcases List.mem_append.1 h with h | h
            · exact u5 x hx x (List.mem_append_right _ h) rfl
            · exact nfc x hx (hrx x h)
        · intro x hx
          refine ⟨fun hy => ?_, (dA x hx).2⟩
          have ox := oA x hx
          rcases List.mem_append.1 hy with h | h
          · rcases List.mem_append.1 h with h | h
            · have := gl x h; omega
            · exact (dA x hx).1 (ccx x (hlx x h))
          · rcases List.mem_append.1 h with h | h
            · have := gr x h; omega
            · exact (dA x hx).1 (ccx x (hrx x h))
        · intro x hx hy
          have ox := oB x hy
          rcases List.mem_append.1 hx with h | h
          · rcases List.mem_append.1 h with h | h
            · have := gl x h; omega
            · exact dc x (ccx x (hlx x h)) hy
          · rcases List.mem_append.1 h with h | h
            · have := gr x h; omega
            · exact dc x (ccx x (hrx x h)) hy
      · intro x hx
        rw [flatMap_kids, List.flatMap_cons] at hx
        rw [flatMap_kids]
        simp only [List.mem_append] at hx ⊢
        rcases hx with h | h | (h | h) | (h | h) | h
        · rcases q5 x h with h | h
          · exact .inl (.inl h)
          · exact .inr h
        · exact .inl (.inr (.inl h))
        · exact .inr (gl x h)
        · exact .inl (.inr (.inr (.inl (ccx x (hlx x h)))))
        · exact .inr (gr x h)
        · exact .inl (.inr (.inr (.inl (ccx x (hrx x h)))))
        · exact .inl (.inr (.inr (.inr h)))
    rcases hcase with ⟨rfl, rfl, hcm, rfl⟩ | ⟨d', Kc, rfl, rfl, hKl, hKk, hcm, rfl⟩
    · refine fin [] [] (ce.take 16) (ce.drop 17) (by simp) (by simp) (by simp) ⟨16, by omega, ?_⟩ ⟨15, by omega, ?_⟩ (by rw [hcm]; exact hcek)
      · rw [List.append_nil]; exact ⟨q2, by simp; omega, by omega⟩
      · rw [List.append_nil]; exact ⟨q3, by simp; omega, by omega⟩
    · have hKd : ∀ c' ∈ Kc, ∃ n', Rep d' n' w' c'.1 c'.2.1 c'.2.2 := fun c' hc' => by
        obtain ⟨n', hn'⟩ := hKk c' hc'
        refine ⟨n', hn'.fr q7 (fun k hk hx => ?_)⟩
        exact (d0 k hx).2.1 (by rw [hcfp]; exact List.mem_append_right _ (List.mem_flatMap.2 ⟨c', hc', hk⟩))
      have hKs : Kc.flatMap (·.2.1) = (Kc.take 17).flatMap (·.2.1) ++ (Kc.drop 17).flatMap (·.2.1) := by
        rw [← List.flatMap_append, List.take_append_drop]
      have hKn : (Kc.flatMap (·.2.1)).Nodup := by
        rw [hcfp, List.nodup_append] at nc; exact nc.2.1
      refine fin ((Kc.take 17).flatMap (·.2.1)) ((Kc.drop 17).flatMap (·.2.1)) (cont (ce.take 16) (Kc.take 17)) (cont (ce.drop 17) (Kc.drop 17)) (fun x hx => by rw [hKs]; exact List.mem_append_left _ hx) (fun x hx => by rw [hKs]; exact List.mem_append_right _ hx) (by rw [← hKs]; exact hKn) ⟨(ce.take 16).length, by simp; omega, ?_⟩ ⟨(ce.drop 17).length, by simp; omega, ?_⟩ ?_
      · refine half_rep (by simpa [List.map_take] using q2) (by simp; omega) (by simp; omega) (fun c' hc' => hKd c' (List.mem_of_mem_take hc'))
      · refine half_rep (by simpa [List.map_drop] using q3) (by simp; omega) (by simp; omega) (fun c' hc' => hKd c' (List.mem_of_mem_drop hc'))
      · rw [hcm]
        conv => lhs; rw [hcek, ← List.take_append_drop 17 Kc]
        exact cont_join _ _ _ _ _ (by simp; omega) (by intro h; have := congrArg List.length h; simp at this; omega)

end Go.Proofs.Qxb6600882a
