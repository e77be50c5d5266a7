/-
  own, Get, kvAgree.
-/
import Derived.Test.Qxb6600882aSearch
import Derived.Test.Qxb6600882aHeap
import Derived.Lib.SliceRun
namespace Go.Proofs.Qxb6600882a
open Go.RowKit

set_option maxHeartbeats 400000 in
/-- own: a node of the store's own generation is handed back as it is. -/
theorem own_any (sb nb pb po : Nat) (w : World) (hs : w.cell? ⟨sb, 2, none⟩ = some (.int .u64 0)) (hp : w.cell? ⟨pb, po, none⟩ = some (ptr nb)) (hn : w.cell? ⟨nb, 0, none⟩ = some (.int .u64 0)) :
    Calls Try.prog 21 #[ptr sb, .pointer (some ⟨pb, po, none⟩)] w fun e w' => e = .returned (ptr nb) ∧ ∃ q, w' = w.drewN q := by
  go_enter Try.func21, Try.ntmps21
  go_wp2
  go_quiet (fail)
  go_wp2
  go_ret
  exact ⟨rfl, _, rfl⟩

/-- The search among a node's keys. -/
theorem nodeSearch (kv : Value) (e : List KV) (kf : List Nat) (x : ByteArray) (w : World) (hrow : SlRow w 9 kv (e.map fun p => .string p.1) kf) (hs : Srt e) (hl : e.length ≤ 32) :
    Calls Try.prog 22 #[kv, .string x] w fun r w' => r = .returned (.tuple #[.int .i64 (pos x e), .bool (found x e)]) ∧ ∃ q, w' = w.drewN q := by
  by_cases he : e = []
  · subst he
    obtain ⟨a, cap, rfl⟩ := hrow.shape
    refine (bsearch_empty a cap x w).mono ?_
    rintro r w' ⟨rfl, rfl⟩
    exact ⟨rfl, 0, rfl⟩
  · obtain ⟨g, cap, cur, rfl, _⟩ := hrow.form (by simpa using he)
    rw [List.length_map]
    refine (bsearch g 0 e.length cap (fun t => ((e[t]?).map (·.1)).getD x) x w (by omega) (fun j hj => ?_)).mono ?_
    · rw [Nat.zero_add]
      refine hrow.cell j _ ?_
      rw [List.getElem?_map, List.getElem?_eq_getElem hj]
      rfl
    · rintro r w' ⟨rfl, hq⟩
      refine ⟨?_, hq⟩
      rw [bsGo_pos x e hs]
      congr 4
      unfold found
      by_cases h : pos x e < e.length
      · rw [List.getElem?_eq_getElem h]; simp [h]
      · rw [List.getElem?_eq_none (by omega)]; simp [h]

theorem run_eql42 (w : World) (a : Option Addr) (n c n' c' : Nat) : (binOp .eql 42 (.slice a n c) (.slice none n' c')).run Try.prog w = .ok (.bool a.isNone) w := Lib.run_eql_slice_nil w _ _ a n c n' c' Try.underlying42

/-- The three cells of a node that lead on. -/
theorem node_cells {w : World} {b : Nat} {kv vv cv : Value} (h : w.heap[b]? = some (.cells #[.int .u64 0, kv, vv, cv] 44 (0, 0))) :
    w.cell? ⟨b, 0, none⟩ = some (.int .u64 0) ∧ w.cell? ⟨b, 1, none⟩ = some kv ∧ w.cell? ⟨b, 2, none⟩ = some vv ∧ w.cell? ⟨b, 3, none⟩ = some cv := by
  refine ⟨?_, ?_, ?_, ?_⟩ <;> rw [cell_of_row w b _ _ _ _ h] <;> rfl

set_option maxHeartbeats 1000000 in
set_option maxRecDepth 100000 in
theorem get_any (sb : Nat) (key : ByteArray) (fp : List Nat) (M : List KV) (w : World) (h : Store w sb fp M) :
    Calls Try.prog 15 #[ptr sb, .string key] w fun e w' => e = .returned (.tuple #[.string ((look key M).getD ⟨#[]⟩), .bool (look key M).isSome]) ∧ ∃ q, w' = w.drewN q := by
  obtain ⟨hsrt, _, root, z, hsb, hroot⟩ := h
  have hc0 : w.cell? ⟨sb, 0, none⟩ = some root := by rw [cell_of_row w sb _ _ _ _ hsb]; rfl
  clear hsb
  have q42 := run_eql42
  obtain ⟨ro, g0, hro, hr0⟩ : ∃ ro g0, root = .pointer ro ∧ ((ro = none ∧ M = []) ∨ ∃ d n b fp m, d < g0 ∧ ro = some ⟨b, 0, none⟩ ∧ Rep d n w b fp m ∧ Srt m ∧ look key m = look key M) := by
    rcases hroot with ⟨rfl, rfl, _⟩ | ⟨rb, d, n, f, rfl, hr, _⟩
    · exact ⟨none, 0, rfl, .inl ⟨rfl, rfl⟩⟩
    · exact ⟨_, d + 1, rfl, .inr ⟨d, n, rb, f, M, by omega, rfl, hr, hsrt, rfl⟩⟩
  subst hro
  have HR : Hid _ := hr0
  clear hr0 hroot hsrt
  go_enter Try.func15, Try.ntmps15
  go_wp2
  go_loopg [6] g0 (fun g n wr => ∃ ro q, n = .pointer ro ∧ wr = w.drewN q ∧ ((ro = none ∧ M = []) ∨ ∃ d n b fp m, d < g ∧ ro = some ⟨b, 0, none⟩ ∧ Rep d n w b fp m ∧ Srt m ∧ look key m = look key M))
  case atStart => exact ⟨ro, 0, rfl, rfl, HR.out⟩
  case round =>
    clear HR
    obtain ⟨ro, q, rfl, rfl, h⟩ := hrel
    rcases h with ⟨rfl, rfl⟩ | ⟨d, n, b, fp, m, hdg, rfl, hrep, hsm, hlk⟩
    · go_wp2
      go_ret2
      exact ⟨rfl, _, rfl⟩
    · obtain ⟨e, co, f0, hnode, hle, hse, hcase⟩ : ∃ e co f0, Node w b e co f0 ∧ e.length ≤ 32 ∧ Srt e ∧ ((co = none ∧ m = e) ∨ ∃ d' K, d = d' + 1 ∧ co = some (K.map (·.1)) ∧ K.length = e.length + 1 ∧ (∀ c ∈ K, ∃ n', Rep d' n' w c.1 c.2.1 c.2.2) ∧ m = cont e K) := by
        cases d with
        | zero => exact ⟨m, none, fp, hrep.1, by have := hrep.2; omega, hsm, .inl ⟨rfl, rfl⟩⟩
        | succ d =>
          obtain ⟨e, K, f0, h1, h2, h3, h4, h5, h6, h7⟩ := hrep
          subst h7
          exact ⟨e, _, f0, h1, by omega, hsm.entries h4, .inr ⟨d, K, rfl, rfl, h4, h5, rfl⟩⟩
      obtain ⟨kv, vv, cv, kf, vf, cf, hb, hk, hv, hkid, _⟩ := hnode
      obtain ⟨_, hb1, hb2, hb3⟩ := node_cells hb
      have HNS : Hid (∀ q, Calls Try.prog 22 #[kv, .string key] (w.drewN q) fun r w' => r = .returned (.tuple #[.int .i64 (pos key e), .bool (found key e)]) ∧ ∃ q', w' = (w.drewN q).drewN q') :=
        fun q => nodeSearch kv e kf key (w.drewN q) (hk.keep (fun _ _ => rfl)) hse hle
      clear hrep hb
      have hpe := pos_le key e
      cases hf : found key e with
      | true =>
        obtain ⟨u, hu, hlu⟩ : ∃ u, e[pos key e]? = some (key, u) ∧ look key M = some u := by
          rcases hcase with ⟨_, rfl⟩ | ⟨d', K, _, _, hl, _, rfl⟩
          · obtain ⟨⟨u, h1, h2⟩, _⟩ := leaf_hit key hsm hf
            exact ⟨u, h1, by rw [← hlk]; exact h2⟩
          · obtain ⟨⟨u, h1, h2⟩, _⟩ := inner_hit key hsm hl hf
            exact ⟨u, h1, by rw [← hlk]; exact h2⟩
        have hpl : pos key e < e.length := by
          rcases Nat.lt_or_ge (pos key e) e.length with h | h
          · exact h
          · rw [List.getElem?_eq_none h] at hu; cases hu
        obtain ⟨g, cap, cur, hvv, _⟩ := hv.form (by intro h; rw [List.map_eq_nil_iff] at h; rw [h] at hpl; simp at hpl)
        rw [List.length_map] at hvv
        subst hvv
        have hcell : w.cell? ⟨g, pos key e, none⟩ = some (.string u) := hv.cell _ _ (by rw [List.getElem?_map, hu]; rfl)
        have HL : Hid (look key M = some u) := hlu
        have HF : Hid (found key e = true) := hf
        rw [hf] at HNS
        clear hlu hf hcase hlk hsm hse hkid hk hv hu
        obtain ⟨i, hi⟩ : ∃ i, pos key e = i := ⟨_, rfl⟩
        obtain ⟨len, hlen⟩ : ∃ len, e.length = len := ⟨_, rfl⟩
        rw [hi] at HNS hcell hpl hpe
        rw [hlen] at hb2 hpl hle hpe
        clear hi hlen
        go_wp2_with (go_at_call 22; refine (HNS.out _).mono ?_; rintro r w' ⟨rfl, q', rfl⟩)
        go_ret2
        refine ⟨?_, _, rfl⟩
        rw [HL.out]; rfl
      | false =>
        rw [hf] at HNS
        rcases hcase with ⟨rfl, rfl⟩ | ⟨d', K, rfl, rfl, hl, hkids, rfl⟩
        · obtain ⟨rfl, _⟩ := hkid
          have hln := (leaf_miss key hsm hf).1
          rw [hlk] at hln
          have HL : Hid (look key M = none) := hln
          clear hln hf hlk hsm hse hk hv
          obtain ⟨i, hi⟩ : ∃ i, pos key m = i := ⟨_, rfl⟩
          rw [hi] at HNS
          clear hi hpe
          go_wp2_with (go_at_call 22; refine (HNS.out _).mono ?_; rintro r w' ⟨rfl, q', rfl⟩)
          go_ret2
          refine ⟨?_, _, rfl⟩
          rw [HL.out]; rfl
        · obtain ⟨hne, hkr⟩ := hkid
          obtain ⟨A, c, B, rfl, hA⟩ : ∃ A c B, K = A ++ c :: B ∧ A.length = pos key e := by
            refine ⟨K.take (pos key e), K[pos key e]'(by omega), K.drop (pos key e + 1), ?_, by simp; omega⟩
            rw [← List.drop_eq_getElem_cons, List.take_append_drop]
          have hdown := look_down hsm hl hA hf
          rw [hlk] at hdown
          have hsc := srt_child hsm hA
          obtain ⟨n', hrc⟩ := hkids c (by simp)
          obtain ⟨g, cap, cur, hcv, _⟩ := hkr.form (by simp)
          have hcl : (List.map ptr (List.map (fun x : Kid => x.1) (A ++ c :: B))).length = e.length + 1 := by simpa using hl
          rw [hcl] at hcv
          subst hcv
          have hcell : w.cell? ⟨g, pos key e, none⟩ = some (ptr c.1) := hkr.cell _ _ (by rw [← hA]; simp)
          have HD : Hid (Rep d' n' w c.1 c.2.1 c.2.2 ∧ Srt c.2.2 ∧ look key c.2.2 = look key M) := ⟨hrc, hsc, hdown.symm⟩
          clear hrc hsc hdown hkr hl hkids hlk hsm hk hv hse hf hne hcl
          obtain ⟨i, hi⟩ : ∃ i, pos key e = i := ⟨_, rfl⟩
          obtain ⟨len, hlen⟩ : ∃ len, e.length = len := ⟨_, rfl⟩
          rw [hi] at HNS hcell hpe
          rw [hlen] at hb3 hle hpe
          clear hi hlen hA
          go_wp2_with (go_at_call 22; refine (HNS.out _).mono ?_; rintro r w' ⟨rfl, q', rfl⟩)
          go_roundg (gk - 1)
          case measure => omega
          case rel => exact ⟨_, _, rfl, rfl, .inr ⟨d', n', c.1, c.2.1, c.2.2, by omega, rfl, HD.out.1, HD.out.2.1, HD.out.2.2⟩⟩

/-- What kvAgree answers. -/
def agree (q want : ByteArray) (wantOk : Bool) (M : List KV) : Bool := (look q M).isSome == wantOk && ((look q M).getD ⟨#[]⟩).toList == want.toList

set_option maxHeartbeats 400000 in
theorem agree_any (sb : Nat) (q want : ByteArray) (ok : Bool) (fp : List Nat) (M : List KV) (w : World) (h : Store w sb fp M) :
    Calls Try.prog 13 #[ptr sb, .string q, .string want, .bool ok] w fun e w' => e = .returned (.bool (agree q want ok M)) ∧ ∃ n, w' = w.drewN n := by
  unfold agree
  have hg := get_any sb q fp M w h
  generalize look q M = r at *
  obtain ⟨s, hs⟩ : ∃ s, r.getD ⟨#[]⟩ = s := ⟨_, rfl⟩
  obtain ⟨o, ho⟩ : ∃ o, r.isSome = o := ⟨_, rfl⟩
  rw [hs, ho] at hg ⊢
  have HG : Hid (Calls Try.prog 15 #[ptr sb, .string q] w fun e w' => e = .returned (.tuple #[.string s, .bool o]) ∧ ∃ n, w' = w.drewN n) := hg
  clear hs ho h hg
  cases o <;> cases ok
  all_goals
    go_enter Try.func13, Try.ntmps13
    go_wp2_with (go_at_call 15; refine HG.out.mono ?_; rintro e w' ⟨rfl, n, rfl⟩)
    all_goals
      go_ret
      exact ⟨by simp [*], _, rfl⟩

end Go.Proofs.Qxb6600882a
