/-
  kvCopy, kvPairs, kvLastWrite.
-/
import Derived.Test.Qxb6600882aLawB
import Derived.Test.Qxb6600882aSplitA
namespace Go.Proofs.Qxb6600882a
open Go.RowKit

theorem Fr.cell {w w' : World} (h : Fr [] w w') {a : Addr} {v : Value} (hc : w.cell? a = some v) : w'.cell? a = some v := by
  rw [World.cell?_of_block (w := w) (h.block a.block (World.block_lt_of_cell? w a hc) (by simp))]
  exact hc

theorem StrArr.fr {w w' : World} {v : Value} {xs : List ByteArray} (h : StrArr w v xs) (hf : Fr [] w w') : StrArr w' v xs := by
  obtain ⟨a, cap, rfl, hm, hc⟩ := h
  refine ⟨a, cap, rfl, hm, fun j x hj => ?_⟩
  obtain ⟨b, off, h1, h2, h3⟩ := hc j x hj
  exact ⟨b, off, h1, hf.cell h2, h3⟩

theorem StrArr.at {w : World} {a : Option Addr} {n c : Nat} {xs : List ByteArray} (h : StrArr w (.slice a n c) xs) : n = xs.length ∧ ∀ k x, xs[k]? = some x → ∃ b off, a = some ⟨b, off, none⟩ ∧ w.cell? ⟨b, off + k, none⟩ = some (.string x) ∧ x.size ≤ 9223372036854775807 := by
  obtain ⟨a', c', he, hm, hc⟩ := h
  obtain ⟨rfl, rfl, rfl⟩ : a = a' ∧ n = xs.length ∧ c = c' := by simpa using he
  exact ⟨rfl, hc⟩

theorem made_list (z : Value) (n : Nat) : (madeCells #[z] n).toList = List.replicate n z := by
  refine List.ext_getElem? fun i => ?_
  by_cases h : i < n
  · simp [madeCells, h, Nat.mod_one]
  · simp [madeCells, h]

theorem made_size (z : Value) (n : Nat) : (madeCells #[z] n).size = n := by simp [madeCells]

/-- A row that has just been made. -/
theorem SlRow.made (w : World) (t : TypeId) (z : Value) (n : Nat) (hn : n ≤ 1000000) : SlRow (w.alloc (.cells (madeCells #[z] n) t)) t (.slice (some ⟨w.heap.size, 0, none⟩) n n) (List.replicate n z) [w.heap.size] :=
  .inr ⟨_, n, _, by simp, by rw [(MapKept.heap_alloc w _).1], by simp, by unfold maxLen; omega, made_size z n, by rw [made_list]; simp, rfl⟩

/-- A cell of one's own row is there and free. -/
theorem SlRow.free {w : World} {t : TypeId} {g n cap : Nat} {xs : List Value} {fp : List Nat} (h : SlRow w t (.slice (some ⟨g, 0, none⟩) n cap) xs fp) (k : Nat) : w.frozen? ⟨g, k, none⟩ = false := by
  rcases h with ⟨h, _⟩ | ⟨g', cap', cur, h1, h2, _⟩
  · cases h
  · obtain ⟨rfl, -, -⟩ : g = g' ∧ n = _ ∧ cap = _ := by simpa using h1
    exact frozen_of_row w _ k _ _ h2

theorem copy_step {xs : List ByteArray} {k : Nat} {x : ByteArray} (hx : xs[k]? = some x) :
    ((xs.take k).map Value.string ++ List.replicate (xs.length - k) (Value.string ⟨#[]⟩)).set k (.string x) = (xs.take (k + 1)).map Value.string ++ List.replicate (xs.length - (k + 1)) (Value.string ⟨#[]⟩) := by
  have hk : k < xs.length := by
    rcases Nat.lt_or_ge k xs.length with h | h
    · exact h
    · rw [List.getElem?_eq_none h] at hx; cases hx
  have hl : ((xs.take k).map Value.string).length = k := by simp; omega
  rw [List.set_append_right _ _ (by omega), hl, Nat.sub_self, show xs.length - k = (xs.length - (k + 1)) + 1 by omega, List.replicate_succ, List.set_cons_zero, List.take_add_one, hx]
  simp

set_option maxHeartbeats 1000000 in
set_option maxRecDepth 100000 in
theorem copy_any (a : Option Addr) (n c : Nat) (xs : List ByteArray) (w : World) (h : StrArr w (.slice a n c) xs) (hn : n ≤ 4096) :
    Calls Try.prog 9 #[.slice a n c] w fun e w' => ∃ v fp, e = .returned v ∧ SlRow w' 9 v (xs.map .string) fp ∧ (∀ x ∈ fp, w.heap.size ≤ x) ∧ Fr [] w w' := by
  have q22 : ∀ (w : World) (a : Option Addr) (n c n' c' : Nat), (binOp .eql 22 (.slice a n c) (.slice none n' c')).run Try.prog w = .ok (.bool a.isNone) w := fun w a n c n' c' => Lib.run_eql_slice_nil w _ _ a n c n' c' Try.underlying22
  obtain ⟨hl, hcs⟩ := h.at
  have HC : Hid (∀ k x, xs[k]? = some x → ∃ b off, a = some ⟨b, off, none⟩ ∧ w.cell? ⟨b, off + k, none⟩ = some (.string x) ∧ x.size ≤ 9223372036854775807) := hcs
  clear h hcs
  cases a with
  | none =>
    have hx : Hid (xs = []) := by
      cases xs with
      | nil => rfl
      | cons x r => obtain ⟨b, off, h1, _⟩ := HC.out 0 x rfl; cases h1
    clear HC hl
    go_enter Try.func9, Try.ntmps9
    go_wp2
    go_ret
    refine ⟨_, [], rfl, ?_, by simp, Fr.refl _ _⟩
    rw [hx.out]
    exact SlRow.nil _ _
  | some p =>
    have hmk := Go.run_make_row' (P := Try.prog) 22 9 (.string ⟨#[]⟩) 16 Try.underlying22 info9 rfl .i64 .i64 n (by omega) (by omega)
    have HL : Hid (n = xs.length) := hl
    clear hl
    go_enter Try.func9, Try.ntmps9
    go_wp2
    go_loopg [4] n (fun g s4 wr => ∃ k, g = n - k ∧ k ≤ n ∧ s4 = .int .i64 k ∧ SlRow wr 9 (.slice (some ⟨w.heap.size, 0, none⟩) n n) ((xs.take k).map Value.string ++ List.replicate (xs.length - k) (Value.string ⟨#[]⟩)) [w.heap.size] ∧ Fr [] w wr)
    case atStart =>
      refine ⟨0, rfl, Nat.zero_le _, rfl, ?_, (Fr.refl [] w).alloc _⟩
      rw [← HL.out]
      exact SlRow.made w 9 _ n (by omega)
    case round =>
      obtain ⟨k, rfl, hk, rfl, hrow, hfr⟩ := hrel
      by_cases hlt : k < n
      · obtain ⟨x, hx⟩ : ∃ x, xs[k]? = some x := ⟨xs[k]'(by rw [← HL.out]; exact hlt), List.getElem?_eq_getElem _⟩
        obtain ⟨b, off, hp, hcell, hsz⟩ := HC.out k x hx
        obtain rfl : p = ⟨b, off, none⟩ := by simpa using hp
        have hc := hfr.cell hcell
        have hd : wr.cell? ⟨w.heap.size, k, none⟩ = some (.string ⟨#[]⟩) := by
          refine hrow.cell k _ ?_
          have hkx : k < xs.length := by rw [← HL.out]; exact hlt
          rw [List.getElem?_append_right (by simp; omega)]
          rw [List.getElem?_replicate, if_pos (by simp; omega)]
        have hz : wr.frozen? ⟨w.heap.size, k, none⟩ = false := hrow.free k
        have HN : Hid (SlRow (wr.setCell ⟨w.heap.size, k, none⟩ (.string x)) 9 (.slice (some ⟨w.heap.size, 0, none⟩) n n) ((xs.take (k + 1)).map Value.string ++ List.replicate (xs.length - (k + 1)) (Value.string ⟨#[]⟩)) [w.heap.size]) := by
          have := hrow.set k (.string x)
          rw [copy_step hx] at this
          exact this
        have HF : Hid (Fr [] w wr) := hfr
        clear hrow hfr hcell hx hp
        go_wp2
        go_roundg (n - (k + 1))
        case measure => omega
        case rel => exact ⟨k + 1, rfl, by omega, by go_num, HN.out, HF.out.setCell (.inr (Nat.le_refl _)) _⟩
      · obtain rfl : k = n := by omega
        have HN : Hid (SlRow wr 9 (.slice (some ⟨w.heap.size, 0, none⟩) k k) (xs.map Value.string) [w.heap.size]) := by
          show SlRow wr 9 (.slice (some ⟨w.heap.size, 0, none⟩) k k) (xs.map Value.string) [w.heap.size]
          rw [List.take_of_length_le (by rw [← HL.out]; exact Nat.le_refl _), show xs.length - k = 0 by rw [← HL.out]; omega, List.replicate_zero, List.append_nil] at hrow
          exact hrow
        have HF : Hid (Fr [] w wr) := hfr
        clear hrow hfr
        go_wp2
        go_ret
        exact ⟨_, _, rfl, HN.out, by simp, HF.out⟩

theorem pairs_any (a : Option Addr) (n c : Nat) (a' : Option Addr) (n' c' : Nat) (w : World) :
    Calls Try.prog 10 #[.slice a n c, .slice a' n' c'] w fun e w' => e = .returned (.int .i64 (min n n' : Nat)) ∧ w' = w := by
  by_cases hlt : n' < n
  · go_enter Try.func10, Try.ntmps10
    go_wp2
    go_ret
    rw [Nat.min_eq_right (by omega)]
    exact ⟨rfl, rfl⟩
  · go_enter Try.func10, Try.ntmps10
    go_wp2
    go_ret
    rw [Nat.min_eq_left (by omega)]
    exact ⟨rfl, rfl⟩

theorem ne_toList {x q : ByteArray} (h : x ≠ q) : (x.toList == q.toList) = false := by
  cases hb : x.toList == q.toList with
  | false => rfl
  | true => exact absurd (toList_inj (eq_of_beq hb)) h

/-- The last write to q among the first pairs. -/
def lastW (q : ByteArray) (ks vs : List ByteArray) : Nat → Option ByteArray
  | 0 => none
  | k + 1 => if ks[k]? = some q then vs[k]? else lastW q ks vs k

set_option maxHeartbeats 1000000 in
theorem lastWrite_any (kv vv : Value) (ks vs : List ByteArray) (kf vf : List Nat) (n : Nat) (q : ByteArray) (w : World) (hk : SlRow w 9 kv (ks.map .string) kf) (hv : SlRow w 9 vv (vs.map .string) vf) (hkn : n ≤ ks.length) (hvn : n ≤ vs.length) (hn : n ≤ 4096) :
    Calls Try.prog 12 #[kv, vv, .int .i64 n, .string q] w fun e w' => e = .returned (.tuple #[.string ((lastW q ks vs n).getD ⟨#[]⟩), .bool (lastW q ks vs n).isSome]) ∧ w' = w := by
  obtain ⟨ka, kc, rfl⟩ := hk.shape
  obtain ⟨va, vc, rfl⟩ := hv.shape
  have HC : Hid (∀ k, k < n → ∃ kb vb x y, ka = some ⟨kb, 0, none⟩ ∧ va = some ⟨vb, 0, none⟩ ∧ w.cell? ⟨kb, k, none⟩ = some (.string x) ∧ w.cell? ⟨vb, k, none⟩ = some (.string y) ∧ ks[k]? = some x ∧ vs[k]? = some y) := by
    intro k hlt
    obtain ⟨x, hx⟩ : ∃ x, ks[k]? = some x := ⟨ks[k]'(by omega), List.getElem?_eq_getElem _⟩
    obtain ⟨y, hy⟩ : ∃ y, vs[k]? = some y := ⟨vs[k]'(by omega), List.getElem?_eq_getElem _⟩
    obtain ⟨g1, c1, u1, e1, -⟩ := hk.form (by intro h; rw [List.map_eq_nil_iff] at h; rw [h] at hx; cases hx)
    obtain ⟨g2, c2, u2, e2, -⟩ := hv.form (by intro h; rw [List.map_eq_nil_iff] at h; rw [h] at hy; cases hy)
    obtain ⟨rfl, -⟩ : ka = some ⟨g1, 0, none⟩ ∧ kc = c1 := by simpa using e1
    obtain ⟨rfl, -⟩ : va = some ⟨g2, 0, none⟩ ∧ vc = c2 := by simpa using e2
    exact ⟨g1, g2, x, y, rfl, rfl, hk.cell k _ (by rw [List.getElem?_map, hx]; rfl), hv.cell k _ (by rw [List.getElem?_map, hy]; rfl), hx, hy⟩
  rw [List.length_map, List.length_map]
  obtain ⟨nk, hnk⟩ : ∃ x, ks.length = x := ⟨_, rfl⟩
  obtain ⟨nv, hnv⟩ : ∃ x, vs.length = x := ⟨_, rfl⟩
  rw [hnk] at hkn ⊢
  rw [hnv] at hvn ⊢
  clear hnk hnv hk hv
  go_enter Try.func12, Try.ntmps12
  go_wp2
  go_loopg [10] n (fun g s wr => wr = w ∧ g ≤ n ∧ s = .int .i64 ((g : Int) - 1) ∧ lastW q ks vs n = lastW q ks vs g)
  case atStart => exact ⟨rfl, Nat.le_refl _, rfl, rfl⟩
  case round =>
    obtain ⟨rfl, hg, rfl, hl⟩ := hrel
    rcases gk with _ | k
    · have HL : Hid (lastW q ks vs n = none) := hl
      clear hl
      go_wp2
      go_ret2
      refine ⟨?_, rfl⟩
      rw [HL.out]
      rfl
    · obtain ⟨kb, vb, x, y, rfl, rfl, c1, c2, hx, hy⟩ := HC.out k (by omega)
      rw [lastW, hx, hy] at hl
      have HL : Hid (lastW q ks vs n = if some x = some q then some y else lastW q ks vs k) := hl
      have e1 : (((k + 1 : Nat) : Int) - 1) = k := by omega
      rw [e1]
      clear hl hx hy e1
      by_cases hxq : x = q
      · subst hxq
        go_wp2
        go_ret2
        refine ⟨?_, rfl⟩
        have h2 := HL.out
        rw [if_pos (by trivial)] at h2
        rw [h2]
        rfl
      · have hne : (x.toList == q.toList) = false := ne_toList hxq
        go_wp2
        go_roundg k
        case measure => omega
        case rel => exact ⟨rfl, by omega, rfl, by rw [HL.out, if_neg (by simpa using hxq)]⟩

end Go.Proofs.Qxb6600882a
