/-
  What the laws say of memory: copies, a store in the making, rows that are filled.
-/
import Derived.Test.Qxb6600882aLawC
import Derived.Test.Qxb6600882aPut
import Derived.Test.Qxb6600882aGet
import Derived.Deep.RegionHeld3
namespace Go.Proofs.Qxb6600882a
open Go.RowKit

theorem info4 : (Try.prog.info? 4).map (fun i => (i.zero, i.size, i.bytes)) = some (some (.bool false), 1, 1) := by kernel_rfl

/-- A copy of a slice of strings, in a row of its own. -/
def Copied (w : World) (a : Option Addr) (n c : Nat) (xs : List ByteArray) (fp : List Nat) : Prop := n = xs.length ∧ SlRow w 9 (.slice a n c) (xs.map .string) fp

theorem Copied.fr {S : List Nat} {w w' : World} {a : Option Addr} {n c : Nat} {xs : List ByteArray} {fp : List Nat} (h : Copied w a n c xs fp) (hf : Fr S w w') (hS : ∀ k ∈ fp, k ∉ S) : Copied w' a n c xs fp := ⟨h.1, h.2.fr hf hS⟩

theorem Copied.cell {w : World} {a : Option Addr} {n c : Nat} {xs : List ByteArray} {fp : List Nat} (h : Copied w a n c xs fp) {k : Nat} (hk : k < n) : ∃ g x, a = some ⟨g, 0, none⟩ ∧ fp = [g] ∧ w.cell? ⟨g, k, none⟩ = some (.string x) ∧ xs[k]? = some x := by
  obtain ⟨hl, hr⟩ := h
  obtain ⟨x, hx⟩ : ∃ x, xs[k]? = some x := ⟨xs[k]'(by omega), List.getElem?_eq_getElem _⟩
  obtain ⟨g, cap, cur, e, -, -, -, -, -, hfp⟩ := hr.form (by intro h; rw [List.map_eq_nil_iff] at h; rw [h] at hx; cases hx)
  obtain ⟨rfl, -⟩ : a = some ⟨g, 0, none⟩ ∧ _ := by simpa using e
  exact ⟨g, x, rfl, hfp, hr.cell k _ (by rw [List.getElem?_map, hx]; rfl), hx⟩

theorem copied_any (a : Option Addr) (n c : Nat) (xs : List ByteArray) (w : World) (h : StrArr w (.slice a n c) xs) (hn : n ≤ 4096) :
    Calls Try.prog 9 #[.slice a n c] w fun e w' => ∃ a' c' fp, e = .returned (.slice a' n c') ∧ Copied w' a' n c' xs fp ∧ (∀ x ∈ fp, w.heap.size ≤ x) ∧ Fr [] w w' := by
  refine (copy_any a n c xs w h hn).mono ?_
  rintro e w' ⟨v, fp, rfl, hr, hx, hf⟩
  obtain ⟨a', c', rfl⟩ := hr.shape
  have hl : n = xs.length := h.at.1
  have e : (xs.map Value.string).length = n := by rw [List.length_map, hl]
  rw [e] at hr ⊢
  exact ⟨a', c', fp, rfl, ⟨hl, hr⟩, hx, hf⟩

/-- A store in the making, all of it behind the blocks of w0. -/
def Built (w0 : World) (sb : Nat) (M : List KV) (w : World) : Prop := ∃ fp, Store w sb fp M ∧ (∀ x ∈ fp, w0.heap.size ≤ x) ∧ Fr [] w0 w

theorem Built.start (w : World) : Built w w.heap.size [] (w.alloc (.cells #[.pointer none, .int .i64 0, .int .u64 0] 30)) :=
  ⟨[w.heap.size], ⟨by simp [Srt], by simp, .pointer none, 0, by rw [(MapKept.heap_alloc w _).1], .inl ⟨rfl, rfl, rfl⟩⟩, by simp, (Fr.refl [] w).alloc _⟩

theorem Built.fr {w0 w w' : World} {sb : Nat} {M : List KV} (h : Built w0 sb M w) (hf : Fr [] w w') : Built w0 sb M w' := by
  obtain ⟨fp, h1, h2, h3⟩ := h
  exact ⟨fp, h1.fr hf (by simp), h2, h3.step hf⟩

theorem Built.out {w0 w : World} {sb : Nat} {M : List KV} (h : Built w0 sb M w) : Fr [] w0 w := by
  obtain ⟨fp, h1, h2, h3⟩ := h
  exact h3

theorem Built.put {w0 w : World} {sb : Nat} {M : List KV} (h : Built w0 sb M w) (k v : ByteArray) :
    Calls Try.prog 11 #[ptr sb, .string k, .string v] w fun e w' => e = .returned (.tuple #[]) ∧ Built w0 sb (ins k v M) w' := by
  obtain ⟨fp, h1, h2, h3⟩ := h
  refine (put_any sb k v fp M w h1).mono ?_
  rintro e w' ⟨rfl, fp', hs', hf', hx⟩
  refine ⟨rfl, fp', hs', fun x h => ?_, h3.trans hf' (fun x hx => .inr (h2 x hx))⟩
  rcases hx x h with h | h
  · exact h2 x h
  · have := h3.size; omega

theorem Built.putKeep {w0 w4 w : World} {sb : Nat} {M : List KV} (h : Built w0 sb M w4) (hf : Fr [] w4 w) (k v : ByteArray) :
    Calls Try.prog 11 #[ptr sb, .string k, .string v] w fun e w' => e = .returned (.tuple #[]) ∧ Built w0 sb (ins k v M) w' ∧ ∃ fp, Fr fp w w' ∧ ∀ x ∈ fp, x < w4.heap.size := by
  obtain ⟨fp, h1, h2, h3⟩ := h
  refine (put_any sb k v fp M w (h1.fr hf (by simp))).mono ?_
  rintro e w' ⟨rfl, fp', hs', hf', hx⟩
  refine ⟨rfl, ⟨fp', hs', fun x h => ?_, (h3.step hf).trans hf' (fun x hx => .inr (h2 x hx))⟩, fp, hf', h1.lt⟩
  rcases hx x h with h | h
  · exact h2 x h
  · have := h3.size; have := hf.size; omega

theorem Built.get {w0 w : World} {sb : Nat} {M : List KV} (h : Built w0 sb M w) (q : ByteArray) :
    Calls Try.prog 15 #[ptr sb, .string q] w fun e w' => e = .returned (.tuple #[.string ((look q M).getD ⟨#[]⟩), .bool (look q M).isSome]) ∧ ∃ n, w' = w.drewN n := by
  obtain ⟨fp, h1, _, _⟩ := h
  exact get_any sb q fp M w h1

theorem Built.agree {w0 w : World} {sb : Nat} {M : List KV} (h : Built w0 sb M w) (q v : ByteArray) (o : Bool) (hq : agree q v o M = true) :
    Calls Try.prog 13 #[ptr sb, .string q, .string v, .bool o] w fun e w' => e = .returned (.bool true) ∧ ∃ n, w' = w.drewN n := by
  obtain ⟨fp, h1, _, _⟩ := h
  refine (agree_any sb q v o fp M w h1).mono ?_
  rintro e w' ⟨rfl, hn⟩
  exact ⟨by rw [hq], hn⟩

theorem agree_look {q : ByteArray} {M M' : List KV} (h : look q M' = look q M) : Qxb6600882a.agree q ((look q M).getD ⟨#[]⟩) (look q M).isSome M' = true := by
  simp [Qxb6600882a.agree, h]

/-- The store behind the first i pairs. -/
def putAll (ks vs : List ByteArray) : Nat → List KV
  | 0 => []
  | i + 1 => ins ((ks[i]?).getD ⟨#[]⟩) ((vs[i]?).getD ⟨#[]⟩) (putAll ks vs i)

theorem putAll_next {ks vs : List ByteArray} {i : Nat} {x y : ByteArray} (hx : ks[i]? = some x) (hy : vs[i]? = some y) : putAll ks vs (i + 1) = ins x y (putAll ks vs i) := by
  rw [putAll, hx, hy]; rfl

/-- A row, filled up to k. -/
def part (f : ByteArray → Value) (z : Value) (xs : List ByteArray) (k : Nat) : List Value := (xs.take k).map f ++ List.replicate (xs.length - k) z

theorem part_zero (f : ByteArray → Value) (z : Value) (xs : List ByteArray) : part f z xs 0 = List.replicate xs.length z := by simp [part]

theorem part_all (f : ByteArray → Value) (z : Value) (xs : List ByteArray) : part f z xs xs.length = xs.map f := by simp [part]

theorem lt_of_at {α : Type} {xs : List α} {k : Nat} {x : α} (hx : xs[k]? = some x) : k < xs.length := by
  rcases Nat.lt_or_ge k xs.length with h | h
  · exact h
  · rw [List.getElem?_eq_none h] at hx; cases hx

theorem part_at (f : ByteArray → Value) (z : Value) {xs : List ByteArray} {k : Nat} (h : k < xs.length) : (part f z xs k)[k]? = some z := by
  unfold part
  rw [List.getElem?_append_right (by simp; omega), List.getElem?_replicate, if_pos (by simp; omega)]

theorem part_step (f : ByteArray → Value) (z : Value) {xs : List ByteArray} {k : Nat} {x : ByteArray} (hx : xs[k]? = some x) : (part f z xs k).set k (f x) = part f z xs (k + 1) := by
  have hk := lt_of_at hx
  have hl : ((xs.take k).map f).length = k := by simp; omega
  unfold part
  rw [List.set_append_right _ _ (by omega), hl, Nat.sub_self, show xs.length - k = (xs.length - (k + 1)) + 1 by omega, List.replicate_succ, List.set_cons_zero, List.take_add_one, hx]
  simp

/-- A row in the making. -/
def Filling (w : World) (t : TypeId) (g n : Nat) (f : ByteArray → Value) (z : Value) (xs : List ByteArray) (k : Nat) : Prop := n = xs.length ∧ SlRow w t (.slice (some ⟨g, 0, none⟩) n n) (part f z xs k) [g]

theorem Filling.start (w : World) (t : TypeId) (n : Nat) (f : ByteArray → Value) (z : Value) (xs : List ByteArray) (hn : n = xs.length) (h : n ≤ 4096) : Filling (w.alloc (.cells (madeCells #[z] n) t)) t w.heap.size n f z xs 0 := by
  refine ⟨hn, ?_⟩
  rw [part_zero, ← hn]
  exact SlRow.made w t z n (by omega)

theorem Filling.fr {S : List Nat} {w w' : World} {t : TypeId} {g n : Nat} {f : ByteArray → Value} {z : Value} {xs : List ByteArray} {k : Nat} (h : Filling w t g n f z xs k) (hf : Fr S w w') (hS : g ∉ S) : Filling w' t g n f z xs k :=
  ⟨h.1, h.2.fr hf (by simpa using hS)⟩

theorem Filling.cell {w : World} {t : TypeId} {g n : Nat} {f : ByteArray → Value} {z : Value} {xs : List ByteArray} {k : Nat} (h : Filling w t g n f z xs k) (hk : k < n) : w.cell? ⟨g, k, none⟩ = some z ∧ w.frozen? ⟨g, k, none⟩ = false :=
  ⟨h.2.cell k _ (part_at f z (by rw [← h.1]; exact hk)), h.2.free k⟩

theorem Filling.set {w : World} {t : TypeId} {g n : Nat} {f : ByteArray → Value} {z : Value} {xs : List ByteArray} {k : Nat} {x : ByteArray} (h : Filling w t g n f z xs k) (hx : xs[k]? = some x) : Filling (w.setCell ⟨g, k, none⟩ (f x)) t g n f z xs (k + 1) := by
  refine ⟨h.1, ?_⟩
  have := h.2.set k (f x)
  rw [part_step f z hx] at this
  exact this

theorem Filling.other {w : World} {t : TypeId} {g n : Nat} {f : ByteArray → Value} {z : Value} {xs : List ByteArray} {k : Nat} (h : Filling w t g n f z xs k) (a : Addr) (u : Value) (hne : g ≠ a.block) : Filling (w.setCell a u) t g n f z xs k :=
  ⟨h.1, h.2.keep (fun b hb => by rw [List.mem_singleton.1 hb]; exact Below.heap_setCell _ _ _ _ hne)⟩

theorem Filling.lt {w : World} {t : TypeId} {g n : Nat} {f : ByteArray → Value} {z : Value} {xs : List ByteArray} {k : Nat} (h : Filling w t g n f z xs k) : g < w.heap.size := h.2.lt g (by simp)

/-- Two rows in the making: what was got, and whether it was there. -/
def Two (M : List KV) (w : World) (g h n : Nat) (xs : List ByteArray) (k : Nat) : Prop :=
  Filling w 9 g n (fun q => .string ((look q M).getD ⟨#[]⟩)) (.string ⟨#[]⟩) xs k ∧ Filling w 4 h n (fun q => .bool (look q M).isSome) (.bool false) xs k

theorem two_start (M : List KV) (w : World) (n : Nat) (xs : List ByteArray) (hn : n = xs.length) (h4 : n ≤ 4096) :
    Two M ((w.alloc (.cells (madeCells #[.string ⟨#[]⟩] n) 9)).alloc (.cells (madeCells #[.bool false] n) 4)) w.heap.size (w.heap.size + 1) n xs 0 := by
  refine ⟨(Filling.start w 9 n _ _ xs hn h4).fr ((Fr.refl [] _).alloc _) (by simp), ?_⟩
  have := Filling.start (w.alloc (.cells (madeCells #[.string ⟨#[]⟩] n) 9)) 4 n (fun q => .bool (look q M).isSome) (.bool false) xs hn h4
  rw [show (w.alloc (.cells (madeCells #[.string ⟨#[]⟩] n) 9)).heap.size = w.heap.size + 1 by simp] at this
  exact this

theorem Two.fr {M : List KV} {S : List Nat} {w w' : World} {g h n : Nat} {xs : List ByteArray} {k : Nat} (H : Two M w g h n xs k) (hf : Fr S w w') (hg : g ∉ S) (hh : h ∉ S) : Two M w' g h n xs k :=
  ⟨H.1.fr hf hg, H.2.fr hf hh⟩

theorem Two.step {M : List KV} {w : World} {g h n : Nat} {xs : List ByteArray} {k : Nat} {x : ByteArray} (H : Two M w g h n xs k) (hne : g ≠ h) (hx : xs[k]? = some x) :
    Two M ((w.setCell ⟨g, k, none⟩ (.string ((look x M).getD ⟨#[]⟩))).setCell ⟨h, k, none⟩ (.bool (look x M).isSome)) g h n xs (k + 1) :=
  ⟨(H.1.set hx).other _ _ hne, (H.2.other _ _ (Ne.symm hne)).set hx⟩

/-- A row that is full. -/
theorem Filling.full {w : World} {t : TypeId} {g n : Nat} {f : ByteArray → Value} {z : Value} {xs : List ByteArray} (h : Filling w t g n f z xs n) {k : Nat} {x : ByteArray} (hx : xs[k]? = some x) : w.cell? ⟨g, k, none⟩ = some (f x) := by
  have h2 := h.2
  rw [h.1, part_all] at h2
  exact h2.cell k _ (by rw [List.getElem?_map, hx]; rfl)

theorem Two.at {M : List KV} {w : World} {g h n : Nat} {xs : List ByteArray} (H : Two M w g h n xs n) {k : Nat} {x : ByteArray} (hx : xs[k]? = some x) :
    w.cell? ⟨g, k, none⟩ = some (.string ((look x M).getD ⟨#[]⟩)) ∧ w.cell? ⟨h, k, none⟩ = some (.bool (look x M).isSome) :=
  ⟨H.1.full hx, H.2.full hx⟩

end Go.Proofs.Qxb6600882a
