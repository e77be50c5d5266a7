/-
  FnPutOrderOfDistinctKeysIsUnseen: two stores side by side; the plain law.
-/
import Derived.Test.Qxb6600882aLawD
namespace Go.Proofs.Qxb6600882a
open Go.RowKit

/-- kvByteSize, and what a small answer says. -/
def Small (xs : List ByteArray) (k : Nat) : Prop := ∀ j x, j < k → xs[j]? = some x → x.size ≤ 1048576

def SizeIs (e : Ending) (z : Int) (xs : List ByteArray) : Prop := e = .returned (.int .i64 z) ∧ 0 ≤ z ∧ z ≤ 1048577 ∧ (z ≤ 1048576 → Small xs xs.length)

set_option maxHeartbeats 1000000 in
theorem bytesize_le (v : Value) (xs : List ByteArray) (w : World) (h : StrArr w v xs) :
    Calls Try.prog 8 #[v] w fun e w' => (∃ z : Int, SizeIs e z xs) ∧ w' = w := by
  rcases h.form with ⟨rfl, a, cap, rfl⟩ | ⟨b, off, cap, rfl, h0, hm, hc⟩
  · go_enter Try.func8, Try.ntmps8
    go_wp2
    go_loop [3, 4] (fun s3 s4 => s3 = .int .i64 0 ∧ s4 = .int .i64 0) (fun _ _ => 0)
    case atStart => exact ⟨rfl, rfl⟩
    case round =>
      obtain ⟨rfl, rfl⟩ := hrel
      go_wp2
      go_ret
      exact ⟨⟨_, rfl, by omega, by omega, fun _ j x hj => absurd hj (Nat.not_lt_zero _)⟩, rfl⟩
  · have HC : Hid (∀ (j : Nat) (x : ByteArray), xs[j]? = some x → w.cell? ⟨b, off + j, none⟩ = some (.string x) ∧ x.size ≤ 9223372036854775807) := hc
    clear hc
    obtain ⟨n, hn⟩ : ∃ n, xs.length = n := ⟨_, rfl⟩
    have HN : Hid (xs.length = n) := hn
    rw [hn] at h0 hm ⊢
    clear hn
    by_cases hbig : 65536 < n
    · go_enter Try.func8, Try.ntmps8
      go_wp2
      go_ret
      exact ⟨⟨1048577, rfl, by omega, by omega, fun h => absurd h (by omega)⟩, rfl⟩
    · have hle : n ≤ 65536 := by omega
      go_enter Try.func8, Try.ntmps8
      go_wp2
      go_loop [3, 4] (fun s3 s4 => ∃ (z : Int) (k : Nat), s3 = .int .i64 z ∧ s4 = .int .i64 k ∧ k ≤ n ∧ 0 ≤ z ∧ z ≤ 1048576 ∧ Hid (Small xs k)) (fun _ s4 => n - (intOf s4).toNat)
      case atStart => exact ⟨_, 0, rfl, rfl, Nat.zero_le _, by omega, by omega, fun j x hj => absurd hj (Nat.not_lt_zero _)⟩
      case round =>
        obtain ⟨z, k, rfl, rfl, hk, hz0, hz1, HS⟩ := hrel
        by_cases hlt : k < n
        · obtain ⟨x, hx⟩ : ∃ x, xs[k]? = some x := ⟨xs[k]'(by rw [HN.out]; exact hlt), List.getElem?_eq_getElem _⟩
          obtain ⟨hcell, hsz⟩ := HC.out k x hx
          have HX : Hid (xs[k]? = some x) := hx
          clear hx
          go_wp2
          all_goals first
            | (go_ret; exact ⟨⟨1048577, rfl, by omega, by omega, fun h => absurd h (by omega)⟩, rfl⟩)
            | (refine ⟨⟨_, k + 1, rfl, by go_num, by omega, by omega, by omega, ?_⟩, ?_⟩
               · intro j y hj hy
                 rcases Nat.lt_or_ge j k with h | h
                 · exact HS.out j y h hy
                 · rw [show j = k by omega, HX.out] at hy
                   obtain rfl := Option.some.inj hy
                   omega
               · simp [intOf]; omega)
        · go_wp2
          go_ret
          exact ⟨⟨z, rfl, hz0, by omega, fun _ => by rw [HN.out]; rw [show n = k by omega]; exact HS.out⟩, rfl⟩

/-- Two stores, apart from each other, behind the blocks of w0. -/
def Both (w0 : World) (sa sb : Nat) (A B : List KV) (w : World) : Prop :=
  ∃ fa fb, Store w sa fa A ∧ Store w sb fb B ∧ (∀ x ∈ fa, x ∉ fb) ∧ (∀ x ∈ fa, w0.heap.size ≤ x) ∧ (∀ x ∈ fb, w0.heap.size ≤ x) ∧ Fr [] w0 w

theorem Both.swap {w0 : World} {sa sb : Nat} {A B : List KV} {w : World} (h : Both w0 sa sb A B w) : Both w0 sb sa B A w := by
  obtain ⟨fa, fb, h1, h2, h3, h4, h5, h6⟩ := h
  exact ⟨fb, fa, h2, h1, fun x hb ha => h3 x ha hb, h5, h4, h6⟩

theorem Both.out {w0 : World} {sa sb : Nat} {A B : List KV} {w : World} (h : Both w0 sa sb A B w) : Fr [] w0 w := by
  obtain ⟨fa, fb, h1, h2, h3, h4, h5, h6⟩ := h
  exact h6

theorem Both.start (w : World) : Both w w.heap.size (w.heap.size + 1) [] [] ((w.alloc (.cells #[.pointer none, .int .i64 0, .int .u64 0] 30)).alloc (.cells #[.pointer none, .int .i64 0, .int .u64 0] 30)) := by
  have ha : Store (w.alloc (.cells #[.pointer none, .int .i64 0, .int .u64 0] 30)) w.heap.size [w.heap.size] [] := ⟨by simp [Srt], by simp, .pointer none, 0, by rw [(MapKept.heap_alloc w _).1], .inl ⟨rfl, rfl, rfl⟩⟩
  refine ⟨[w.heap.size], [w.heap.size + 1], ha.fr ((Fr.refl [] _).alloc _) (by simp), ⟨by simp [Srt], by simp, .pointer none, 0, ?_, .inl ⟨rfl, rfl, rfl⟩⟩, by simp, by simp, by simp, ((Fr.refl [] w).alloc _).alloc _⟩
  have h1 := (MapKept.heap_alloc (w.alloc (.cells #[.pointer none, .int .i64 0, .int .u64 0] 30)) (.cells #[.pointer none, .int .i64 0, .int .u64 0] 30)).1
  rw [show (w.alloc (.cells #[.pointer none, .int .i64 0, .int .u64 0] 30)).heap.size = w.heap.size + 1 by simp] at h1
  exact h1

theorem Both.fr {w0 : World} {sa sb : Nat} {A B : List KV} {w w' : World} (h : Both w0 sa sb A B w) (hf : Fr [] w w') : Both w0 sa sb A B w' := by
  obtain ⟨fa, fb, h1, h2, h3, h4, h5, h6⟩ := h
  exact ⟨fa, fb, h1.fr hf (by simp), h2.fr hf (by simp), h3, h4, h5, h6.step hf⟩

theorem Both.put {w0 : World} {sa sb : Nat} {A B : List KV} {w : World} (h : Both w0 sa sb A B w) (k v : ByteArray) :
    Calls Try.prog 11 #[ptr sa, .string k, .string v] w fun e w' => e = .returned (.tuple #[]) ∧ Both w0 sa sb (ins k v A) B w' := by
  obtain ⟨fa, fb, h1, h2, h3, h4, h5, h6⟩ := h
  refine (put_any sa k v fa A w h1).mono ?_
  rintro e w' ⟨rfl, fp', hs', hf', hx⟩
  refine ⟨rfl, fp', fb, hs', h2.fr hf' (fun x hb ha => h3 x ha hb), fun x h hb => ?_, fun x h => ?_, h5, h6.trans hf' (fun x hx => .inr (h4 x hx))⟩
  · rcases hx x h with h | h
    · exact h3 x h hb
    · have := h2.lt x hb; omega
  · rcases hx x h with h | h
    · exact h4 x h
    · have := h6.size; omega

theorem Both.get {w0 : World} {sa sb : Nat} {A B : List KV} {w : World} (h : Both w0 sa sb A B w) (q : ByteArray) :
    Calls Try.prog 15 #[ptr sa, .string q] w fun e w' => e = .returned (.tuple #[.string ((look q A).getD ⟨#[]⟩), .bool (look q A).isSome]) ∧ ∃ n, w' = w.drewN n := by
  obtain ⟨fa, fb, h1, _⟩ := h
  exact get_any sa q fa A w h1

theorem Both.agree {w0 : World} {sa sb : Nat} {A B : List KV} {w : World} (h : Both w0 sa sb A B w) (q v : ByteArray) (o : Bool) (hq : Qxb6600882a.agree q v o A = true) :
    Calls Try.prog 13 #[ptr sa, .string q, .string v, .bool o] w fun e w' => e = .returned (.bool true) ∧ ∃ n, w' = w.drewN n := by
  obtain ⟨fa, fb, h1, _⟩ := h
  refine (agree_any sa q v o fa A w h1).mono ?_
  rintro e w' ⟨rfl, hn⟩
  exact ⟨by rw [hq], hn⟩

/-- The store behind d pairs, the last first. -/
def putBack (ks vs : List ByteArray) (n : Nat) : Nat → List KV
  | 0 => []
  | d + 1 => ins ((ks[n - 1 - d]?).getD ⟨#[]⟩) ((vs[n - 1 - d]?).getD ⟨#[]⟩) (putBack ks vs n d)

theorem putBack_next {ks vs : List ByteArray} {n d : Nat} {x y : ByteArray} (hx : ks[n - 1 - d]? = some x) (hy : vs[n - 1 - d]? = some y) : putBack ks vs n (d + 1) = ins x y (putBack ks vs n d) := by
  rw [putBack, hx, hy]; rfl

/-- The first n keys differ. -/
def Dist (ks : List ByteArray) (n : Nat) : Prop := ∀ i j x, i < n → j < i → ks[i]? = some x → ks[j]? ≠ some x

theorem Dist.inj {ks : List ByteArray} {n i j : Nat} {x : ByteArray} (h : Dist ks n) (hi : i < n) (hj : j < n) (hx : ks[i]? = some x) (hy : ks[j]? = some x) : i = j := by
  rcases Nat.lt_trichotomy i j with h1 | h1 | h1
  · exact absurd hx (h j i x hj h1 hy)
  · exact h1
  · exact absurd hy (h i j x hi h1 hx)

theorem all_none {ks vs : List ByteArray} {q : ByteArray} : ∀ (k : Nat), k ≤ ks.length → (∀ i, i < k → ks[i]? ≠ some q) → look q (putAll ks vs k) = none
  | 0, _, _ => rfl
  | k + 1, hk, h => by
    obtain ⟨x, hx⟩ : ∃ x, ks[k]? = some x := ⟨ks[k]'(by omega), List.getElem?_eq_getElem _⟩
    have hne : q ≠ x := fun e => h k (by omega) (by rw [hx, e])
    rw [putAll, hx, Option.getD_some, look_ins_other _ _ _ hne]
    exact all_none k (by omega) (fun i hi => h i (by omega))

theorem all_some {ks vs : List ByteArray} {q y : ByteArray} {n i : Nat} (hd : Dist ks n) (hn : n ≤ ks.length) (hin : i < n) (hx : ks[i]? = some q) (hy : vs[i]? = some y) : ∀ (k : Nat), k ≤ n → i < k → look q (putAll ks vs k) = some y
  | 0, _, hi => absurd hi (Nat.not_lt_zero _)
  | k + 1, hk, hi => by
    by_cases hik : i = k
    · subst hik
      rw [putAll_next hx hy, look_ins_same]
    · obtain ⟨x, hxk⟩ : ∃ x, ks[k]? = some x := ⟨ks[k]'(by omega), List.getElem?_eq_getElem _⟩
      have hne : q ≠ x := fun e => hik (hd.inj hin (by omega) hx (by rw [hxk, e]))
      rw [putAll, hxk, Option.getD_some, look_ins_other _ _ _ hne]
      exact all_some hd hn hin hx hy k (by omega) (by omega)

theorem back_none {ks vs : List ByteArray} {q : ByteArray} {n : Nat} (hn : n ≤ ks.length) (h : ∀ i, i < n → ks[i]? ≠ some q) : ∀ (d : Nat), d ≤ n → look q (putBack ks vs n d) = none
  | 0, _ => rfl
  | d + 1, hd => by
    obtain ⟨x, hx⟩ : ∃ x, ks[n - 1 - d]? = some x := ⟨ks[n - 1 - d]'(by omega), List.getElem?_eq_getElem _⟩
    have hne : q ≠ x := fun e => h (n - 1 - d) (by omega) (by rw [hx, e])
    rw [putBack, hx, Option.getD_some, look_ins_other _ _ _ hne]
    exact back_none hn h d (by omega)

theorem back_some {ks vs : List ByteArray} {q y : ByteArray} {n i : Nat} (hd : Dist ks n) (hn : n ≤ ks.length) (hin : i < n) (hx : ks[i]? = some q) (hy : vs[i]? = some y) : ∀ (d : Nat), d ≤ n → n - d ≤ i → look q (putBack ks vs n d) = some y
  | 0, _, hi => absurd hin (by omega)
  | d + 1, hdn, hi => by
    by_cases hik : i = n - 1 - d
    · rw [hik] at hx hy
      rw [putBack_next hx hy, look_ins_same]
    · obtain ⟨x, hxk⟩ : ∃ x, ks[n - 1 - d]? = some x := ⟨ks[n - 1 - d]'(by omega), List.getElem?_eq_getElem _⟩
      have hne : q ≠ x := fun e => hik (hd.inj hin (by omega) hx (by rw [hxk, e]))
      rw [putBack, hxk, Option.getD_some, look_ins_other _ _ _ hne]
      exact back_some hd hn hin hx hy d (by omega) (by omega)

theorem same_look {ks vs : List ByteArray} {n : Nat} (hd : Dist ks n) (hn : n ≤ ks.length) (hv : n ≤ vs.length) (q : ByteArray) : look q (putBack ks vs n n) = look q (putAll ks vs n) := by
  by_cases h : ∃ i, i < n ∧ ks[i]? = some q
  · obtain ⟨i, hi, hx⟩ := h
    obtain ⟨y, hy⟩ : ∃ y, vs[i]? = some y := ⟨vs[i]'(by omega), List.getElem?_eq_getElem _⟩
    rw [all_some hd hn hi hx hy n (Nat.le_refl _) hi, back_some hd hn hi hx hy n (Nat.le_refl _) (by omega)]
  · have h' : ∀ i, i < n → ks[i]? ≠ some q := fun i hi hx => h ⟨i, hi, hx⟩
    rw [all_none n hn h', back_none hn h' n (Nat.le_refl _)]

end Go.Proofs.Qxb6600882a
