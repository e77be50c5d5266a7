/-
  FnPutManyOrderedKeysKeepsEveryOne: the walk.
-/
import Derived.Test.Qxb6600882aManyA
import Derived.Test.Qxb6600882aPut
import Derived.Test.Qxb6600882aGet
namespace Go.Proofs.Qxb6600882a
open Go.RowKit

theorem Store.zero (w : World) : Store (w.alloc (.cells #[.pointer none, .int .i64 0, .int .u64 0] 30)) w.heap.size [w.heap.size] [] :=
  ⟨by simp [Srt], by simp, .pointer none, 0, by rw [(MapKept.heap_alloc w _).1], .inl ⟨rfl, rfl, rfl⟩⟩

theorem agree_some {q v : ByteArray} {M : List KV} (h : look q M = some v) : agree q v true M = true := by simp [agree, h]

theorem agree_none {q : ByteArray} {M : List KV} (h : look q M = none) : agree q ⟨#[]⟩ false M = true := by simp [agree, h]

set_option maxHeartbeats 2000000 in
set_option maxRecDepth 100000 in
theorem many_any (n : Nat) (hn : n ≤ 65536) (a1 : Int) (w : World) :
    Calls Try.prog 6 #[.int .i64 n, .int .u8 a1] w fun e w' => e = .returned (.bool true) ∧ Fr [] w w' := by
  go_enter Try.func6, Try.ntmps6
  go_wp2
  go_loopg [7] n (fun g s7 wr => ∃ i fp M, g = n - i ∧ i ≤ n ∧ s7 = .int .i64 i ∧ Store wr w.heap.size fp M ∧ (∀ x ∈ fp, w.heap.size ≤ x) ∧ Fr [] w wr ∧ Wrote (a1.tmod 3) n i M)
  case atStart =>
    exact ⟨0, _, _, by omega, by omega, rfl, Store.zero w, by simp, (Fr.refl [] w).alloc _, Wrote.start _ _⟩
  case round =>
    obtain ⟨i, fp, M, rfl, hi, rfl, hst, hge, hfr, hwr⟩ := hrel
    by_cases hlt : i < n
    · have HS : Hid (∀ (k v : ByteArray) (w2 : World), Fr [] wr w2 → Calls Try.prog 11 #[ptr w.heap.size, .string k, .string v] w2 fun e w3 => e = .returned (.tuple #[]) ∧ ∃ fp', Store w3 w.heap.size fp' (ins k v M) ∧ (∀ x ∈ fp', w.heap.size ≤ x) ∧ Fr [] w w3) := by
        intro k v w2 h2
        refine (put_any w.heap.size _ _ fp M w2 (hst.fr h2 (by simp))).mono ?_
        rintro e w3 ⟨rfl, fp', hs', hf', hx⟩
        refine ⟨rfl, fp', hs', fun x h => ?_, (hfr.step h2).trans hf' (fun x hx => .inr (hge x hx))⟩
        rcases hx x h with h | h
        · exact hge x h
        · have := hfr.size; have := h2.size; omega
      have HW : Hid (Wrote (a1.tmod 3) n i M) := hwr
      have HR : Hid (Fr [] w wr) := hfr
      clear hst hge hfr hwr
      go_wp2_with (first
        | (go_at_call 17; refine (even_int _ (by omega) (by omega) _).mono ?_; rintro e w2 ⟨rfl, hfr2⟩)
        | (go_at_call 18; refine (value_int _ (by omega) (by omega) _).mono ?_; rintro e w3 ⟨rfl, hfr3⟩)
        | (go_at_call 11; refine (HS.out _ _ _ (hfr2.step hfr3)).mono ?_; rintro e w4 ⟨rfl, fp', hs', hge', hfr'⟩))
      all_goals
        go_roundg (n - (i + 1))
        case measure => omega
        case rel => exact ⟨i + 1, fp', _, rfl, by omega, by go_num, hs', hge', hfr', HW.out.stepAt hlt hn (by first | exact jOf_back (by assumption) | exact jOf_in (by assumption) (by assumption) (by assumption) | exact jOf_out (by assumption) (by assumption) (by assumption) | exact jOf_on (by assumption) (by assumption))⟩
    · obtain rfl : i = n := by omega
      have HA : Hid (∀ q v o, agree q v o M = true → ∀ w2, Fr [] wr w2 → Calls Try.prog 13 #[ptr w.heap.size, .string q, .string v, .bool o] w2 fun e w3 => e = .returned (.bool true) ∧ Fr [] w2 w3) := by
        intro q v o hq w2 h2
        refine (agree_any w.heap.size q v o fp M w2 (hst.fr h2 (by simp))).mono ?_
        rintro e w3 ⟨rfl, n, rfl⟩
        exact ⟨by rw [hq], (Fr.refl [] w2).drewN n⟩
      have HW : Hid (Wrote (a1.tmod 3) i i M) := hwr
      have HK : Hid (∀ w2, Fr [] wr w2 → Calls Try.prog 13 #[ptr w.heap.size, .string ⟨#[107]⟩, .string ⟨#[]⟩, .bool false] w2 fun e w3 => e = .returned (.bool true) ∧ Fr [] w2 w3) :=
        HA.out _ _ _ (agree_none (hwr.2 _ (fun j _ => short_even 107 j)))
      have HL : Hid (∀ w2, Fr [] wr w2 → Calls Try.prog 13 #[ptr w.heap.size, .string ⟨#[108]⟩, .string ⟨#[]⟩, .bool false] w2 fun e w3 => e = .returned (.bool true) ∧ Fr [] w2 w3) :=
        HA.out _ _ _ (agree_none (hwr.2 _ (fun j _ => short_even 108 j)))
      have HR : Hid (Fr [] w wr) := hfr
      clear hst hge hfr hwr
      obtain ⟨wo, rfl⟩ : ∃ x, x = wr := ⟨_, rfl⟩
      go_wp2
      go_loopg [9] i (fun g s9 w1 => ∃ k, g = i - k ∧ k ≤ i ∧ s9 = .int .i64 k ∧ Fr [] wo w1)
      case atStart => exact ⟨0, by omega, by omega, rfl, Fr.refl _ _⟩
      case round =>
        obtain ⟨k, rfl, hk, rfl, hfr1⟩ := hrel
        by_cases hlt2 : k < i
        · obtain ⟨k1, hk1⟩ : ∃ x, evenKey k = x := ⟨_, rfl⟩
          obtain ⟨v1, hv1⟩ : ∃ x, valueOf k = x := ⟨_, rfl⟩
          obtain ⟨k2, hk2⟩ : ∃ x, oddKey k = x := ⟨_, rfl⟩
          have HE : Hid (∀ w2, Calls Try.prog 17 #[.int .i64 k] w2 fun e w3 => e = .returned (.string k1) ∧ Fr [] w2 w3) := by rw [← hk1]; exact even_any k (by omega)
          have HV : Hid (∀ w2, Calls Try.prog 18 #[.int .i64 k] w2 fun e w3 => e = .returned (.string v1) ∧ Fr [] w2 w3) := by rw [← hv1]; exact value_any k (by omega)
          have HO : Hid (∀ w2, Calls Try.prog 19 #[.int .i64 k] w2 fun e w3 => e = .returned (.string k2) ∧ Fr [] w2 w3) := by rw [← hk2]; exact odd_any k (by omega)
          have HAE : Hid (∀ w2, Fr [] wo w2 → Calls Try.prog 13 #[ptr w.heap.size, .string k1, .string v1, .bool true] w2 fun e w3 => e = .returned (.bool true) ∧ Fr [] w2 w3) :=
            HA.out _ _ _ (by rw [← hk1, ← hv1]; exact agree_some (HW.out.even hlt2))
          have HAO : Hid (∀ w2, Fr [] wo w2 → Calls Try.prog 13 #[ptr w.heap.size, .string k2, .string ⟨#[]⟩, .bool false] w2 fun e w3 => e = .returned (.bool true) ∧ Fr [] w2 w3) :=
            HA.out _ _ _ (by rw [← hk2]; exact agree_none (HW.out.2 _ (fun j hj => odd_even (by omega) (by omega))))
          clear hk1 hv1 hk2
          go_wp2_with (first
            | (go_at_call 17; refine (HE.out _).mono ?_; rintro e w2 ⟨rfl, hfr2⟩)
            | (go_at_call 18; refine (HV.out _).mono ?_; rintro e w3 ⟨rfl, hfr3⟩)
            | (go_at_call 13; have _t := hfr5; refine (HAO.out _ ((((hfr1.step hfr2).step hfr3).step hfr4).step hfr5)).mono ?_; rintro e w6 ⟨rfl, hfr6⟩)
            | (go_at_call 19; refine (HO.out _).mono ?_; rintro e w5 ⟨rfl, hfr5⟩)
            | (go_at_call 13; refine (HAE.out _ ((hfr1.step hfr2).step hfr3)).mono ?_; rintro e w4 ⟨rfl, hfr4⟩))
          go_roundg (i - (k + 1))
          case measure => omega
          case rel => exact ⟨k + 1, rfl, by omega, by go_num, ((((hfr1.step hfr2).step hfr3).step hfr4).step hfr5).step hfr6⟩
        · go_wp2_with (first
            | (go_at_call 13; have _t := hfr2; refine (HL.out _ (hfr1.step hfr2)).mono ?_; rintro e w3 ⟨rfl, hfr3⟩)
            | (go_at_call 13; refine (HK.out _ hfr1).mono ?_; rintro e w2 ⟨rfl, hfr2⟩))
          go_ret
          exact ⟨rfl, ((HR.out.step hfr1).step hfr2).step hfr3⟩
end Go.Proofs.Qxb6600882a
