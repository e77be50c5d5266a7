/-
  zzViable, zzLongestViable.
-/
import Derived.Test.Qxb6600967aNum
namespace Go.Proofs.Qxb6600967a
open Go.RowKit

theorem bs_zero (p : ByteArray) : bs (p ++ ⟨#[48]⟩) = bs p ++ [48] := by
  simp [bs, ByteArray.data_append]

theorem zero_size (p : ByteArray) : (p ++ ⟨#[48]⟩ : ByteArray).size = p.size + 1 := by
  rw [← bs_len, bs_zero, List.length_append, bs_len]
  rfl

set_option maxHeartbeats 1000000 in
theorem viable_any (p : ByteArray) (hp : p.size ≤ 1048576) (w : World) :
    Calls Try.prog 26 #[.string p] w fun e w' => e = .returned (.bool (viable (bs p))) ∧ w' = w := by
  have hv : viable (bs p) = (isNum (bs p) || isNum (bs p ++ [48])) := rfl
  have h1 : ∀ w1, Calls Try.prog 12 #[.string p] w1 fun e w' => e = .returned (.bool (isNum (bs p))) ∧ w' = w1 := fun w1 => isNumber_any p (by omega) w1
  have h2 : ∀ w1, Calls Try.prog 12 #[.string (p ++ ⟨#[48]⟩)] w1 fun e w' => e = .returned (.bool (isNum (bs p ++ [48]))) ∧ w' = w1 := fun w1 => by
    rw [← bs_zero]
    exact isNumber_any _ (by rw [zero_size]; omega) w1
  rw [hv]
  generalize isNum (bs p) = x at h1 ⊢
  generalize isNum (bs p ++ [48]) = y at h2 ⊢
  clear hv
  have H1 : Hid (∀ w1, Calls Try.prog 12 #[.string p] w1 fun e w' => e = .returned (.bool x) ∧ w' = w1) := h1
  have H2 : Hid (∀ w1, Calls Try.prog 12 #[.string (p ++ ⟨#[48]⟩)] w1 fun e w' => e = .returned (.bool y) ∧ w' = w1) := h2
  clear h1 h2
  have hc : (p.size : Int) ≤ 8388608 := by omega
  cases x with
  | true =>
    go_enter Try.func26, Try.ntmps26
    go_wp2_with (go_at_call 12; refine (H1.out _).mono ?_; rintro e w2 ⟨rfl, rfl⟩)
    go_ret
    exact ⟨rfl, rfl⟩
  | false =>
    go_enter Try.func26, Try.ntmps26
    go_wp2_with (first
      | (go_at_call 12; have _t := m1; refine (H2.out _).mono ?_; rintro e w2 ⟨rfl, rfl⟩)
      | (go_at_call 12; refine (H1.out _).mono ?_; rintro e w2 ⟨rfl, rfl⟩; have m1 : True := trivial))
    go_ret
    exact ⟨rfl, rfl⟩

theorem viable_take {l : B} {n q k : Nat} (h : Stops l n q) (hk : k ≤ l.length) : viable (l.take k) = decide (k ≤ n) := by
  rw [viable_go]
  by_cases hkn : k ≤ n
  · obtain ⟨q', hq⟩ := go_take_le h.1.2 hkn
    rw [hq, decide_eq_true hkn]
    rfl
  · rw [decide_eq_false hkn]
    cases hg : go 0 (l.take k) with
    | none => rfl
    | some q' => exact absurd (h.max ⟨hk, hg⟩) hkn

end Go.Proofs.Qxb6600967a
