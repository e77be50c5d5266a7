/-
  The small functions, walked: isDigit, zzDigit, digitsEnd, zzAllDigits, zzHasFloatMark, the bounds.
-/
import Derived.Test.Qxb6600967aRun
import Derived.Test.Qxb6600967aRows
import Derived.WalkKit
import Derived.WalkSpells
import Derived.WalkLawsBesides
import Derived.Deep.LoopGhost
namespace Go.Proofs.Qxb6600967a
open Go.RowKit

abbrev bs (s : ByteArray) : B := s.data.toList

theorem bs_len (s : ByteArray) : (bs s).length = s.size := Array.length_toList

theorem bs_at {s : ByteArray} {k : Nat} (h : k < s.size) : (bs s)[k]? = some s[k] := by
  rw [List.getElem?_eq_getElem (by rw [bs_len]; exact h)]
  rfl

def isD (c : Int) : Bool := decide (48 ≤ c) && decide (c ≤ 57)

theorem isD_dg (c : UInt8) : isD (c.toNat : Int) = dg c := by
  unfold isD dg
  rw [Bool.eq_iff_iff]
  simp only [Bool.and_eq_true, decide_eq_true_eq]
  omega

theorem isD_lo {c : Int} (h : ¬ 48 ≤ c) : isD c = false := by
  unfold isD
  rw [decide_eq_false h]
  rfl

theorem isD_hi {c : Int} (h : 48 ≤ c) : isD c = decide (c ≤ 57) := by
  unfold isD
  rw [decide_eq_true h]
  rfl

theorem isDigit_any (c : Int) (w : World) : Calls Try.prog 24 #[.int .u8 c] w fun e w' => e = .returned (.bool (isD c)) ∧ w' = w := by
  by_cases h : 48 ≤ c
  · rw [isD_hi h]
    go_enter Try.func24, Try.ntmps24
    go_wp2
    go_ret
    exact ⟨rfl, rfl⟩
  · rw [isD_lo h]
    go_enter Try.func24, Try.ntmps24
    go_wp2
    go_ret
    exact ⟨rfl, rfl⟩

theorem zzDigit_any (c : Int) (w : World) : Calls Try.prog 20 #[.int .u8 c] w fun e w' => e = .returned (.bool (isD c)) ∧ w' = w := by
  by_cases h : 48 ≤ c
  · rw [isD_hi h]
    go_enter Try.func20, Try.ntmps20
    go_wp2
    go_ret
    exact ⟨rfl, rfl⟩
  · rw [isD_lo h]
    go_enter Try.func20, Try.ntmps20
    go_wp2
    go_ret
    exact ⟨rfl, rfl⟩

/-- The byte at k, and what the walk sees of it. -/
theorem digit_at (s : ByteArray) {k : Nat} (h : k < s.size) (w : World) : Calls Try.prog 24 #[.int .u8 (s[k].toNat : Int)] w fun e w' => e = .returned (.bool (dg s[k])) ∧ w' = w := by
  rw [← isD_dg]; exact isDigit_any _ w

theorem zzdigit_at (s : ByteArray) {k : Nat} (h : k < s.size) (w : World) : Calls Try.prog 20 #[.int .u8 (s[k].toNat : Int)] w fun e w' => e = .returned (.bool (dg s[k])) ∧ w' = w := by
  rw [← isD_dg]; exact zzDigit_any _ w

/-- From i on, digits up to j, and no digit there. -/
def DigitsTo (l : B) (i j : Nat) : Prop := i ≤ j ∧ j ≤ l.length ∧ (∀ k c, i ≤ k → k < j → l[k]? = some c → dg c = true) ∧ ∀ c, l[j]? = some c → dg c = false

def EndsAt (e : Ending) (l : B) (i : Nat) : Prop := ∃ j : Nat, e = .returned (.int .i64 j) ∧ DigitsTo l i j

set_option maxHeartbeats 400000 in
theorem digitsEnd_any (s : ByteArray) (i : Nat) (hi : i ≤ s.size) (hs : s.size ≤ 1048577) (w : World) :
    Calls Try.prog 25 #[.string s, .int .i64 i] w fun e w' => EndsAt e (bs s) i ∧ w' = w := by
  go_enter Try.func25, Try.ntmps25
  go_wp2
  go_loop [1] (fun s1 => ∃ (k : Nat), s1 = .int .i64 k ∧ k ≤ s.size ∧ i ≤ k ∧ Hid (∀ m c, i ≤ m → m < k → (bs s)[m]? = some c → dg c = true)) (fun s4 => s.size - (intOf s4).toNat)
  case atStart => exact ⟨i, rfl, hi, Nat.le_refl _, fun m c h1 h2 => absurd h2 (by omega)⟩
  case round =>
    obtain ⟨k, rfl, hk, hik, H⟩ := hrel
    by_cases hlt : k < s.size
    · have HC : Hid ((bs s)[k]? = some s[k]) := bs_at hlt
      cases hd : dg s[k] with
      | true =>
        go_wp2_with (go_at_call 24; refine (digit_at s hlt _).mono ?_; rintro e w2 ⟨rfl, rfl⟩)
        refine ⟨⟨k + 1, by go_num, by omega, by omega, fun m c h1 h2 h3 => ?_⟩, ?_⟩
        · rcases Nat.lt_or_ge m k with h | h
          · exact H.out m c h1 h h3
          · rw [show m = k by omega, HC.out] at h3
            rw [← Option.some.inj h3]
            exact hd
        · simp [intOf]; omega
      | false =>
        go_wp2_with (go_at_call 24; refine (digit_at s hlt _).mono ?_; rintro e w2 ⟨rfl, rfl⟩)
        go_ret
        exact ⟨⟨k, rfl, hik, by rw [bs_len]; exact hk, H.out, fun c h => by rw [HC.out] at h; rw [← Option.some.inj h]; exact hd⟩, rfl⟩
    · go_wp2
      go_ret
      exact ⟨⟨k, rfl, hik, by rw [bs_len]; exact hk, H.out, fun c h => by rw [List.getElem?_eq_none (by rw [bs_len]; omega)] at h; cases h⟩, rfl⟩

end Go.Proofs.Qxb6600967a
