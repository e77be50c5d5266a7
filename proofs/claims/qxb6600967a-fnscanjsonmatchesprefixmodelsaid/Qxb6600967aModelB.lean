/-
  zzLongestViable.
-/
import Derived.Test.Qxb6600967aModelA
namespace Go.Proofs.Qxb6600967a
open Go.RowKit

set_option maxHeartbeats 1000000 in
theorem longest_any (s : ByteArray) (n q : Nat) (hst : Stops (bs s) n q) (hs : s.size ≤ 1048576) (w : World) :
    Calls Try.prog 18 #[.string s] w fun e w' => e = .returned (.int .i64 n) ∧ w' = w := by
  have hn : n ≤ s.size := by have := hst.1.1; rw [bs_len] at this; exact this
  have HV : Hid (∀ k w1, k ≤ s.size → Calls Try.prog 26 #[.string (s.extract 0 k)] w1 fun e w' => e = .returned (.bool (decide (k ≤ n))) ∧ w' = w1) := fun k w1 hk => by
    rw [← viable_take hst (k := k) (by rw [bs_len]; exact hk), ← bs_head]
    exact viable_any _ (by have := head_size s k; omega) w1
  clear hst
  go_enter Try.func18, Try.ntmps18
  go_wp2
  go_loop [3, 4] (fun s3 s4 => ∃ (lo hi : Nat), s3 = .int .i64 lo ∧ s4 = .int .i64 hi ∧ lo ≤ n ∧ n < hi ∧ hi ≤ s.size + 1) (fun s3 s4 => (intOf s4).toNat - (intOf s3).toNat)
  case atStart => exact ⟨0, s.size + 1, rfl, by go_num, Nat.zero_le _, by omega, Nat.le_refl _⟩
  case round =>
    obtain ⟨lo, hi, rfl, rfl, h1, h2, h3⟩ := hrel
    by_cases hlt : 1 < hi - lo
    · have h4 : (1 : Int) < (hi : Int) - (lo : Int) := by omega
      by_cases hm : lo + (hi - lo) / 2 ≤ n
      · have H1 : Hid (∀ w1, Calls Try.prog 26 #[.string (s.extract 0 (lo + (hi - lo) / 2))] w1 fun e w' => e = .returned (.bool true) ∧ w' = w1) := fun w1 => by
          have := HV.out (lo + (hi - lo) / 2) w1 (by omega)
          rw [decide_eq_true hm] at this
          exact this
        go_wp2_with (go_at_call 26; refine (H1.out _).mono ?_; rintro e w2 ⟨rfl, rfl⟩)
        refine ⟨⟨lo + (hi - lo) / 2, hi, by go_num, rfl, hm, h2, h3⟩, ?_⟩
        simp [intOf]
        omega
      · have H1 : Hid (∀ w1, Calls Try.prog 26 #[.string (s.extract 0 (lo + (hi - lo) / 2))] w1 fun e w' => e = .returned (.bool false) ∧ w' = w1) := fun w1 => by
          have := HV.out (lo + (hi - lo) / 2) w1 (by omega)
          rw [decide_eq_false hm] at this
          exact this
        go_wp2_with (go_at_call 26; refine (H1.out _).mono ?_; rintro e w2 ⟨rfl, rfl⟩)
        refine ⟨⟨lo, lo + (hi - lo) / 2, rfl, by go_num, h1, by omega, by omega⟩, ?_⟩
        simp [intOf]
        omega
    · obtain rfl : lo = n := by omega
      have h4 : ¬ (1 : Int) < (hi : Int) - (lo : Int) := by omega
      go_wp2
      go_ret
      exact ⟨rfl, rfl⟩

end Go.Proofs.Qxb6600967a
