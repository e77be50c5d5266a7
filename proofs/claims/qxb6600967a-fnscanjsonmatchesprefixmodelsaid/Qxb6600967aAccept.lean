/-
  FnScanJSONAcceptsExactlyWholeNumbers, walked.
-/
import Derived.Test.Qxb6600967aNum
namespace Go.Proofs.Qxb6600967a
open Go.RowKit

theorem fin_end {q : Nat} (h : q ≤ 8) : fin q = decide (endFault q = 0) := by
  have : q = 0 ∨ q = 1 ∨ q = 2 ∨ q = 3 ∨ q = 4 ∨ q = 5 ∨ q = 6 ∨ q = 7 ∨ q = 8 := by omega
  rcases this with rfl | rfl | rfl | rfl | rfl | rfl | rfl | rfl | rfl <;> rfl

theorem isNum_whole {l : B} {n q : Nat} (h : Stops l n q) (hn : n = l.length) : isNum l = decide (fault l n q = 0) := by
  subst hn
  have h1 := h.1.2
  rw [List.take_length] at h1
  rw [isNum_go, h1, fault, List.getElem?_eq_none (Nat.le_refl _)]
  exact fin_end h.le8

theorem isNum_short {l : B} {n q : Nat} (h : Stops l n q) (hn : ¬ n = l.length) : isNum l = false := by
  rw [isNum_go]
  cases hg : go 0 l with
  | none => rfl
  | some q' =>
    exfalso
    have h1 : Mid l l.length q' := ⟨Nat.le_refl _, by rw [List.take_length]; exact hg⟩
    have h2 := h.max h1
    have h3 := h.1.1
    omega

set_option maxHeartbeats 1000000 in
theorem accept_walk (a : ByteArray) (w : World) : Calls Try.prog 4 #[.string a] w fun e w' => e = .returned (.bool true) ∧ Fr [] w w' := by
  by_cases hbig : 1048576 < a.size
  · go_enter Try.func4, Try.ntmps4
    go_wp2_with (go_at_call 11; refine (big11 a hbig _).mono ?_; rintro e w1 ⟨rfl, rfl⟩)
    go_ret
    exact ⟨rfl, Fr.refl _ _⟩
  · have hb2 : ¬ (1048576 : Int) < (a.size : Int) := by omega
    obtain ⟨n, q, hst⟩ := stops_of (bs a)
    have HJ : Hid (∀ w1, Calls Try.prog 9 #[.string a] w1 fun e w' => e = .returned (.tuple #[.int .i64 n, .bool (mark ((bs a).take n)), .int .i64 (fault (bs a) n q)]) ∧ Fr [] w1 w') := fun w1 => scanJSON_any a n q hst (by omega) w1
    generalize mark ((bs a).take n) = mk at HJ
    by_cases hn : n = a.size
    · have hi := isNum_whole hst (by rw [bs_len]; exact hn)
      have hn' : (n : Int) = (a.size : Int) := by omega
      by_cases hf : fault (bs a) n q = 0
      · rw [decide_eq_true hf] at hi
        have HI : Hid (∀ w1, Calls Try.prog 12 #[.string a] w1 fun e w' => e = .returned (.bool true) ∧ w' = w1) := fun w1 => by rw [← hi]; exact isNumber_any a (by omega) w1
        rw [hf] at HJ
        clear hi hst hf hn
        go_enter Try.func4, Try.ntmps4
        go_wp2_with (first
          | (go_at_call 11; refine (small11 a hbig _).mono ?_; rintro e w1 ⟨rfl, rfl⟩)
          | (go_at_call 9; refine (HJ.out _).mono ?_; rintro e w2 ⟨rfl, hg1⟩)
          | (go_at_call 12; refine (HI.out _).mono ?_; rintro e w3 ⟨rfl, rfl⟩))
        go_ret
        exact ⟨rfl, hg1⟩
      · rw [decide_eq_false hf] at hi
        have HI : Hid (∀ w1, Calls Try.prog 12 #[.string a] w1 fun e w' => e = .returned (.bool false) ∧ w' = w1) := fun w1 => by rw [← hi]; exact isNumber_any a (by omega) w1
        have hf2 : ¬ ((fault (bs a) n q : Nat) : Int) = 0 := by omega
        clear hi hst hn
        generalize fault (bs a) n q = f at HJ hf hf2
        go_enter Try.func4, Try.ntmps4
        go_wp2_with (first
          | (go_at_call 11; refine (small11 a hbig _).mono ?_; rintro e w1 ⟨rfl, rfl⟩)
          | (go_at_call 9; refine (HJ.out _).mono ?_; rintro e w2 ⟨rfl, hg1⟩)
          | (go_at_call 12; refine (HI.out _).mono ?_; rintro e w3 ⟨rfl, rfl⟩))
        go_ret
        refine ⟨?_, hg1⟩
        have hf3 : ((f : Int) == 0) = false := beq_eq_false_iff_ne.2 hf2
        simp [hf]
    · have hi := isNum_short hst (by rw [bs_len]; exact hn)
      have hn' : ¬ (n : Int) = (a.size : Int) := by omega
      have HI : Hid (∀ w1, Calls Try.prog 12 #[.string a] w1 fun e w' => e = .returned (.bool false) ∧ w' = w1) := fun w1 => by rw [← hi]; exact isNumber_any a (by omega) w1
      clear hi hst
      generalize fault (bs a) n q = f at HJ
      go_enter Try.func4, Try.ntmps4
      go_wp2_with (first
        | (go_at_call 11; refine (small11 a hbig _).mono ?_; rintro e w1 ⟨rfl, rfl⟩)
        | (go_at_call 9; refine (HJ.out _).mono ?_; rintro e w2 ⟨rfl, hg1⟩)
        | (go_at_call 12; refine (HI.out _).mono ?_; rintro e w3 ⟨rfl, rfl⟩))
      go_ret
      refine ⟨?_, hg1⟩
      simp

end Go.Proofs.Qxb6600967a
