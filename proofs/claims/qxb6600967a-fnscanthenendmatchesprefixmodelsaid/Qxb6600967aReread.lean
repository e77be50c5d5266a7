/-
  FnScanJSONRereadsItsOwnNumber, walked.
-/
import Derived.Test.Qxb6600967aBounds
namespace Go.Proofs.Qxb6600967a
open Go.RowKit

theorem endFault_zero {q : Nat} {c : UInt8} (h : stuckFault q c = 0) : endFault q = 0 := by
  unfold stuckFault at h
  unfold endFault
  repeat' split at h
  all_goals first
    | (simp_all; done)
    | (cases h; done)

theorem fault_zero {l : B} {n q : Nat} (h : fault l n q = 0) : endFault q = 0 := by
  unfold fault at h
  split at h
  · exact endFault_zero h
  · exact h

theorem Stops.pos {l : B} {n q : Nat} (h : Stops l n q) (hf : endFault q = 0) : 1 ≤ n := by
  rcases Nat.lt_or_ge 0 n with h1 | h1
  · exact h1
  · obtain rfl : n = 0 := by omega
    have h2 := h.1.2
    rw [List.take_zero] at h2
    cases h2
    cases hf

theorem Stops.again {l : B} {n q : Nat} (h : Stops l n q) : Stops (l.take n) n q := by
  refine ⟨⟨?_, ?_⟩, fun c hc => ?_⟩
  · rw [List.length_take]
    have := h.1.1
    omega
  · rw [List.take_take, Nat.min_self]
    exact h.1.2
  · rw [List.getElem?_eq_none (by rw [List.length_take]; omega)] at hc
    cases hc

theorem fault_again {l : B} {n q : Nat} (h : fault l n q = 0) : fault (l.take n) n q = 0 := by
  unfold fault
  rw [List.getElem?_eq_none (by rw [List.length_take]; omega)]
  exact fault_zero h

theorem bs_extract (s : ByteArray) (i j : Nat) : bs (s.extract i j) = ((bs s).take j).drop i := by
  have h : bs (s.extract i j) = List.drop i (List.take (i + (j - i)) s.data.toList) := by
    simp [bs, ByteArray.data_extract, Array.toList_extract, List.take_drop]
  rw [h]
  rcases Nat.le_total i j with h1 | h1
  · rw [show i + (j - i) = j by omega]
  · rw [show i + (j - i) = i by omega, List.drop_eq_nil_of_le (by rw [List.length_take]; omega), List.drop_eq_nil_of_le (by rw [List.length_take]; omega)]

theorem bs_head (s : ByteArray) (j : Nat) : bs (s.extract 0 j) = (bs s).take j := by rw [bs_extract, List.drop_zero]

theorem head_size (s : ByteArray) (j : Nat) : (s.extract 0 j).size ≤ s.size := by
  rw [← bs_len, bs_head, List.length_take, bs_len]
  omega

set_option maxHeartbeats 1000000 in
theorem reread_walk (a : ByteArray) (w : World) : Calls Try.prog 5 #[.string a] w fun e w' => e = .returned (.bool true) ∧ Fr [] w w' := by
  by_cases hbig : 1048576 < a.size
  · go_enter Try.func5, Try.ntmps5
    go_wp2_with (go_at_call 13; refine (big13 a hbig _).mono ?_; rintro e w1 ⟨rfl, rfl⟩)
    go_ret
    exact ⟨rfl, Fr.refl _ _⟩
  · have hb2 : ¬ (1048576 : Int) < (a.size : Int) := by omega
    obtain ⟨n, q, hst⟩ := stops_of (bs a)
    have HJ : Hid (∀ w1, Calls Try.prog 9 #[.string a] w1 fun e w' => e = .returned (.tuple #[.int .i64 n, .bool (mark ((bs a).take n)), .int .i64 (fault (bs a) n q)]) ∧ Fr [] w1 w') := fun w1 => scanJSON_any a n q hst (by omega) w1
    have hn : n ≤ a.size := by have := hst.1.1; rw [bs_len] at this; exact this
    by_cases hf : fault (bs a) n q = 0
    · have h1 := hst.pos (fault_zero hf)
      have HJ2 : Hid (∀ w1, Calls Try.prog 9 #[.string (a.extract 0 n)] w1 fun e w' => e = .returned (.tuple #[.int .i64 n, .bool (mark ((bs a).take n)), .int .i64 0]) ∧ Fr [] w1 w') := fun w1 => by
        have h := scanJSON_any (a.extract 0 n) n q (by rw [bs_head]; exact hst.again) (by have := head_size a n; omega) w1
        rw [bs_head, fault_again hf, List.take_take, Nat.min_self] at h
        exact h
      rw [hf] at HJ
      clear hf hst
      generalize mark ((bs a).take n) = mk at HJ HJ2
      go_enter Try.func5, Try.ntmps5
      go_wp2_with (first
        | (go_at_call 13; refine (small13 a hbig _).mono ?_; rintro e w1 ⟨rfl, rfl⟩)
        | (go_at_call 9; have _t := hg1; refine (HJ2.out _).mono ?_; rintro e w2 ⟨rfl, hg2⟩)
        | (go_at_call 9; refine (HJ.out _).mono ?_; rintro e w2 ⟨rfl, hg1⟩))
      go_ret
      exact ⟨rfl, hg1.step hg2⟩
    · have hf2 : ¬ ((fault (bs a) n q : Nat) : Int) = 0 := by omega
      clear hst
      generalize mark ((bs a).take n) = mk at HJ
      generalize fault (bs a) n q = f at HJ hf hf2
      go_enter Try.func5, Try.ntmps5
      go_wp2_with (first
        | (go_at_call 13; refine (small13 a hbig _).mono ?_; rintro e w1 ⟨rfl, rfl⟩)
        | (go_at_call 9; refine (HJ.out _).mono ?_; rintro e w2 ⟨rfl, hg1⟩))
      go_ret
      exact ⟨rfl, hg1⟩

end Go.Proofs.Qxb6600967a
