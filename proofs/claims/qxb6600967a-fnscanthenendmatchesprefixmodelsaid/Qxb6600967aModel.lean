/-
  zzModelScan: it answers as ScanJSON.
-/
import Derived.Test.Qxb6600967aModelC
import Derived.Test.Qxb6600967aAccept
namespace Go.Proofs.Qxb6600967a
open Go.RowKit

theorem stuck_unfinished {q : Nat} {c : UInt8} (hq : q ≤ 8) (hf : fin q = false) : stuckFault q c = endFault q := by
  have : q = 0 ∨ q = 1 ∨ q = 2 ∨ q = 3 ∨ q = 4 ∨ q = 5 ∨ q = 6 ∨ q = 7 ∨ q = 8 := by omega
  rcases this with rfl | rfl | rfl | rfl | rfl | rfl | rfl | rfl | rfl <;> first | rfl | (cases hf; done)

theorem fault_unfinished {l : B} {n q : Nat} (h : Stops l n q) (hf : fin q = false) : fault l n q = endFault q := by
  unfold fault
  split
  · exact stuck_unfinished h.le8 hf
  · rfl

theorem stuck_finished {q : Nat} {c : UInt8} (hq : q ≤ 8) (hf : fin q = true) (hs : step q c = none) : stuckFault q c = if dg c then 2 else 0 := by
  have : q = 0 ∨ q = 1 ∨ q = 2 ∨ q = 3 ∨ q = 4 ∨ q = 5 ∨ q = 6 ∨ q = 7 ∨ q = 8 := by omega
  rcases this with rfl | rfl | rfl | rfl | rfl | rfl | rfl | rfl | rfl
  · cases hf
  · cases hf
  · cases hd : dg c
    · rfl
    · rw [stay2 c hd] at hs; cases hs
  · rfl
  · cases hf
  · cases hd : dg c
    · rfl
    · rw [stay5 c hd] at hs; cases hs
  · cases hf
  · cases hf
  · cases hd : dg c
    · rfl
    · rw [stay8 c hd] at hs; cases hs

theorem fault_in {s : ByteArray} {n q : Nat} (h : Stops (bs s) n q) (hf : fin q = true) (hlt : n < s.size) : fault (bs s) n q = if dg s[n] then 2 else 0 := by
  rw [fault, bs_at hlt]
  exact stuck_finished h.le8 hf (h.2 _ (bs_at hlt))

theorem fault_end {s : ByteArray} {n q : Nat} (h : Stops (bs s) n q) (hf : fin q = true) (hlt : ¬ n < s.size) : fault (bs s) n q = 0 := by
  rw [fault, List.getElem?_eq_none (by rw [bs_len]; omega)]
  have := fin_end h.le8
  rw [hf] at this
  exact of_decide_eq_true this.symm

theorem isNum_head {s : ByteArray} {n q : Nat} (h : Stops (bs s) n q) : isNum (bs (s.extract 0 n)) = fin q := by
  rw [bs_head, isNum_go, h.1.2]

set_option maxHeartbeats 1000000 in
theorem model_any (s : ByteArray) (n q : Nat) (hst : Stops (bs s) n q) (hs : s.size ≤ 1048576) (w : World) :
    Calls Try.prog 10 #[.string s] w fun e w' => e = .returned (.tuple #[.int .i64 n, .bool (mark ((bs s).take n)), .int .i64 (fault (bs s) n q)]) ∧ w' = w := by
  have hn : n ≤ s.size := by have := hst.1.1; rw [bs_len] at this; exact this
  have hps := head_size s n
  have HL : Hid (∀ w1, Calls Try.prog 18 #[.string s] w1 fun e w' => e = .returned (.int .i64 n) ∧ w' = w1) := fun w1 => longest_any s n q hst hs w1
  have HM : Hid (∀ w1, Calls Try.prog 19 #[.string (s.extract 0 n)] w1 fun e w' => e = .returned (.bool (mark ((bs s).take n))) ∧ w' = w1) := fun w1 => by
    rw [← bs_head]
    exact hasMark_any _ (by omega) w1
  have hI : ∀ w1, Calls Try.prog 12 #[.string (s.extract 0 n)] w1 fun e w' => e = .returned (.bool (fin q)) ∧ w' = w1 := fun w1 => by
    rw [← isNum_head hst]
    exact isNumber_any _ (by omega) w1
  generalize mark ((bs s).take n) = mk at HM ⊢
  cases hf : fin q with
  | true =>
    have HI : Hid (∀ w1, Calls Try.prog 12 #[.string (s.extract 0 n)] w1 fun e w' => e = .returned (.bool true) ∧ w' = w1) := fun w1 => by rw [← hf]; exact hI w1
    clear hI hps
    by_cases hlt : n < s.size
    · have HD : Hid (∀ w1, Calls Try.prog 20 #[.int .u8 (s[n].toNat : Int)] w1 fun e w' => e = .returned (.bool (dg s[n])) ∧ w' = w1) := fun w1 => zzdigit_at s hlt w1
      rw [fault_in hst hf hlt]
      clear hst hf
      cases hd : dg s[n] with
      | true =>
        rw [hd] at HD
        go_enter Try.func10, Try.ntmps10
        go_wp2_with (first
          | (go_at_call 18; refine (HL.out _).mono ?_; rintro e w1 ⟨rfl, rfl⟩)
          | (go_at_call 19; refine (HM.out _).mono ?_; rintro e w1 ⟨rfl, rfl⟩)
          | (go_at_call 12; refine (HI.out _).mono ?_; rintro e w1 ⟨rfl, rfl⟩)
          | (go_at_call 20; refine (HD.out _).mono ?_; rintro e w1 ⟨rfl, rfl⟩))
        go_ret3
        exact ⟨rfl, rfl⟩
      | false =>
        rw [hd] at HD
        go_enter Try.func10, Try.ntmps10
        go_wp2_with (first
          | (go_at_call 18; refine (HL.out _).mono ?_; rintro e w1 ⟨rfl, rfl⟩)
          | (go_at_call 19; refine (HM.out _).mono ?_; rintro e w1 ⟨rfl, rfl⟩)
          | (go_at_call 12; refine (HI.out _).mono ?_; rintro e w1 ⟨rfl, rfl⟩)
          | (go_at_call 20; refine (HD.out _).mono ?_; rintro e w1 ⟨rfl, rfl⟩))
        go_ret3
        exact ⟨rfl, rfl⟩
    · rw [fault_end hst hf hlt]
      clear hst hf
      have hlt' : ¬ (n : Int) < (s.size : Int) := by omega
      go_enter Try.func10, Try.ntmps10
      go_wp2_with (first
        | (go_at_call 18; refine (HL.out _).mono ?_; rintro e w1 ⟨rfl, rfl⟩)
        | (go_at_call 19; refine (HM.out _).mono ?_; rintro e w1 ⟨rfl, rfl⟩)
        | (go_at_call 12; refine (HI.out _).mono ?_; rintro e w1 ⟨rfl, rfl⟩))
      go_ret3
      exact ⟨rfl, rfl⟩
  | false =>
    have HI : Hid (∀ w1, Calls Try.prog 12 #[.string (s.extract 0 n)] w1 fun e w' => e = .returned (.bool false) ∧ w' = w1) := fun w1 => by rw [← hf]; exact hI w1
    have HX : Hid (∀ w1, Calls Try.prog 21 #[.string (s.extract 0 n)] w1 fun e w' => e = .returned (.int .i64 (endFault q)) ∧ w' = w1) := fun w1 => missing_any _ q (by rw [bs_head]; exact hst.1.2) hf (by omega) w1
    rw [fault_unfinished hst hf]
    clear hI hps hst hf
    generalize endFault q = f at HX ⊢
    go_enter Try.func10, Try.ntmps10
    go_wp2_with (first
      | (go_at_call 18; refine (HL.out _).mono ?_; rintro e w1 ⟨rfl, rfl⟩)
      | (go_at_call 19; refine (HM.out _).mono ?_; rintro e w1 ⟨rfl, rfl⟩)
      | (go_at_call 12; refine (HI.out _).mono ?_; rintro e w1 ⟨rfl, rfl⟩)
      | (go_at_call 21; refine (HX.out _).mono ?_; rintro e w1 ⟨rfl, rfl⟩))
    go_ret3
    exact ⟨rfl, rfl⟩

end Go.Proofs.Qxb6600967a
