/-
  kvDigits6 and the three keys made of it.
-/
import Derived.Test.Qxb6600882aHeap
import Derived.Test.Qxb6600882aRows
import Derived.WalkKit
import Derived.WalkSpells
import Derived.WalkLawsBesides
import Derived.Deep.LoopGhost
import Derived.Laws.BytesArg
namespace Go.Proofs.Qxb6600882a
open Go.RowKit

/-- The digit at place j of six. -/
def dig (n j : Nat) : Int := (48 + n / 10 ^ (5 - j) % 10 : Nat)

def digs (n : Nat) : List Int := [dig n 0, dig n 1, dig n 2, dig n 3, dig n 4, dig n 5]

def cellsAt (n i : Nat) : Array Value := ((List.range 6).map fun j => if i ≤ j then Value.int .u8 (dig n j) else Value.int .u8 0).toArray

set_option maxHeartbeats 1000000 in
set_option maxRecDepth 100000 in
theorem digits_any (n : Nat) (hn : n < 1000000) (w : World) :
    Calls Try.prog 24 #[.int .i64 n] w fun e w' => e = .returned (.string (strOfNums (digs n))) ∧ Fr [] w w' := by
  go_enter Try.func24, Try.ntmps24
  go_wp2
  go_loopg [4, 0] 6 (fun g s4 s0 wr => g ≤ 6 ∧ s4 = .int .i64 ((g : Int) - 1) ∧ s0 = .int .i64 (n / 10 ^ (6 - g) : Nat) ∧ wr.heap[w.heap.size]? = some (.cells (cellsAt n g) 57 (0, 0)) ∧ Fr [] w wr)
  case atStart =>
    refine ⟨Nat.le_refl _, rfl, by simp, ?_, (Fr.refl [] w).alloc _⟩
    rw [(MapKept.heap_alloc w _).1]
    rfl
  case round =>
    obtain ⟨hg, rfl, rfl, hrow, hfr⟩ := hrel
    rcases gk with _ | g
    · have hconv := run_convert_bytes_arg (P := Try.prog) wr 58 5 Try.underlying58 Try.underlying5 w.heap.size 0 6 6 (digs n) rfl (fun i hi => by
        rw [Nat.zero_add, cell_of_row wr _ _ _ _ _ hrow]
        have : i = 0 ∨ i = 1 ∨ i = 2 ∨ i = 3 ∨ i = 4 ∨ i = 5 := by omega
        rcases this with rfl | rfl | rfl | rfl | rfl | rfl <;> rfl) 9 Try.underlying9
      clear hrow
      go_wp2
      go_ret
      exact ⟨rfl, hfr⟩
    · have hc : wr.cell? ⟨w.heap.size, g, none⟩ = some (.int .u8 0) := by
        rw [cell_of_row wr _ _ _ _ _ hrow]
        have : g = 0 ∨ g = 1 ∨ g = 2 ∨ g = 3 ∨ g = 4 ∨ g = 5 := by omega
        rcases this with rfl | rfl | rfl | rfl | rfl | rfl <;> rfl
      have hfz : wr.frozen? ⟨w.heap.size, g, none⟩ = false := frozen_of_row wr _ g _ _ hrow
      have hset : Hid ((wr.setCell ⟨w.heap.size, g, none⟩ (.int .u8 (dig n g))).heap[w.heap.size]? = some (.cells (cellsAt n g) 57 (0, 0))) := by
        rw [heap_setCell_same wr _ g _ _ _ hrow]
        have : g = 0 ∨ g = 1 ∨ g = 2 ∨ g = 3 ∨ g = 4 ∨ g = 5 := by omega
        rcases this with rfl | rfl | rfl | rfl | rfl | rfl <;> rfl
      clear hrow
      obtain ⟨m, hm⟩ : ∃ m, n / 10 ^ (5 - g) = m := ⟨_, rfl⟩
      have hd : Hid (dig n g = (48 + m % 10 : Nat)) := by rw [← hm]; rfl
      have hm2 : m < 1000000 := by rw [← hm]; exact Nat.lt_of_le_of_lt (Nat.div_le_self _ _) hn
      have hgo : Hid (n / 10 ^ (6 - g) = m / 10) := by
        show n / 10 ^ (6 - g) = m / 10
        rw [← hm, show 6 - g = 5 - g + 1 by omega, Nat.pow_succ, Nat.div_div_eq_div_mul]
      have e1 : (((g + 1 : Nat) : Int) - 1) = g := by omega
      rw [show 6 - (g + 1) = 5 - g by omega, hm, e1]
      clear hm e1
      go_wp2
      go_roundg g
      case measure => omega
      case rel =>
        refine ⟨by omega, rfl, by rw [hgo.out]; go_num, ?_, hfr.setCell (.inr (Nat.le_refl _)) _⟩
        have h2 := hset.out
        rw [hd.out] at h2
        exact h2

/-- A letter and six digits. -/
def name (c : UInt8) (n : Nat) : ByteArray := ⟨#[c]⟩ ++ strOfNums (digs n)

def evenKey (i : Nat) : ByteArray := name 107 (2 * i)
def oddKey (i : Nat) : ByteArray := name 107 (2 * i + 1)
def valueOf (i : Nat) : ByteArray := name 118 (3 * i + 7)

set_option maxHeartbeats 400000 in
theorem even_any (i : Nat) (hi : i ≤ 65536) (w : World) :
    Calls Try.prog 17 #[.int .i64 i] w fun e w' => e = .returned (.string (evenKey i)) ∧ Fr [] w w' := by
  have hd := digits_any (2 * i) (by omega) w
  rw [show ((2 * i : Nat) : Int) = 2 * (i : Int) by omega] at hd
  have HD : Hid (Calls Try.prog 24 #[.int .i64 (2 * (i : Int))] w fun e w' => e = .returned (.string (strOfNums (digs (2 * i)))) ∧ Fr [] w w') := hd
  clear hd
  go_enter Try.func17, Try.ntmps17
  go_wp2_with (go_at_call 24; refine (HD.out).mono ?_; rintro e w' ⟨rfl, hfr⟩)
  go_ret
  exact ⟨rfl, hfr⟩

set_option maxHeartbeats 400000 in
theorem odd_any (i : Nat) (hi : i ≤ 65536) (w : World) :
    Calls Try.prog 19 #[.int .i64 i] w fun e w' => e = .returned (.string (oddKey i)) ∧ Fr [] w w' := by
  have hd := digits_any (2 * i + 1) (by omega) w
  rw [show ((2 * i + 1 : Nat) : Int) = 2 * (i : Int) + 1 by omega] at hd
  have HD : Hid (Calls Try.prog 24 #[.int .i64 (2 * (i : Int) + 1)] w fun e w' => e = .returned (.string (strOfNums (digs (2 * i + 1)))) ∧ Fr [] w w') := hd
  clear hd
  go_enter Try.func19, Try.ntmps19
  go_wp2_with (go_at_call 24; refine (HD.out).mono ?_; rintro e w' ⟨rfl, hfr⟩)
  go_ret
  exact ⟨rfl, hfr⟩

set_option maxHeartbeats 400000 in
theorem value_any (i : Nat) (hi : i ≤ 65536) (w : World) :
    Calls Try.prog 18 #[.int .i64 i] w fun e w' => e = .returned (.string (valueOf i)) ∧ Fr [] w w' := by
  have hd := digits_any (3 * i + 7) (by omega) w
  rw [show ((3 * i + 7 : Nat) : Int) = 3 * (i : Int) + 7 by omega] at hd
  have HD : Hid (Calls Try.prog 24 #[.int .i64 (3 * (i : Int) + 7)] w fun e w' => e = .returned (.string (strOfNums (digs (3 * i + 7)))) ∧ Fr [] w w') := hd
  clear hd
  go_enter Try.func18, Try.ntmps18
  go_wp2_with (go_at_call 24; refine (HD.out).mono ?_; rintro e w' ⟨rfl, hfr⟩)
  go_ret
  exact ⟨rfl, hfr⟩

theorem even_int (z : Int) (h0 : 0 ≤ z) (h1 : z ≤ 65536) (w : World) : Calls Try.prog 17 #[.int .i64 z] w fun e w' => e = .returned (.string (evenKey z.toNat)) ∧ Fr [] w w' := by
  obtain ⟨n, rfl⟩ := Int.eq_ofNat_of_zero_le h0
  exact even_any n (by omega) w

theorem odd_int (z : Int) (h0 : 0 ≤ z) (h1 : z ≤ 65536) (w : World) : Calls Try.prog 19 #[.int .i64 z] w fun e w' => e = .returned (.string (oddKey z.toNat)) ∧ Fr [] w w' := by
  obtain ⟨n, rfl⟩ := Int.eq_ofNat_of_zero_le h0
  exact odd_any n (by omega) w

theorem value_int (z : Int) (h0 : 0 ≤ z) (h1 : z ≤ 65536) (w : World) : Calls Try.prog 18 #[.int .i64 z] w fun e w' => e = .returned (.string (valueOf z.toNat)) ∧ Fr [] w w' := by
  obtain ⟨n, rfl⟩ := Int.eq_ofNat_of_zero_le h0
  exact value_any n (by omega) w

end Go.Proofs.Qxb6600882a
