/-
  slices.BinarySearch at []string, cmp.Less, isNaN: walked over this program (after the guide's Shelf/Spec/SearchS).
-/
import Derived.Test.Qxb6600882aRows
import Derived.WalkKit
import Derived.WalkSpells
import Derived.WalkLawsBesides
import Derived.Deep.LoopGhost
import Derived.Deep.QuietTactic
import Derived.BigQuiet
import Derived.Shelf.Spec.SearchS
namespace Go.Proofs.Qxb6600882a
open Go.RowKit

theorem cmpNaN (x : ByteArray) (w : World) : Calls Try.prog 34 #[.string x] w fun e w' => e = .returned (.bool false) ∧ w' = w := by
  go_enter Try.func34, Try.ntmps34
  go_wp2
  go_ret
  exact ⟨rfl, rfl⟩

theorem slNaN (x : ByteArray) (w : World) : Calls Try.prog 29 #[.string x] w fun e w' => e = .returned (.bool false) ∧ w' = w := by
  go_enter Try.func29, Try.ntmps29
  go_wp2
  go_ret
  exact ⟨rfl, rfl⟩

theorem cmpLess (x y : ByteArray) (w : World) : Calls Try.prog 28 #[.string x, .string y] w fun e w' => e = .returned (.bool (Op.bytesLess x.toList y.toList)) ∧ w' = w := by
  go_enter Try.func28, Try.ntmps28
  go_wp2_with (go_at_call 34; refine (cmpNaN _ _).mono ?_; rintro e w' ⟨rfl, rfl⟩)
  go_ret
  exact ⟨rfl, rfl⟩

set_option maxHeartbeats 1000000 in
set_option maxRecDepth 1000000 in
theorem bsearch (b off n c : Nat) (Sx : Nat → ByteArray) (x : ByteArray) (w : World) (hbig : n < 4611686018427387904) (hc : ∀ j, j < n → w.cell? ⟨b, off + j, none⟩ = some (.string (Sx j))) :
    Calls Try.prog 22 #[.slice (some ⟨b, off, none⟩) n c, .string x] w fun e w' =>
      e = .returned (.tuple #[.int .i64 (Lib.bsGo (fun t => Op.bytesLess (Sx t).toList x.toList) n 0 n : Nat), .bool (decide (Lib.bsGo (fun t => Op.bytesLess (Sx t).toList x.toList) n 0 n < n ∧ Sx (Lib.bsGo (fun t => Op.bytesLess (Sx t).toList x.toList) n 0 n) = x))]) ∧ ∃ q, w' = w.drewN q := by
  obtain ⟨I, hI⟩ : ∃ I, Lib.bsGo (fun t => Op.bytesLess (Sx t).toList x.toList) n 0 n = I := ⟨_, rfl⟩
  rw [hI]
  go_enter Try.func22, Try.ntmps22
  go_wp2
  go_loopg [7, 8] n (fun g s7 s8 wr => ∃ lo hi q : Nat, s7 = .int .i64 lo ∧ s8 = .int .i64 hi ∧ lo ≤ hi ∧ hi ≤ n ∧ hi - lo ≤ g ∧ wr = w.drewN q ∧ Lib.bsGo (fun t => Op.bytesLess (Sx t).toList x.toList) g lo hi = I)
  case atStart => exact ⟨0, n, 0, rfl, rfl, Nat.zero_le _, Nat.le_refl _, by omega, rfl, hI⟩
  case round =>
    obtain ⟨lo, hi, q, rfl, rfl, hlh, hin, hg, rfl, hb⟩ := hrel
    by_cases hlt : lo < hi
    · have cm : w.cell? ⟨b, off + (lo + hi) / 2, none⟩ = some (.string (Sx ((lo + hi) / 2))) := hc _ (by omega)
      clear hc
      obtain ⟨g', rfl⟩ : ∃ g', gk = g' + 1 := ⟨gk - 1, by omega⟩
      simp only [Lib.bsGo, hlt, if_true] at hb
      obtain ⟨y, hy⟩ : ∃ y, Sx ((lo + hi) / 2) = y := ⟨_, rfl⟩
      rw [hy] at cm
      simp only [hy] at hb
      cases hyx : Op.bytesLess y.toList x.toList <;> simp only [hyx, if_true, Bool.false_eq_true, if_false] at hb
      · go_wp2_with (first | (go_at_call 28; refine (cmpLess _ _ _).mono ?_; rintro e w' ⟨rfl, rfl⟩))
        go_roundg ((lo + hi) / 2 - lo)
        case measure => omega
        case rel => exact ⟨lo, (lo + hi) / 2, _, rfl, by rw [show ((lo : Int) + (hi : Int)) / 2 = (((lo + hi) / 2 : Nat) : Int) by omega], by omega, by omega, Nat.le_refl _, rfl, by rw [← hb]; exact Lib.bsGo_fuel _ _ _ _ _ (Nat.le_refl _) (by omega)⟩
      · go_wp2_with (first | (go_at_call 28; refine (cmpLess _ _ _).mono ?_; rintro e w' ⟨rfl, rfl⟩))
        go_roundg (hi - ((lo + hi) / 2 + 1))
        case measure => omega
        case rel => exact ⟨(lo + hi) / 2 + 1, hi, _, by rw [show ((lo : Int) + (hi : Int)) / 2 + 1 = (((lo + hi) / 2 + 1 : Nat) : Int) by omega], rfl, by omega, hin, Nat.le_refl _, rfl, by rw [← hb]; exact Lib.bsGo_fuel _ _ _ _ _ (Nat.le_refl _) (by omega)⟩
    · have : hi = lo := by omega
      subst this
      have hIe : I = hi := by
        rw [← hb]
        cases gk <;> simp [Lib.bsGo]
      by_cases hn : hi < n
      · have cl : w.cell? ⟨b, off + hi, none⟩ = some (.string (Sx hi)) := hc _ hn
        clear hc hb hI
        obtain ⟨y, hy⟩ : ∃ y, Sx hi = y := ⟨_, rfl⟩
        rw [hy] at cl
        by_cases hyx : y = x
        · go_wp2_with (first | (go_at_call 29; refine (slNaN _ _).mono ?_; rintro e w' ⟨rfl, rfl⟩))
          go_ret2
          refine ⟨?_, _, rfl⟩
          try rw [hIe]
          rw [hy, decide_eq_true (show hi < n ∧ y = x from ⟨hn, hyx⟩)]
          first | rfl | simp [*]
        · have hne : (y.toList == x.toList) = false := by
            rw [beq_eq_false_iff_ne]
            intro h
            apply hyx
            rw [Lib.toList_data, Lib.toList_data] at h
            cases y with
            | mk yd => cases x with
              | mk xd => exact congrArg ByteArray.mk (Array.toList_inj.1 h)
          go_wp2_with (first | (go_at_call 29; refine (slNaN _ _).mono ?_; rintro e w' ⟨rfl, rfl⟩))
          all_goals
            (go_ret2
             refine ⟨?_, _, rfl⟩
             try rw [hIe]
             rw [hy, decide_eq_false (show ¬ (hi < n ∧ y = x) from fun h => hyx h.2)]
             first | rfl | simp [*])
      · clear hc hb hI
        go_wp2_with (first | (go_at_call 29; refine (slNaN _ _).mono ?_; rintro e w' ⟨rfl, rfl⟩))
        go_ret2
        refine ⟨?_, _, rfl⟩
        try rw [hIe]
        rw [decide_eq_false (show ¬ (hi < n ∧ Sx hi = x) from fun h => hn h.1)]
        first | rfl | simp [*]

set_option maxRecDepth 1000000 in
theorem bsearch_empty (a : Option Addr) (c : Nat) (x : ByteArray) (w : World) :
    Calls Try.prog 22 #[.slice a 0 c, .string x] w fun e w' => e = .returned (.tuple #[.int .i64 0, .bool false]) ∧ w' = w := by
  go_enter Try.func22, Try.ntmps22
  go_wp2
  go_loop [7, 8] (fun s7 s8 => s7 = .int .i64 0 ∧ s8 = .int .i64 0) (fun _ _ => 0)
  case atStart => exact ⟨rfl, rfl⟩
  case round =>
    obtain ⟨rfl, rfl⟩ := hrel
    go_wp2
    go_ret2
    exact ⟨rfl, rfl⟩

end Go.Proofs.Qxb6600882a
