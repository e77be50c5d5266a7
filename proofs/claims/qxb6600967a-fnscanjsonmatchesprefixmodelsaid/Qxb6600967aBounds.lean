/-
  The bound on the text's length, as each law asks it.
-/
import Derived.Test.Qxb6600967aEnd
namespace Go.Proofs.Qxb6600967a
open Go.RowKit

theorem big8 (a : ByteArray) (h : 1048576 < a.size) (w : World) : Calls Try.prog 8 #[.string a] w fun e w' => e = .returned (.bool false) ∧ w' = w := by
  have h2 : (1048576 : Int) < (a.size : Int) := by omega
  go_enter Try.func8, Try.ntmps8
  go_wp2
  go_ret
  exact ⟨rfl, rfl⟩

theorem small8 (a : ByteArray) (h : ¬ 1048576 < a.size) (w : World) : Calls Try.prog 8 #[.string a] w fun e w' => e = .returned (.bool true) ∧ w' = w := by
  have h2 : ¬ (1048576 : Int) < (a.size : Int) := by omega
  have h3 : ¬ (1048576 : Int) < 0 + (a.size : Int) := by omega
  go_enter Try.func8, Try.ntmps8
  go_wp2
  go_ret
  exact ⟨rfl, rfl⟩

theorem big11 (a : ByteArray) (h : 1048576 < a.size) (w : World) : Calls Try.prog 11 #[.string a] w fun e w' => e = .returned (.bool false) ∧ w' = w := by
  have h2 : (1048576 : Int) < (a.size : Int) := by omega
  go_enter Try.func11, Try.ntmps11
  go_wp2
  go_ret
  exact ⟨rfl, rfl⟩

theorem small11 (a : ByteArray) (h : ¬ 1048576 < a.size) (w : World) : Calls Try.prog 11 #[.string a] w fun e w' => e = .returned (.bool true) ∧ w' = w := by
  have h2 : ¬ (1048576 : Int) < (a.size : Int) := by omega
  have h3 : ¬ (1048576 : Int) < 0 + (a.size : Int) := by omega
  go_enter Try.func11, Try.ntmps11
  go_wp2
  go_ret
  exact ⟨rfl, rfl⟩

theorem big13 (a : ByteArray) (h : 1048576 < a.size) (w : World) : Calls Try.prog 13 #[.string a] w fun e w' => e = .returned (.bool false) ∧ w' = w := by
  have h2 : (1048576 : Int) < (a.size : Int) := by omega
  go_enter Try.func13, Try.ntmps13
  go_wp2
  go_ret
  exact ⟨rfl, rfl⟩

theorem small13 (a : ByteArray) (h : ¬ 1048576 < a.size) (w : World) : Calls Try.prog 13 #[.string a] w fun e w' => e = .returned (.bool true) ∧ w' = w := by
  have h2 : ¬ (1048576 : Int) < (a.size : Int) := by omega
  have h3 : ¬ (1048576 : Int) < 0 + (a.size : Int) := by omega
  go_enter Try.func13, Try.ntmps13
  go_wp2
  go_ret
  exact ⟨rfl, rfl⟩

theorem big17 (a : ByteArray) (h : 1048576 < a.size) (w : World) : Calls Try.prog 17 #[.string a] w fun e w' => e = .returned (.bool false) ∧ w' = w := by
  have h2 : (1048576 : Int) < (a.size : Int) := by omega
  go_enter Try.func17, Try.ntmps17
  go_wp2
  go_ret
  exact ⟨rfl, rfl⟩

theorem small17 (a : ByteArray) (h : ¬ 1048576 < a.size) (w : World) : Calls Try.prog 17 #[.string a] w fun e w' => e = .returned (.bool true) ∧ w' = w := by
  have h2 : ¬ (1048576 : Int) < (a.size : Int) := by omega
  have h3 : ¬ (1048576 : Int) < 0 + (a.size : Int) := by omega
  go_enter Try.func17, Try.ntmps17
  go_wp2
  go_ret
  exact ⟨rfl, rfl⟩

end Go.Proofs.Qxb6600967a
