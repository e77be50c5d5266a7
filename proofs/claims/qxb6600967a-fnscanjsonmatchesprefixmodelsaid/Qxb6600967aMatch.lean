/-
  FnScanJSONMatchesPrefixModel, walked.
-/
import Derived.Test.Qxb6600967aModel
namespace Go.Proofs.Qxb6600967a
open Go.RowKit

set_option maxHeartbeats 1000000 in
theorem match_walk (a : ByteArray) (w : World) : Calls Try.prog 3 #[.string a] w fun e w' => e = .returned (.bool true) ∧ Fr [] w w' := by
  by_cases hbig : 1048576 < a.size
  · go_enter Try.func3, Try.ntmps3
    go_wp2_with (go_at_call 8; refine (big8 a hbig _).mono ?_; rintro e w1 ⟨rfl, rfl⟩)
    go_ret
    exact ⟨rfl, Fr.refl _ _⟩
  · have hb2 : ¬ (1048576 : Int) < (a.size : Int) := by omega
    obtain ⟨n, q, hst⟩ := stops_of (bs a)
    have HJ : Hid (∀ w1, Calls Try.prog 9 #[.string a] w1 fun e w' => e = .returned (.tuple #[.int .i64 n, .bool (mark ((bs a).take n)), .int .i64 (fault (bs a) n q)]) ∧ Fr [] w1 w') := fun w1 => scanJSON_any a n q hst (by omega) w1
    have HM : Hid (∀ w1, Calls Try.prog 10 #[.string a] w1 fun e w' => e = .returned (.tuple #[.int .i64 n, .bool (mark ((bs a).take n)), .int .i64 (fault (bs a) n q)]) ∧ w' = w1) := fun w1 => model_any a n q hst (by omega) w1
    generalize mark ((bs a).take n) = mk at HJ HM
    generalize fault (bs a) n q = f at HJ HM
    clear hst
    go_enter Try.func3, Try.ntmps3
    go_wp2_with (first
      | (go_at_call 8; refine (small8 a hbig _).mono ?_; rintro e w1 ⟨rfl, rfl⟩)
      | (go_at_call 9; refine (HJ.out _).mono ?_; rintro e w2 ⟨rfl, hg1⟩)
      | (go_at_call 10; refine (HM.out _).mono ?_; rintro e w3 ⟨rfl, rfl⟩))
    go_ret
    exact ⟨rfl, hg1⟩

end Go.Proofs.Qxb6600967a
