/-
  FnScanThenEndMatchesPrefixModel, walked.
-/
import Derived.Test.Qxb6600967aModel
namespace Go.Proofs.Qxb6600967a
open Go.RowKit

set_option maxHeartbeats 1000000 in
theorem then_walk (a : ByteArray) (w : World) : Calls Try.prog 7 #[.string a] w fun e w' => e = .returned (.bool true) ∧ Fr [] w w' := by
  by_cases hbig : 1048576 < a.size
  · go_enter Try.func7, Try.ntmps7
    go_wp2_with (go_at_call 17; refine (big17 a hbig _).mono ?_; rintro e w1 ⟨rfl, rfl⟩)
    go_ret
    exact ⟨rfl, Fr.refl _ _⟩
  · have hb2 : ¬ (1048576 : Int) < (a.size : Int) := by omega
    obtain ⟨n, q, hst⟩ := stops_of (bs a)
    have HZ : Hid ((w.alloc (.cells #[.int .u8 0, .bool false, .int .i64 0] 30 (0, 0))).heap[w.heap.size]? = some (.cells #[.int .u8 0, .bool false, .int .i64 0] 30 (0, 0))) := zeroBlock w
    have HL : Hid (∀ w1, Calls Try.prog 18 #[.string a] w1 fun e w' => e = .returned (.int .i64 n) ∧ w' = w1) := fun w1 => longest_any a n q hst (by omega) w1
    have HM : Hid (∀ w1, Calls Try.prog 10 #[.string a] w1 fun e w' => e = .returned (.tuple #[.int .i64 n, .bool (mark ((bs a).take n)), .int .i64 (fault (bs a) n q)]) ∧ w' = w1) := fun w1 => model_any a n q hst (by omega) w1
    by_cases hlt : n < a.size
    · have hlt' : (n : Int) < (a.size : Int) := by omega
      have HK : Hid (∀ sb w1, w1.heap[sb]? = some (.cells #[.int .u8 0, .bool false, .int .i64 0] 30 (0, 0)) → Calls Try.prog 15 #[.pointer (some ⟨sb, 0, none⟩), .string a] w1 fun e w' => e = .returned (.tuple #[.int .i64 n, .bool true]) ∧ Left sb w1 0 (mark ((bs a).take n)) (fault (bs a) n q) w') :=
        fun sb w1 hb => by rw [show fault (bs a) n q = stuckFault q a[n] by rw [fault, bs_at hlt]]; exact scan_in a n q hst hlt (by omega) sb w1 hb
      generalize mark ((bs a).take n) = mk at HK HM
      generalize fault (bs a) n q = f at HK HM
      clear hst
      go_enter Try.func7, Try.ntmps7
      go_wp2_with (first
        | (go_at_call 17; refine (small17 a hbig _).mono ?_; rintro e w1 ⟨rfl, hw⟩; subst w1)
        | (go_at_call 18; refine (HL.out _).mono ?_; rintro e w1 ⟨rfl, hw⟩; subst w1)
        | (go_at_call 15; refine (HK.out _ _ HZ.out).mono ?_; rintro e w1 ⟨rfl, hl⟩; obtain ⟨d1, d2⟩ := hl.cells; have HF : Hid (Fr [] w w1) := hl.fresh; clear hl)
        | (go_at_call 10; refine (HM.out _).mono ?_; rintro e w3 ⟨rfl, rfl⟩))
      go_ret
      exact ⟨rfl, HF.out⟩
    · have hlt' : ¬ (n : Int) < (a.size : Int) := by omega
      have HK : Hid (∀ sb w1, w1.heap[sb]? = some (.cells #[.int .u8 0, .bool false, .int .i64 0] 30 (0, 0)) → Calls Try.prog 15 #[.pointer (some ⟨sb, 0, none⟩), .string a] w1 fun e w' => e = .returned (.tuple #[.int .i64 n, .bool false]) ∧ Left sb w1 q (mark ((bs a).take n)) 0 w') :=
        fun sb w1 hb => scan_out a n q hst hlt (by omega) sb w1 hb
      have HE : Hid (∀ sb w0 w1 mk, Left sb w0 q mk 0 w1 → Calls Try.prog 16 #[.pointer (some ⟨sb, 0, none⟩)] w1 fun e w' => e = .returned (.tuple #[]) ∧ Left sb w0 q mk (fault (bs a) n q) w') :=
        fun sb w0 w1 mk hb => by rw [show fault (bs a) n q = endFault q by rw [fault, List.getElem?_eq_none (by rw [bs_len]; omega)]]; exact end_left sb w0 w1 q mk hst.le8 hb
      generalize mark ((bs a).take n) = mk at HK HM
      generalize fault (bs a) n q = f at HE HM
      clear hst
      go_enter Try.func7, Try.ntmps7
      go_wp2_with (first
        | (go_at_call 17; refine (small17 a hbig _).mono ?_; rintro e w1 ⟨rfl, hw⟩; subst w1)
        | (go_at_call 18; refine (HL.out _).mono ?_; rintro e w1 ⟨rfl, hw⟩; subst w1)
        | (go_at_call 15; refine (HK.out _ _ HZ.out).mono ?_; rintro e w1 ⟨rfl, hl⟩; obtain ⟨d1, d2⟩ := hl.cells; have HL1 : Hid (Left w.heap.size (w.alloc (.cells #[.int .u8 0, .bool false, .int .i64 0] 30 (0, 0))) q mk 0 w1) := hl; clear hl)
        | (go_at_call 16; refine (HE.out _ _ _ _ HL1.out).mono ?_; rintro e w2 ⟨rfl, hl⟩; clear d1 d2; obtain ⟨d1, d2⟩ := hl.cells; have HF : Hid (Fr [] w w2) := hl.fresh; clear hl)
        | (go_at_call 10; refine (HM.out _).mono ?_; rintro e w3 ⟨rfl, rfl⟩))
      go_ret
      exact ⟨rfl, HF.out⟩

end Go.Proofs.Qxb6600967a
