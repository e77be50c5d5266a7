/-
  An argument of type []string, opened; what reads again behind a call that wrote new blocks alone.
-/
import Derived.Test.Qxb6600882aLawA
import Derived.ProofKit
import Derived.OpenShut
import Derived.SliceStrings
namespace Go.Proofs.Qxb6600882a
open Go.ChangeShapes Go.WideShapes Go.ChangeAt Go.RowKit

theorem ownK : ownKnob Try.prog.godebug = none := by kernel_rfl
theorem laidOut : laidOutB Try.prog = true := by kernel_rfl
theorem cells9 : Try.prog.cellsOf 9 = 1 := by kernel_rfl

theorem open_arg {H : Type} {enc : TypeId × Value → H} {W : World} {base : Nat} {v : Value} {d : DataW H} {p : List MemPlace} (hok : Value.okWide Try.prog W .any base 22 v)
    (h : DataW.Trod enc Try.prog W 0 (fun _ => true) true 22 v d p) : ∃ a n c xs, v = .slice a n c ∧ StrArr W (.slice a n c) xs := by
  obtain ⟨a0, len, cap, rfl⟩ := okWide_slice Try.underlying22 hok
  obtain ⟨fuel, hf⟩ := h
  rcases open_strings Try.underlying22 Try.underlying9 cells9 hf with ⟨hcs, _⟩ | ⟨a, len', cap', zs, hcs, _, hl, hm, hz, _, hcell, hwz⟩
  · simp [Value.cells] at hcs
    obtain ⟨rfl, rfl, rfl⟩ := hcs
    exact ⟨none, 0, 0, [], rfl, none, 0, rfl, by simp, by simp⟩
  · simp [Value.cells] at hcs
    obtain ⟨rfl, rfl, rfl⟩ := hcs
    simp only [if_true] at hz
    have hll : (zs.take len).length = len := by rw [List.length_take]; omega
    refine ⟨some a, len, cap, zs.take len, rfl, some a, cap, by rw [hll], ?_, fun j x hj => ?_⟩
    · rw [hll]
      unfold maxLen at hm
      omega
    · rw [List.getElem?_take] at hj
      by_cases hlt : j < len
      · rw [if_pos hlt] at hj
        obtain ⟨b, off, spot⟩ := a
        have hspot : spot = none := by simpa [Addr.add] using World.cell?_spot (hcell 0 (by omega))
        subst hspot
        refine ⟨b, off, rfl, ?_, ?_⟩
        · rw [← add_plain, hcell j (by omega), List.getD, hj]
          rfl
        · have := hwz x (List.mem_of_getElem? hj)
          unfold maxLen at this
          exact this
      · rw [if_neg hlt] at hj
        cases hj

theorem shut_arg {H : Type} {enc : TypeId × Value → H} {W W' : World} {v : Value} {d : DataW H} {p : List MemPlace} (h : DataW.Trod enc Try.prog W 0 (fun _ => true) true 22 v d p) (hb : Below W.heap.size W W') (hlt : ∀ x ∈ p, x.block < W.heap.size) :
    DataW.Trod enc Try.prog W' 0 (fun b => decide (b < W.heap.size)) true 22 v d p :=
  Below.trod laidOut (by kernel_rfl) (of_decide_eq_true (by kernel_rfl)) h hb hlt

end Go.Proofs.Qxb6600882a
