/-
  slices.Clone at []string and []*node: the same cells in a new row.
-/
import Derived.Test.Qxb6600882aRows
import Derived.Test.Qxb6600882aHeap
import Derived.WalkKit
import Derived.WalkSpells
import Derived.WalkLawsBesides
import Derived.Lib.Walk
import Derived.Lib.SliceRun
import Derived.Shelf.RegionOpenPlain
namespace Go.Proofs.Qxb6600882a
open Go.RowKit Go.Lib

theorem info9 : (Try.prog.info? 9).map (fun i => (i.zero, i.size, i.bytes)) = some (some (.string ⟨#[]⟩), 1, 16) := by kernel_rfl
theorem info27 : (Try.prog.info? 27).map (fun i => (i.zero, i.size, i.bytes)) = some (some (.pointer none), 1, 8) := by kernel_rfl

set_option maxHeartbeats 1000000 in
set_option maxRecDepth 100000 in
/-- slices.Clone of a slice with elements. -/
theorem cloneS (b off n c : Nat) (news : List Value) (w : World) (hl : news.length = n) (hn0 : 0 < n) (hn : n ≤ 1000000)
    (hc : ∀ j u, news[j]? = some u → w.cell? ⟨b, off + j, none⟩ = some u) (h1 : ∀ u ∈ news, u.oneCell' = true) :
    Calls Try.prog 25 #[.slice (some ⟨b, off, none⟩) n c] w fun e w' => ∃ g cap, e = .returned (.slice (some ⟨g, 0, none⟩) n cap) ∧ SlRow w' 9 (.slice (some ⟨g, 0, none⟩) n cap) news [g] ∧ w.heap.size ≤ g ∧ Fr [] w w' := by
  have q22 : ∀ (w : World) (a : Option Addr) (n c n' c' : Nat), (binOp .eql 22 (.slice a n c) (.slice none n' c')).run Try.prog w = .ok (.bool a.isNone) w := fun w a n c n' c' => Lib.run_eql_slice_nil w _ _ a n c n' c' Try.underlying22
  obtain ⟨i0, hi, hz0, hz1, hz2⟩ := info_parts info9
  have A : Hid (∀ j u, news[j]? = some u → w.cell? ⟨b, off + j, none⟩ = some u) := hc
  have HL : Hid (news.length = n) := hl
  clear hc hl
  go_enter Try.func25, Try.ntmps25
  go_wp2_with (at_builtin; refine wpList_append_lies _ rfl _ _ 22 rfl w.heap.size 9 i0 (.string ⟨#[]⟩) 1 16 Try.underlying22 hi hz0 hz1 hz2 rfl (by omega) _ _ _ rfl (World.ownsRow_made w #[] 0 (Nat.le_refl _) (Nat.zero_le _) (by simp)) ⟨b, off, none⟩ n c news rfl ?qc1 ?qc2 ?qc3 ?qc3b ?qc4 ?qc5 ?qc6 (w.heap.size + 1) ?qc7 ?_)
  case qc1 => rw [HL.out, Nat.mul_one]
  case qc2 =>
    intro j u hj
    rw [Addr.add_lit]
    exact Lib.cell?_alloc_some _ (A.out j u hj)
  case qc3 => exact h1
  case qc3b => exact hn0
  case qc4 => unfold maxLen; omega
  case qc5 => omega
  case qc6 => simp
  case qc7 => simp
  intro g cap w1 hown hgrow hat hlt
  go_wp2
  go_ret
  have hg : w.heap.size ≤ g := by rcases hat with h | h; (simp [Value.ownBlock] at h; omega); omega
  refine ⟨g, cap, by simp, ?_, hg, ?_⟩
  · have := SlRow.of_owns hown
    simpa using this
  · exact ((Fr.refl [] w).alloc _).trans (Fr.of_grown hgrow (S := [w.heap.size]) (by intro k hk; simp [Value.ownBlock] at hk; simp [hk])) (by intro x hx; rw [List.mem_singleton.1 hx]; exact .inr (Nat.le_refl _))

set_option maxHeartbeats 1000000 in
set_option maxRecDepth 100000 in
/-- slices.Clone of a slice with elements. -/
theorem cloneN (b off n c : Nat) (news : List Value) (w : World) (hl : news.length = n) (hn0 : 0 < n) (hn : n ≤ 1000000)
    (hc : ∀ j u, news[j]? = some u → w.cell? ⟨b, off + j, none⟩ = some u) (h1 : ∀ u ∈ news, u.oneCell' = true) :
    Calls Try.prog 26 #[.slice (some ⟨b, off, none⟩) n c] w fun e w' => ∃ g cap, e = .returned (.slice (some ⟨g, 0, none⟩) n cap) ∧ SlRow w' 27 (.slice (some ⟨g, 0, none⟩) n cap) news [g] ∧ w.heap.size ≤ g ∧ Fr [] w w' := by
  have q22 : ∀ (w : World) (a : Option Addr) (n c n' c' : Nat), (binOp .eql 42 (.slice a n c) (.slice none n' c')).run Try.prog w = .ok (.bool a.isNone) w := fun w a n c n' c' => Lib.run_eql_slice_nil w _ _ a n c n' c' Try.underlying42
  obtain ⟨i0, hi, hz0, hz1, hz2⟩ := info_parts info27
  have A : Hid (∀ j u, news[j]? = some u → w.cell? ⟨b, off + j, none⟩ = some u) := hc
  have HL : Hid (news.length = n) := hl
  clear hc hl
  go_enter Try.func26, Try.ntmps26
  go_wp2_with (at_builtin; refine wpList_append_lies _ rfl _ _ 42 rfl w.heap.size 27 i0 (.pointer none) 1 8 Try.underlying42 hi hz0 hz1 hz2 rfl (by omega) _ _ _ rfl (World.ownsRow_made w #[] 0 (Nat.le_refl _) (Nat.zero_le _) (by simp)) ⟨b, off, none⟩ n c news rfl ?qc1 ?qc2 ?qc3 ?qc3b ?qc4 ?qc5 ?qc6 (w.heap.size + 1) ?qc7 ?_)
  case qc1 => rw [HL.out, Nat.mul_one]
  case qc2 =>
    intro j u hj
    rw [Addr.add_lit]
    exact Lib.cell?_alloc_some _ (A.out j u hj)
  case qc3 => exact h1
  case qc3b => exact hn0
  case qc4 => unfold maxLen; omega
  case qc5 => omega
  case qc6 => simp
  case qc7 => simp
  intro g cap w1 hown hgrow hat hlt
  go_wp2
  go_ret
  have hg : w.heap.size ≤ g := by rcases hat with h | h; (simp [Value.ownBlock] at h; omega); omega
  refine ⟨g, cap, by simp, ?_, hg, ?_⟩
  · have := SlRow.of_owns hown
    simpa using this
  · exact ((Fr.refl [] w).alloc _).trans (Fr.of_grown hgrow (S := [w.heap.size]) (by intro k hk; simp [Value.ownBlock] at hk; simp [hk])) (by intro x hx; rw [List.mem_singleton.1 hx]; exact .inr (Nat.le_refl _))

end Go.Proofs.Qxb6600882a
