/-
  The law's helpers: byte counts, copies, the number of pairs.
-/
import Derived.Test.Qxb6600882aHeap
import Derived.Test.Qxb6600882aRows
import Derived.WalkKit
import Derived.WalkSpells
import Derived.WalkLawsBesides
import Derived.Deep.LoopGhost
import Derived.Deep.OwnRows
import Derived.Lib.SliceRun
namespace Go.Proofs.Qxb6600882a
open Go.RowKit

/-- A slice of strings, wherever it lies. -/
def StrArr (w : World) (v : Value) (xs : List ByteArray) : Prop :=
  ∃ a cap, v = .slice a xs.length cap ∧ xs.length ≤ 9223372036854775807 ∧ (∀ j x, xs[j]? = some x → ∃ b off, a = some ⟨b, off, none⟩ ∧ w.cell? ⟨b, off + j, none⟩ = some (.string x) ∧ x.size ≤ 9223372036854775807)

theorem StrArr.form {w : World} {v : Value} {xs : List ByteArray} (h : StrArr w v xs) : (xs = [] ∧ ∃ a cap, v = .slice a 0 cap) ∨
    ∃ b off cap, v = .slice (some ⟨b, off, none⟩) xs.length cap ∧ 0 < xs.length ∧ xs.length ≤ 9223372036854775807 ∧ ∀ j x, xs[j]? = some x → w.cell? ⟨b, off + j, none⟩ = some (.string x) ∧ x.size ≤ 9223372036854775807 := by
  obtain ⟨a, cap, rfl, hm, hc⟩ := h
  cases xs with
  | nil => exact .inl ⟨rfl, a, cap, rfl⟩
  | cons x r =>
    obtain ⟨b, off, rfl, _⟩ := hc 0 x rfl
    refine .inr ⟨b, off, cap, rfl, by simp, hm, fun j y hj => ?_⟩
    obtain ⟨b', off', he, h2⟩ := hc j y hj
    obtain ⟨rfl, rfl⟩ : b = b' ∧ off = off' := by simpa using he
    exact h2

set_option maxHeartbeats 1000000 in
theorem bytesize_any (v : Value) (xs : List ByteArray) (w : World) (h : StrArr w v xs) :
    Calls Try.prog 8 #[v] w fun e w' => (∃ z : Int, e = .returned (.int .i64 z)) ∧ w' = w := by
  rcases h.form with ⟨rfl, a, cap, rfl⟩ | ⟨b, off, cap, rfl, h0, hm, hc⟩
  · go_enter Try.func8, Try.ntmps8
    go_wp2
    go_loop [3, 4] (fun s3 s4 => s3 = .int .i64 0 ∧ s4 = .int .i64 0) (fun _ _ => 0)
    case atStart => exact ⟨rfl, rfl⟩
    case round =>
      obtain ⟨rfl, rfl⟩ := hrel
      go_wp2
      go_ret
      exact ⟨⟨_, rfl⟩, rfl⟩
  · have HC : Hid _ := hc
    clear hc
    obtain ⟨n, hn⟩ : ∃ n, xs.length = n := ⟨_, rfl⟩
    rw [hn] at h0 hm ⊢
    by_cases hbig : 65536 < n
    · go_enter Try.func8, Try.ntmps8
      go_wp2
      go_ret
      exact ⟨⟨_, rfl⟩, rfl⟩
    · have hle : n ≤ 65536 := by omega
      go_enter Try.func8, Try.ntmps8
      go_wp2
      go_loop [3, 4] (fun s3 s4 => ∃ (z : Int) (k : Nat), s3 = .int .i64 z ∧ s4 = .int .i64 k ∧ k ≤ n) (fun _ s4 => n - (intOf s4).toNat)
      case atStart => exact ⟨_, 0, rfl, rfl, Nat.zero_le _⟩
      case round =>
        obtain ⟨z, k, rfl, rfl, hk⟩ := hrel
        by_cases hlt : k < n
        · obtain ⟨x, hx⟩ : ∃ x, xs[k]? = some x := ⟨xs[k]'(by omega), List.getElem?_eq_getElem _⟩
          obtain ⟨hcell, hsz⟩ := HC.out k x hx
          clear hx hn
          go_wp2
          all_goals first
            | (go_ret; exact ⟨⟨_, rfl⟩, rfl⟩)
            | (refine ⟨⟨_, k + 1, rfl, by go_num, by omega⟩, ?_⟩; simp [intOf]; omega)
        · clear hn
          go_wp2
          go_ret
          exact ⟨⟨_, rfl⟩, rfl⟩

end Go.Proofs.Qxb6600882a
