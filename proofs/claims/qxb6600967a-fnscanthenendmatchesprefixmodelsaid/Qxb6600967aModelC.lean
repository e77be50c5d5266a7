/-
  zzMissing.
-/
import Derived.Test.Qxb6600967aModelB
namespace Go.Proofs.Qxb6600967a
open Go.RowKit

theorem missing_none (p : ByteArray) (h : p.size = 0) (w : World) :
    Calls Try.prog 21 #[.string p] w fun e w' => e = .returned (.int .i64 1) ∧ w' = w := by
  have h1 : (p.size : Int) = 0 := by omega
  go_enter Try.func21, Try.ntmps21
  go_wp2
  go_ret
  exact ⟨rfl, rfl⟩

theorem missing_minus (w : World) :
    Calls Try.prog 21 #[.string ⟨#[45]⟩] w fun e w' => e = .returned (.int .i64 1) ∧ w' = w := by
  go_enter Try.func21, Try.ntmps21
  go_wp2
  go_ret
  exact ⟨rfl, rfl⟩

theorem missing_dot (p : ByteArray) (h : 0 < p.size) (hs : p.size ≤ 1048576) (hne : (p.toList == [45]) = false) (hd : dot (p[p.size - 1]'(by omega)) = true) (w : World) :
    Calls Try.prog 21 #[.string p] w fun e w' => e = .returned (.int .i64 3) ∧ w' = w := by
  have h1 : ¬ (p.size : Int) = 0 := by omega
  have h2 : ((p.size : Int) == 0) = false := beq_eq_false_iff_ne.2 h1
  have h3 : ¬ p = ByteArray.empty := fun he => by rw [he] at h; simp at h
  have h4 : (1 : Int) ≤ (p.size : Int) := by omega
  have h5 : (((p.size : Int) == 0) || (p.toList == [45])) = false := by rw [h2, hne]; rfl
  have h6 : ((p[p.size - 1].toNat : Int) == 46) = true := is_int (n := 46) hd
  go_enter Try.func21, Try.ntmps21
  go_wp2
  go_ret
  exact ⟨rfl, rfl⟩

theorem missing_exp (p : ByteArray) (h : 0 < p.size) (hs : p.size ≤ 1048576) (hne : (p.toList == [45]) = false) (hd : dot (p[p.size - 1]'(by omega)) = false) (w : World) :
    Calls Try.prog 21 #[.string p] w fun e w' => e = .returned (.int .i64 4) ∧ w' = w := by
  have h1 : ¬ (p.size : Int) = 0 := by omega
  have h2 : ((p.size : Int) == 0) = false := beq_eq_false_iff_ne.2 h1
  have h3 : ¬ p = ByteArray.empty := fun he => by rw [he] at h; simp at h
  have h4 : (1 : Int) ≤ (p.size : Int) := by omega
  have h5 : (((p.size : Int) == 0) || (p.toList == [45])) = false := by rw [h2, hne]; rfl
  have h6 : ((p[p.size - 1].toNat : Int) == 46) = false := is_int (n := 46) hd
  go_enter Try.func21, Try.ntmps21
  go_wp2
  go_ret
  exact ⟨rfl, rfl⟩

theorem step_not0 {q : Nat} {c : UInt8} (hq : q ≤ 8) : step q c ≠ some 0 := by
  have : q = 0 ∨ q = 1 ∨ q = 2 ∨ q = 3 ∨ q = 4 ∨ q = 5 ∨ q = 6 ∨ q = 7 ∨ q = 8 := by omega
  rcases this with rfl | rfl | rfl | rfl | rfl | rfl | rfl | rfl | rfl <;> simp only [step] <;> repeat' split
  all_goals simp

theorem step_to1 {q : Nat} {c : UInt8} (hq : q ≤ 8) (h : step q c = some 1) : q = 0 ∧ minus c = true := by
  have : q = 0 ∨ q = 1 ∨ q = 2 ∨ q = 3 ∨ q = 4 ∨ q = 5 ∨ q = 6 ∨ q = 7 ∨ q = 8 := by omega
  rcases this with rfl | rfl | rfl | rfl | rfl | rfl | rfl | rfl | rfl <;> simp only [step] at h <;> repeat' (split at h)
  all_goals first | (cases h; done) | exact ⟨rfl, ‹_›⟩

theorem step_to4 {q : Nat} {c : UInt8} (hq : q ≤ 8) (h : step q c = some 4) : dot c = true := by
  have : q = 0 ∨ q = 1 ∨ q = 2 ∨ q = 3 ∨ q = 4 ∨ q = 5 ∨ q = 6 ∨ q = 7 ∨ q = 8 := by omega
  rcases this with rfl | rfl | rfl | rfl | rfl | rfl | rfl | rfl | rfl <;> simp only [step] at h <;> repeat' (split at h)
  all_goals first | (cases h; done) | exact ‹dot c = true›

theorem step_to6 {q : Nat} {c : UInt8} (hq : q ≤ 8) (h : step q c = some 6) : eE c = true := by
  have : q = 0 ∨ q = 1 ∨ q = 2 ∨ q = 3 ∨ q = 4 ∨ q = 5 ∨ q = 6 ∨ q = 7 ∨ q = 8 := by omega
  rcases this with rfl | rfl | rfl | rfl | rfl | rfl | rfl | rfl | rfl <;> simp only [step] at h <;> repeat' (split at h)
  all_goals first | (cases h; done) | exact ‹eE c = true›

theorem step_to7 {q : Nat} {c : UInt8} (hq : q ≤ 8) (h : step q c = some 7) : q = 6 ∧ sgn c = true := by
  have : q = 0 ∨ q = 1 ∨ q = 2 ∨ q = 3 ∨ q = 4 ∨ q = 5 ∨ q = 6 ∨ q = 7 ∨ q = 8 := by omega
  rcases this with rfl | rfl | rfl | rfl | rfl | rfl | rfl | rfl | rfl <;> simp only [step] at h <;> repeat' (split at h)
  all_goals first | (cases h; done) | exact ⟨rfl, ‹_›⟩

/-- The last step of a run. -/
theorem go_last {a : B} {c : UInt8} {q : Nat} (h : go 0 (a ++ [c]) = some q) : ∃ q', q' ≤ 8 ∧ go 0 a = some q' ∧ step q' c = some q := by
  rw [go_append] at h
  cases ha : go 0 a with
  | none => rw [ha] at h; cases h
  | some q' =>
    rw [ha] at h
    refine ⟨q', go_range (Nat.zero_le _) ha, rfl, ?_⟩
    simp only [Option.bind_some, go] at h
    cases hs : step q' c with
    | none => rw [hs] at h; cases h
    | some q1 => rw [hs] at h; exact h

theorem snoc_cases (l : B) : l = [] ∨ ∃ a c, l = a ++ [c] := by
  rcases List.eq_nil_or_concat l with h | ⟨a, c, h⟩
  · exact .inl h
  · exact .inr ⟨a, c, by rw [h, List.concat_eq_append]⟩

theorem go_zero {l : B} (h : go 0 l = some 0) : l = [] := by
  rcases snoc_cases l with h1 | ⟨a, c, rfl⟩
  · exact h1
  · obtain ⟨q', h1, _, h3⟩ := go_last h
    exact absurd h3 (step_not0 h1)

theorem byte_is {c : UInt8} {n : Nat} (h : c.toNat = n) (hn : n < 256) : c = UInt8.ofNat n := by
  apply UInt8.toNat_inj.1
  rw [h]
  simp [Nat.mod_eq_of_lt hn]

/-- What an unfinished run looks like. -/
theorem unfinished {l : B} {q : Nat} (h : go 0 l = some q) (hf : fin q = false) :
    (l = [] ∧ endFault q = 1) ∨ (l = [45] ∧ endFault q = 1) ∨ ∃ a c, l = a ++ [c] ∧ l ≠ [45] ∧ ((dot c = true ∧ endFault q = 3) ∨ (dot c = false ∧ endFault q = 4)) := by
  rcases snoc_cases l with rfl | ⟨a, c, rfl⟩
  · cases h; exact .inl ⟨rfl, rfl⟩
  · have hq := go_range (Nat.zero_le _) h
    obtain ⟨q', h1, h2, h3⟩ := go_last h
    have : q = 0 ∨ q = 1 ∨ q = 2 ∨ q = 3 ∨ q = 4 ∨ q = 5 ∨ q = 6 ∨ q = 7 ∨ q = 8 := by omega
    rcases this with rfl | rfl | rfl | rfl | rfl | rfl | rfl | rfl | rfl
    · exact absurd h3 (step_not0 h1)
    · obtain ⟨rfl, hm⟩ := step_to1 h1 h3
      rw [go_zero h2]
      refine .inr (.inl ⟨?_, rfl⟩)
      simp only [minus, decide_eq_true_eq] at hm
      rw [byte_is hm (by omega)]
      rfl
    · cases hf
    · cases hf
    · have hd := step_to4 h1 h3
      refine .inr (.inr ⟨a, c, rfl, fun he => ?_, .inl ⟨hd, rfl⟩⟩)
      rw [he] at h
      cases h
    · cases hf
    · have hd := step_to6 h1 h3
      refine .inr (.inr ⟨a, c, rfl, fun he => ?_, .inr ⟨(eE_not hd).2.1, rfl⟩⟩)
      rw [he] at h
      cases h
    · obtain ⟨rfl, hd⟩ := step_to7 h1 h3
      refine .inr (.inr ⟨a, c, rfl, fun he => ?_, .inr ⟨(sgn_not hd).2.2.1, rfl⟩⟩)
      rw [he] at h
      cases h
    · cases hf

theorem last_at {p : ByteArray} {a : B} {c : UInt8} (h : bs p = a ++ [c]) : ∃ h0 : 0 < p.size, p[p.size - 1] = c := by
  have h1 : p.size = a.length + 1 := by rw [← bs_len, h, List.length_append]; rfl
  refine ⟨by omega, ?_⟩
  have h2 := bs_at (s := p) (k := p.size - 1) (by omega)
  have h3 : (bs p)[p.size - 1]? = some c := by
    rw [h, show p.size - 1 = a.length by omega]
    simp
  exact Option.some.inj (h2.symm.trans h3)

theorem toList_not {p : ByteArray} (h : bs p ≠ [45]) : (p.toList == [45]) = false := by
  rw [ByteArray.toList_eq]
  exact beq_eq_false_iff_ne.2 h

theorem missing_any (p : ByteArray) (q : Nat) (hg : go 0 (bs p) = some q) (hf : fin q = false) (hs : p.size ≤ 1048576) (w : World) :
    Calls Try.prog 21 #[.string p] w fun e w' => e = .returned (.int .i64 (endFault q)) ∧ w' = w := by
  rcases unfinished hg hf with ⟨h, he⟩ | ⟨h, he⟩ | ⟨a, c, h, hne, ⟨hd, he⟩ | ⟨hd, he⟩⟩
  · rw [he]
    exact missing_none p (by rw [← bs_len, h]; rfl) w
  · rw [he]
    have : p = ⟨#[45]⟩ := by
      cases p with
      | mk d => exact congrArg ByteArray.mk (Array.toList_inj.1 h)
    rw [this]
    exact missing_minus w
  · obtain ⟨h0, hc⟩ := last_at h
    rw [he]
    exact missing_dot p h0 hs (toList_not hne) (by rw [hc]; exact hd) w
  · obtain ⟨h0, hc⟩ := last_at h
    rw [he]
    exact missing_exp p h0 hs (toList_not hne) (by rw [hc]; exact hd) w

end Go.Proofs.Qxb6600967a
