/-
  zzAllDigits, zzHasFloatMark.
-/
import Derived.Test.Qxb6600967aReread
namespace Go.Proofs.Qxb6600967a
open Go.RowKit

theorem all1_pos {l : B} (h : 0 < l.length) : all1 l = l.all dg := by
  cases l with
  | nil => cases h
  | cons c r => rfl

theorem all_false {l : B} {k : Nat} {c : UInt8} {f : UInt8 → Bool} (h : l[k]? = some c) (hf : f c = false) : l.all f = false := by
  rw [List.all_eq_false]
  exact ⟨c, List.mem_of_getElem? h, by rw [hf]; exact Bool.false_ne_true⟩

theorem all_true {l : B} {f : UInt8 → Bool} (h : ∀ m c, m < l.length → l[m]? = some c → f c = true) : l.all f = true := by
  rw [List.all_eq_true]
  intro c hc
  obtain ⟨m, hm⟩ := List.mem_iff_getElem?.1 hc
  refine h m c ?_ hm
  rcases Nat.lt_or_ge m l.length with h1 | h1
  · exact h1
  · rw [List.getElem?_eq_none h1] at hm; cases hm

set_option maxHeartbeats 400000 in
theorem allDigits_any (s : ByteArray) (hs : s.size ≤ 1048577) (w : World) :
    Calls Try.prog 22 #[.string s] w fun e w' => e = .returned (.bool (all1 (bs s))) ∧ w' = w := by
  by_cases hz : s.size = 0
  · have : all1 (bs s) = false := by
      have : bs s = [] := List.length_eq_zero_iff.1 (by rw [bs_len]; exact hz)
      rw [this]; rfl
    rw [this]
    have hz' : ((s.size : Int) == 0) = true := by rw [hz]; rfl
    go_enter Try.func22, Try.ntmps22
    go_wp2
    go_ret
    exact ⟨rfl, rfl⟩
  · rw [all1_pos (by rw [bs_len]; omega)]
    have hz' : ((s.size : Int) == 0) = false := by
      rw [beq_eq_false_iff_ne]; omega
    generalize hb : (bs s).all dg = b
    have HB : Hid ((bs s).all dg = b) := hb
    clear hb
    go_enter Try.func22, Try.ntmps22
    go_wp2
    go_loop [3] (fun s1 => ∃ (k : Nat), s1 = .int .i64 k ∧ k ≤ s.size ∧ Hid (∀ m c, m < k → (bs s)[m]? = some c → dg c = true)) (fun s4 => s.size - (intOf s4).toNat)
    case atStart => exact ⟨0, rfl, Nat.zero_le _, fun m c h1 h2 => absurd h1 (by omega)⟩
    case round =>
      obtain ⟨k, rfl, hk, H⟩ := hrel
      by_cases hlt : k < s.size
      · have HC : Hid ((bs s)[k]? = some s[k]) := bs_at hlt
        cases hd : dg s[k] with
        | true =>
          go_wp2_with (go_at_call 20; refine (zzdigit_at s hlt _).mono ?_; rintro e w2 ⟨rfl, rfl⟩)
          refine ⟨⟨k + 1, by go_num, by omega, fun m c h2 h3 => ?_⟩, ?_⟩
          · rcases Nat.lt_or_ge m k with h | h
            · exact H.out m c h h3
            · rw [show m = k by omega, HC.out] at h3
              rw [← Option.some.inj h3]
              exact hd
          · simp [intOf]; omega
        | false =>
          go_wp2_with (go_at_call 20; refine (zzdigit_at s hlt _).mono ?_; rintro e w2 ⟨rfl, rfl⟩)
          go_ret
          exact ⟨by rw [show b = false from HB.out.symm.trans (all_false HC.out hd)]; rfl, rfl⟩
      · go_wp2
        go_ret
        exact ⟨by rw [show b = true from HB.out.symm.trans (all_true fun m c h1 h2 => H.out m c (by rw [bs_len] at h1; omega) h2)]; rfl, rfl⟩

theorem any_true {l : B} {k : Nat} {c : UInt8} {f : UInt8 → Bool} (h : l[k]? = some c) (hf : f c = true) : l.any f = true := by
  rw [List.any_eq_true]
  exact ⟨c, List.mem_of_getElem? h, hf⟩

theorem any_false {l : B} {f : UInt8 → Bool} (h : ∀ m c, m < l.length → l[m]? = some c → f c = false) : l.any f = false := by
  rw [List.any_eq_false]
  intro c hc
  obtain ⟨m, hm⟩ := List.mem_iff_getElem?.1 hc
  rw [h m c ?_ hm]
  · exact Bool.false_ne_true
  · rcases Nat.lt_or_ge m l.length with h1 | h1
    · exact h1
    · rw [List.getElem?_eq_none h1] at hm; cases hm

set_option maxHeartbeats 1000000 in
theorem hasMark_any (s : ByteArray) (hs : s.size ≤ 1048577) (w : World) :
    Calls Try.prog 19 #[.string s] w fun e w' => e = .returned (.bool (mark (bs s))) ∧ w' = w := by
  generalize hb : mark (bs s) = b
  have HB : Hid (mark (bs s) = b) := hb
  clear hb
  go_enter Try.func19, Try.ntmps19
  go_wp2
  go_loop [3] (fun s1 => ∃ (k : Nat), s1 = .int .i64 k ∧ k ≤ s.size ∧ Hid (∀ m c, m < k → (bs s)[m]? = some c → (dot c || eE c) = false)) (fun s4 => s.size - (intOf s4).toNat)
  case atStart => exact ⟨0, rfl, Nat.zero_le _, fun m c h1 h2 => absurd h1 (by omega)⟩
  case round =>
    obtain ⟨k, rfl, hk, H⟩ := hrel
    by_cases hlt : k < s.size
    · have HC : Hid ((bs s)[k]? = some s[k]) := bs_at hlt
      cases hd : (dot s[k] || eE s[k]) with
      | true =>
        have hor : ((s[k].toNat : Int) = 46) ∨ (¬ ((s[k].toNat : Int) = 46) ∧ (s[k].toNat : Int) = 101) ∨ (¬ ((s[k].toNat : Int) = 46) ∧ ¬ (s[k].toNat : Int) = 101 ∧ (s[k].toNat : Int) = 69) := by
          simp only [dot, eE, Bool.or_eq_true, decide_eq_true_eq] at hd
          omega
        have HR : Hid (b = true) := HB.out.symm.trans (any_true HC.out hd)
        clear hd
        rcases hor with h1 | ⟨h1, h2⟩ | ⟨h1, h2, h3⟩
        all_goals
          go_wp2
          go_ret
          exact ⟨by rw [HR.out]; rfl, rfl⟩
      | false =>
        have h1 : ¬ ((s[k].toNat : Int) = 46) := by
          simp only [dot, eE, Bool.or_eq_false_iff, decide_eq_false_iff_not] at hd
          omega
        have h2 : ¬ ((s[k].toNat : Int) = 101) := by
          simp only [dot, eE, Bool.or_eq_false_iff, decide_eq_false_iff_not] at hd
          omega
        have h3 : ¬ ((s[k].toNat : Int) = 69) := by
          simp only [dot, eE, Bool.or_eq_false_iff, decide_eq_false_iff_not] at hd
          omega
        go_wp2
        · exact absurd ‹(((s[k].toNat : Int) == 46) = true ∨ ((s[k].toNat : Int) == 101) = true) ∨ ((s[k].toNat : Int) == 69) = true› (by simp [h1, h2, h3])
        · refine ⟨⟨k + 1, by go_num, by omega, fun m c h2 h3 => ?_⟩, ?_⟩
          · rcases Nat.lt_or_ge m k with h | h
            · exact H.out m c h h3
            · rw [show m = k by omega, HC.out] at h3
              rw [← Option.some.inj h3]
              exact hd
          · simp [intOf]; omega
    · go_wp2
      go_ret
      exact ⟨by rw [show b = false from HB.out.symm.trans (any_false fun m c h1 h2 => H.out m c (by rw [bs_len] at h1; omega) h2)]; rfl, rfl⟩

end Go.Proofs.Qxb6600967a
