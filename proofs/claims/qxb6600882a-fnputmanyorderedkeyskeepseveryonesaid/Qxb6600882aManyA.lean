/-
  FnPutManyOrderedKeysKeepsEveryOne: the plain law.
-/
import Derived.Test.Qxb6600882aDigits
import Derived.Test.Qxb6600882aPlain
namespace Go.Proofs.Qxb6600882a
open Go.RowKit

theorem u8_dig {a b : Nat} (h : UInt8.ofNat ((48 + a % 10 : Nat) : Int).toNat = UInt8.ofNat ((48 + b % 10 : Nat) : Int).toNat) : a % 10 = b % 10 := by
  have := congrArg UInt8.toNat h
  simp only [Int.toNat_natCast, UInt8.toNat_ofNat'] at this
  omega

theorem name_inj {c : UInt8} {n m : Nat} (hn : n < 1000000) (hm : m < 1000000) (h : name c n = name c m) : n = m := by
  have h1 : (name c n).data.toList = (name c m).data.toList := by rw [h]
  simp only [name, ByteArray.data_append, Array.toList_append, strOfNums_data, digs, List.map_cons, List.map_nil, dig] at h1
  have h2 := List.append_cancel_left h1
  simp only [List.cons.injEq, and_true] at h2
  obtain ⟨e0, e1, e2, e3, e4, e5⟩ := h2
  have f0 := u8_dig e0
  have f1 := u8_dig e1
  have f2 := u8_dig e2
  have f3 := u8_dig e3
  have f4 := u8_dig e4
  have f5 := u8_dig e5
  simp only [Nat.sub_zero, Nat.reduceSub, Nat.reducePow, Nat.div_one] at f0 f1 f2 f3 f4 f5
  omega

theorem name_long (c : UInt8) (n : Nat) : (name c n).size = 7 := by
  simp [name, ByteArray.size_append, strOfNums_size, digs]
  rfl

theorem even_inj {i j : Nat} (hi : i ≤ 65536) (hj : j ≤ 65536) (h : evenKey i = evenKey j) : i = j := by
  have := name_inj (by omega) (by omega) h
  omega

theorem odd_even {i j : Nat} (hi : i ≤ 65536) (hj : j ≤ 65536) : oddKey i ≠ evenKey j := fun h => by
  have := name_inj (by omega) (by omega) h
  omega

theorem short_even (c : UInt8) (j : Nat) : (⟨#[c]⟩ : ByteArray) ≠ evenKey j := fun h => by
  have := congrArg ByteArray.size h
  rw [evenKey, name_long] at this
  cases this

/-- Which pair round i writes. -/
def jOf (mode : Int) (n i : Nat) : Nat := if mode = 1 then n - 1 - i else if mode = 2 then (if i % 2 = 0 then i / 2 else n - 1 - i / 2) else i

theorem jOf_lt {mode : Int} {n i : Nat} (h : i < n) : jOf mode n i < n := by unfold jOf; split <;> (try split) <;> (try split) <;> omega

theorem jOf_all (mode : Int) {n j : Nat} (h : j < n) : ∃ i, i < n ∧ jOf mode n i = j := by
  unfold jOf
  by_cases h1 : mode = 1
  · exact ⟨n - 1 - j, by omega, by rw [if_pos h1]; omega⟩
  · by_cases h2 : mode = 2
    · by_cases h3 : j < (n + 1) / 2
      · refine ⟨2 * j, by omega, ?_⟩
        rw [if_neg h1, if_pos h2, if_pos (by omega)]; omega
      · refine ⟨2 * (n - 1 - j) + 1, by omega, ?_⟩
        rw [if_neg h1, if_pos h2, if_neg (by omega)]; omega
    · exact ⟨j, h, by rw [if_neg h1, if_neg h2]⟩

/-- What stands behind i rounds. -/
def Wrote (mode : Int) (n i : Nat) (M : List KV) : Prop :=
  (∀ k, k < i → look (evenKey (jOf mode n k)) M = some (valueOf (jOf mode n k))) ∧ ∀ q, (∀ j, j < n → q ≠ evenKey j) → look q M = none

theorem Wrote.start (mode : Int) (n : Nat) : Wrote mode n 0 [] := ⟨fun _ h => absurd h (Nat.not_lt_zero _), fun _ _ => rfl⟩

theorem Wrote.step {mode : Int} {n i : Nat} {M : List KV} (h : Wrote mode n i M) (hi : i < n) (hn : n ≤ 65536) : Wrote mode n (i + 1) (ins (evenKey (jOf mode n i)) (valueOf (jOf mode n i)) M) := by
  have hji := jOf_lt (mode := mode) hi
  refine ⟨fun k hk => ?_, fun q hq => ?_⟩
  · by_cases he : evenKey (jOf mode n k) = evenKey (jOf mode n i)
    · have hjk := jOf_lt (mode := mode) (show k < n by omega)
      rw [even_inj (by omega) (by omega) he, look_ins_same]
    · rw [look_ins_other _ _ _ he]
      refine h.1 k ?_
      rcases Nat.lt_or_ge k i with h1 | h1
      · exact h1
      · exact absurd (by rw [show k = i by omega]) he
  · rw [look_ins_other _ _ _ (hq _ hji)]
    exact h.2 q hq

theorem Wrote.stepAt {mode : Int} {n i j : Nat} {M : List KV} (h : Wrote mode n i M) (hi : i < n) (hn : n ≤ 65536) (hj : j = jOf mode n i) : Wrote mode n (i + 1) (ins (evenKey j) (valueOf j) M) := by
  rw [hj]; exact h.step hi hn

theorem jOf_back {mode : Int} {n i : Nat} (h : (mode == 1) = true) : n - 1 - i = jOf mode n i := by
  rw [jOf, if_pos (by simpa using h)]

theorem jOf_in {mode : Int} {n i : Nat} (h : (mode == 1) = false) (h2 : (mode == 2) = true) (h3 : ((i : Int) % 2 == 0) = true) : i / 2 = jOf mode n i := by
  rw [jOf, if_neg (by simpa using h), if_pos (by simpa using h2), if_pos (by simp only [beq_iff_eq] at h3; omega)]

theorem jOf_out {mode : Int} {n i : Nat} (h : (mode == 1) = false) (h2 : (mode == 2) = true) (h3 : ((i : Int) % 2 == 0) = false) : n - 1 - i / 2 = jOf mode n i := by
  rw [jOf, if_neg (by simpa using h), if_pos (by simpa using h2), if_neg (by simp only [beq_eq_false_iff_ne] at h3; omega)]

theorem jOf_on {mode : Int} {n i : Nat} (h : (mode == 1) = false) (h2 : (mode == 2) = false) : i = jOf mode n i := by
  rw [jOf, if_neg (by simpa using h), if_neg (by simpa using h2)]

theorem Wrote.even {mode : Int} {n : Nat} {M : List KV} (h : Wrote mode n n M) {j : Nat} (hj : j < n) : look (evenKey j) M = some (valueOf j) := by
  obtain ⟨i, hi, rfl⟩ := jOf_all mode hj
  exact h.1 i hi

end Go.Proofs.Qxb6600882a
