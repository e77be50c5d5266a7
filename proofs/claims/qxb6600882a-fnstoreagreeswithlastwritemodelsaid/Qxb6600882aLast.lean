/-
  FnStoreAgreesWithLastWriteModel: the plain law and the walk.
-/
import Derived.Test.Qxb6600882aLawD
namespace Go.Proofs.Qxb6600882a
open Go.RowKit

theorem look_last {ks vs : List ByteArray} (q : ByteArray) : ∀ (k : Nat), k ≤ ks.length → k ≤ vs.length → look q (putAll ks vs k) = lastW q ks vs k
  | 0, _, _ => rfl
  | k + 1, hk, hv => by
    obtain ⟨x, hx⟩ : ∃ x, ks[k]? = some x := ⟨ks[k]'(by omega), List.getElem?_eq_getElem _⟩
    obtain ⟨y, hy⟩ : ∃ y, vs[k]? = some y := ⟨vs[k]'(by omega), List.getElem?_eq_getElem _⟩
    rw [putAll_next hx hy, lastW, hx, hy]
    by_cases h : x = q
    · subst h
      rw [if_pos rfl, look_ins_same]
    · rw [if_neg (by simpa using h), look_ins_other _ _ _ (Ne.symm h)]
      exact look_last q k (by omega) (by omega)

theorem agree_last {ks vs : List ByteArray} {q : ByteArray} {k : Nat} (hk : k ≤ ks.length) (hv : k ≤ vs.length) : agree q ((lastW q ks vs k).getD ⟨#[]⟩) (lastW q ks vs k).isSome (putAll ks vs k) = true := by
  simp [agree, look_last q k hk hv]

set_option maxHeartbeats 4000000 in
set_option maxRecDepth 100000 in
theorem last_any (w : World) (a0 : Option Addr) (n0 c0 : Nat) (x0 : List ByteArray) (h0 : StrArr w (.slice a0 n0 c0) x0) (a1 : Option Addr) (n1 c1 : Nat) (x1 : List ByteArray) (h1 : StrArr w (.slice a1 n1 c1) x1)
    (a2 : Option Addr) (n2 c2 : Nat) (x2 : List ByteArray) (h2 : StrArr w (.slice a2 n2 c2) x2) :
    Calls Try.prog 3 #[.slice a0 n0 c0, .slice a1 n1 c1, .slice a2 n2 c2] w fun e w' => e = .returned (.bool true) ∧ Fr [] w w' := by
  have HZ : Hid (Calls Try.prog 7 #[.slice a0 n0 c0, .slice a1 n1 c1, .slice a2 n2 c2] w fun e w' => IsBool e ∧ w' = w) := zzStore w a0 n0 c0 x0 h0 a1 n1 c1 x1 h1 a2 n2 c2 x2 h2
  have H0 : Hid (StrArr w (.slice a0 n0 c0) x0) := h0
  have H1 : Hid (StrArr w (.slice a1 n1 c1) x1) := h1
  have H2 : Hid (StrArr w (.slice a2 n2 c2) x2) := h2
  clear h0 h1 h2
  go_enter Try.func3, Try.ntmps3
  go_wp2_with (first
    | (go_at_call 7; refine HZ.out.mono ?_; rintro e w' ⟨⟨b, rfl⟩, rfl⟩)
    | (go_at_call 8; have _t := z1; refine (bytesize_any _ x2 _ H2.out).mono ?_; rintro e w' ⟨⟨z2, rfl⟩, rfl⟩)
    | (go_at_call 8; have _t := z0; refine (bytesize_any _ x1 _ H1.out).mono ?_; rintro e w' ⟨⟨z1, rfl⟩, rfl⟩)
    | (go_at_call 8; refine (bytesize_any _ x0 _ H0.out).mono ?_; rintro e w' ⟨⟨z0, rfl⟩, rfl⟩)
    | (go_at_call 9; have _t := hg1; refine (copied_any _ _ _ x2 _ (H2.out.fr (hf0.step hf1)) (by omega)).mono ?_; rintro e w3 ⟨ra2, rc2, fp2, rfl, hr2, hg2, hf2⟩)
    | (go_at_call 9; have _t := hg0; refine (copied_any _ _ _ x1 _ (H1.out.fr hf0) (by omega)).mono ?_; rintro e w2 ⟨ra1, rc1, fp1, rfl, hr1, hg1, hf1⟩)
    | (go_at_call 9; refine (copied_any _ _ _ x0 _ H0.out (by omega)).mono ?_; rintro e w1 ⟨ra0, rc0, fp0, rfl, hr0, hg0, hf0⟩)
    | (go_at_call 10; refine (pairs_any _ _ _ _ _ _ _).mono ?_; rintro e w' ⟨rfl, rfl⟩))
  all_goals (try (go_ret; exact ⟨rfl, Fr.refl _ _⟩))
  obtain ⟨w3, rfl⟩ : ∃ x, x = w' := ⟨_, rfl⟩
  have HF3 : Hid (Fr [] _ w3) := (hf0.step hf1).step hf2
  have HC0 : Hid (Copied w3 ra0 n0 rc0 x0 fp0) := hr0.fr (hf1.step hf2) (by simp)
  have HC1 : Hid (Copied w3 ra1 n1 rc1 x1 fp1) := hr1.fr hf2 (by simp)
  have HC2 : Hid (Copied w3 ra2 n2 rc2 x2 fp2) := hr2
  obtain ⟨n, hn⟩ : ∃ n, min n0 n1 = n := ⟨_, rfl⟩
  have hn0 : n ≤ n0 := by omega
  have hn1 : n ≤ n1 := by omega
  have hn4 : n ≤ 4096 := by omega
  have hq4 : n2 ≤ 4096 := by omega
  rw [hn]
  clear hr0 hr1 hr2 hg0 hg1 hg2 hf0 hf1 hf2 hn HZ H0 H1 H2
  go_loopg [9] n (fun g s wr => ∃ i, g = n - i ∧ i ≤ n ∧ s = .int .i64 i ∧ Built w3 w3.heap.size (putAll x0 x1 i) wr)
  case atStart => exact ⟨0, rfl, Nat.zero_le _, rfl, Built.start w3⟩
  case round =>
    obtain ⟨i, rfl, hi, rfl, hb⟩ := hrel
    by_cases hlt : i < n
    · obtain ⟨g0, x, rfl, -, hc0, hx⟩ := HC0.out.cell (k := i) (by omega)
      obtain ⟨g1, y, rfl, -, hc1, hy⟩ := HC1.out.cell (k := i) (by omega)
      have K0 : Hid (∀ w', Fr [] w3 w' → Fr [] w3 w' ∧ w'.cell? ⟨g0, i, none⟩ = some (.string x) ∧ w'.cell? ⟨g1, i, none⟩ = some (.string y)) := fun w' h => ⟨h, h.cell hc0, h.cell hc1⟩
      have HP : Hid (Calls Try.prog 11 #[ptr w3.heap.size, .string x, .string y] wr.drew fun e w' => e = .returned (.tuple #[]) ∧ Built w3 w3.heap.size (putAll x0 x1 (i + 1)) w') := by
        rw [putAll_next hx hy]
        exact (hb.fr ((Fr.refl [] wr).drew)).put x y
      have HF : Hid (Fr [] w3 wr) := hb.out
      obtain ⟨-, c0', c1'⟩ := K0.out wr hb.out
      have b0 : (0 : Int) ≤ (i : Int) := by omega
      have b1 : (i : Int) < (n0 : Int) := by omega
      have b2 : (i : Int) < (n1 : Int) := by omega
      clear hb hc0 hc1 hx hy
      go_wp2
      go_region_held3 (fun w' => Fr [] w3 w' ∧ w'.cell? ⟨g0, i, none⟩ = some (.string x) ∧ w'.cell? ⟨g1, i, none⟩ = some (.string y))
        (first | exact K0.out _ (Fr.drew HF.out) | exact K0.out _ (Built.out (by assumption)))
        (first | (go_at_call 11; refine HP.out.mono ?_; rintro e w4 ⟨rfl, hb4⟩))
      go_wp2
      go_roundg (n - (i + 1))
      case measure => omega
      case rel => exact ⟨i + 1, rfl, by omega, by go_num, hb4⟩
    · obtain rfl : i = n := by omega
      obtain ⟨w4, rfl⟩ : ∃ x, x = wr := ⟨_, rfl⟩
      have HB : Hid (Built w3 w3.heap.size (putAll x0 x1 i) w4) := hb
      clear hb
      go_wp2
      go_loopg [10] i (fun g s wr => ∃ j, g = i - j ∧ j ≤ i ∧ s = .int .i64 j ∧ Fr [] w4 wr)
      case atStart => exact ⟨0, rfl, Nat.zero_le _, rfl, Fr.refl _ _⟩
      case round =>
        obtain ⟨j, rfl, hj, rfl, hfr⟩ := hrel
        by_cases hlt10 : j < i
        · have hk9 := (HC0.out.fr (HB.out.out.step hfr) (by simp)).2
          have hv9 := (HC1.out.fr (HB.out.out.step hfr) (by simp)).2
          obtain ⟨gx, x, he, -, hcx0, hx⟩ := HC0.out.cell (k := j) (by omega)
          have hcx := (HB.out.out.step hfr).cell hcx0
          have hl0 : i ≤ x0.length := by rw [← HC0.out.1]; exact hn0
          have hl1 : i ≤ x1.length := by rw [← HC1.out.1]; exact hn1
          have HL : Hid (Calls Try.prog 12 #[.slice ra0 n0 rc0, .slice ra1 n1 rc1, .int .i64 i, .string x] wr fun e w' => e = .returned (.tuple #[.string ((lastW x x0 x1 i).getD ⟨#[]⟩), .bool (lastW x x0 x1 i).isSome]) ∧ w' = wr) :=
            lastWrite_any _ _ x0 x1 fp0 fp1 i x wr hk9 hv9 hl0 hl1 hn4
          have HA : Hid (Calls Try.prog 13 #[ptr w3.heap.size, .string x, .string ((lastW x x0 x1 i).getD ⟨#[]⟩), .bool (lastW x x0 x1 i).isSome] wr fun e w' => e = .returned (.bool true) ∧ ∃ n, w' = wr.drewN n) :=
            (HB.out.fr hfr).agree _ _ _ (agree_last hl0 hl1)
          obtain ⟨got, hgot⟩ : ∃ s, (lastW x x0 x1 i).getD ⟨#[]⟩ = s := ⟨_, rfl⟩
          obtain ⟨had, hhad⟩ : ∃ s, (lastW x x0 x1 i).isSome = s := ⟨_, rfl⟩
          rw [hgot, hhad] at HA HL
          have HF : Hid (Fr [] w4 wr) := hfr
          have b0 : (0 : Int) ≤ (j : Int) := by omega
          have b1 : (j : Int) < (n0 : Int) := by omega
          clear hgot hhad hk9 hv9 hcx0 hx hfr
          subst he
          go_wp2_with (first
            | (go_at_call 12; refine HL.out.mono ?_; rintro e w' ⟨rfl, rfl⟩)
            | (go_at_call 13; refine HA.out.mono ?_; rintro e w' ⟨rfl, q, rfl⟩))
          go_roundg (i - (j + 1))
          case measure => omega
          case rel => exact ⟨j + 1, rfl, by omega, by go_num, HF.out.drewN _⟩
        · have HF2 : Hid (Fr [] w4 wr) := hfr
          clear hfr
          go_wp2
          go_loopg [13] n2 (fun g s wr => ∃ m, g = n2 - m ∧ m ≤ n2 ∧ s = .int .i64 m ∧ Fr [] w4 wr)
          case atStart => exact ⟨0, rfl, Nat.zero_le _, rfl, HF2.out⟩
          case round =>
            obtain ⟨m, rfl, hm, rfl, hfr⟩ := hrel
            by_cases hlt13 : m < n2
            · have hk9 := (HC0.out.fr (HB.out.out.step hfr) (by simp)).2
              have hv9 := (HC1.out.fr (HB.out.out.step hfr) (by simp)).2
              obtain ⟨gx, x, he, -, hcx0, hx⟩ := HC2.out.cell (k := m) (by omega)
              have hcx := (HB.out.out.step hfr).cell hcx0
              have hl0 : i ≤ x0.length := by rw [← HC0.out.1]; exact hn0
              have hl1 : i ≤ x1.length := by rw [← HC1.out.1]; exact hn1
              have HL : Hid (Calls Try.prog 12 #[.slice ra0 n0 rc0, .slice ra1 n1 rc1, .int .i64 i, .string x] wr fun e w' => e = .returned (.tuple #[.string ((lastW x x0 x1 i).getD ⟨#[]⟩), .bool (lastW x x0 x1 i).isSome]) ∧ w' = wr) :=
                lastWrite_any _ _ x0 x1 fp0 fp1 i x wr hk9 hv9 hl0 hl1 hn4
              have HA : Hid (Calls Try.prog 13 #[ptr w3.heap.size, .string x, .string ((lastW x x0 x1 i).getD ⟨#[]⟩), .bool (lastW x x0 x1 i).isSome] wr fun e w' => e = .returned (.bool true) ∧ ∃ n, w' = wr.drewN n) :=
                (HB.out.fr hfr).agree _ _ _ (agree_last hl0 hl1)
              obtain ⟨got, hgot⟩ : ∃ s, (lastW x x0 x1 i).getD ⟨#[]⟩ = s := ⟨_, rfl⟩
              obtain ⟨had, hhad⟩ : ∃ s, (lastW x x0 x1 i).isSome = s := ⟨_, rfl⟩
              rw [hgot, hhad] at HA HL
              have HF : Hid (Fr [] w4 wr) := hfr
              have b0 : (0 : Int) ≤ (m : Int) := by omega
              have b1 : (m : Int) < (n2 : Int) := by omega
              clear hgot hhad hk9 hv9 hcx0 hx hfr
              subst he
              go_wp2_with (first
                | (go_at_call 12; refine HL.out.mono ?_; rintro e w' ⟨rfl, rfl⟩)
                | (go_at_call 13; refine HA.out.mono ?_; rintro e w' ⟨rfl, q, rfl⟩))
              go_roundg (n2 - (m + 1))
              case measure => omega
              case rel => exact ⟨m + 1, rfl, by omega, by go_num, HF.out.drewN _⟩
            · have HF : Hid (Fr [] w4 wr) := hfr
              clear hfr
              go_wp2
              go_ret
              exact ⟨rfl, (HF3.out.step HB.out.out).step HF.out⟩

end Go.Proofs.Qxb6600882a
