/-
  FnPutChangesOnlyItsOwnKey: the walk.
-/
import Derived.Test.Qxb6600882aLawD
namespace Go.Proofs.Qxb6600882a
open Go.RowKit

set_option maxHeartbeats 4000000 in
set_option maxRecDepth 100000 in
theorem changes_any (w : World) (a0 : Option Addr) (n0 c0 : Nat) (x0 : List ByteArray) (h0 : StrArr w (.slice a0 n0 c0) x0) (a1 : Option Addr) (n1 c1 : Nat) (x1 : List ByteArray) (h1 : StrArr w (.slice a1 n1 c1) x1)
    (a2 : Option Addr) (n2 c2 : Nat) (x2 : List ByteArray) (h2 : StrArr w (.slice a2 n2 c2) x2) (k v : ByteArray) (hk : k.size ≤ 9223372036854775807) (hv : v.size ≤ 9223372036854775807) :
    Calls Try.prog 4 #[.slice a0 n0 c0, .slice a1 n1 c1, .slice a2 n2 c2, .string k, .string v] w fun e w' => e = .returned (.bool true) ∧ Fr [] w w' := by
  have HZ : Hid (Calls Try.prog 14 #[.slice a0 n0 c0, .slice a1 n1 c1, .slice a2 n2 c2, .string k, .string v] w fun e w' => IsBool e ∧ w' = w) := zzPut w a0 n0 c0 x0 h0 a1 n1 c1 x1 h1 a2 n2 c2 x2 h2 k hk v hv
  have H0 : Hid (StrArr w (.slice a0 n0 c0) x0) := h0
  have H1 : Hid (StrArr w (.slice a1 n1 c1) x1) := h1
  have H2 : Hid (StrArr w (.slice a2 n2 c2) x2) := h2
  clear h0 h1 h2
  go_enter Try.func4, Try.ntmps4
  go_wp2_with (first
    | (go_at_call 14; refine HZ.out.mono ?_; rintro e w' ⟨⟨b, rfl⟩, rfl⟩)
    | (go_at_call 8; have _t := z1; refine (bytesize_any _ x2 _ H2.out).mono ?_; rintro e w' ⟨⟨z2, rfl⟩, rfl⟩)
    | (go_at_call 8; have _t := z0; refine (bytesize_any _ x1 _ H1.out).mono ?_; rintro e w' ⟨⟨z1, rfl⟩, rfl⟩)
    | (go_at_call 8; refine (bytesize_any _ x0 _ H0.out).mono ?_; rintro e w' ⟨⟨z0, rfl⟩, rfl⟩)
    | (go_at_call 9; have _t := hg1; refine (copied_any _ _ _ x2 _ (H2.out.fr (hf0.step hf1)) (by omega)).mono ?_; rintro e w3 ⟨ra2, rc2, fp2, rfl, hr2, hg2, hf2⟩)
    | (go_at_call 9; have _t := hg0; refine (copied_any _ _ _ x1 _ (H1.out.fr hf0) (by omega)).mono ?_; rintro e w2 ⟨ra1, rc1, fp1, rfl, hr1, hg1, hf1⟩)
    | (go_at_call 9; refine (copied_any _ _ _ x0 _ H0.out (by omega)).mono ?_; rintro e w1 ⟨ra0, rc0, fp0, rfl, hr0, hg0, hf0⟩)
    | (go_at_call 10; refine (pairs_any _ _ _ _ _ _ _).mono ?_; rintro e w' ⟨rfl, rfl⟩))
  all_goals (try (go_ret; exact ⟨rfl, Fr.refl _ _⟩))
  obtain ⟨w3, rfl⟩ : ∃ x, x = w' := ⟨_, rfl⟩
  have HF3 : Hid (Fr [] _ w3) := (hf0.step hf1).step hf2
  have HC0 : Hid (Copied w3 ra0 n0 rc0 x0 fp0) := hr0.fr (hf1.step hf2) (by simp)
  have HC1 : Hid (Copied w3 ra1 n1 rc1 x1 fp1) := hr1.fr hf2 (by simp)
  have HC2 : Hid (Copied w3 ra2 n2 rc2 x2 fp2) := hr2
  obtain ⟨n, hn⟩ : ∃ n, min n0 n1 = n := ⟨_, rfl⟩
  have hn0 : n ≤ n0 := by omega
  have hn1 : n ≤ n1 := by omega
  have hn4 : n ≤ 4096 := by omega
  have hq4 : n2 ≤ 4096 := by omega
  rw [hn]
  clear hr0 hr1 hr2 hg0 hg1 hg2 hf0 hf1 hf2 hn HZ H0 H1 H2
  go_loopg [13] n (fun g s wr => ∃ i, g = n - i ∧ i ≤ n ∧ s = .int .i64 i ∧ Built w3 w3.heap.size (putAll x0 x1 i) wr)
  case atStart => exact ⟨0, rfl, Nat.zero_le _, rfl, Built.start w3⟩
  case round =>
    obtain ⟨i, rfl, hi, rfl, hb⟩ := hrel
    by_cases hlt : i < n
    · obtain ⟨g0, x, rfl, -, hc0, hx⟩ := HC0.out.cell (k := i) (by omega)
      obtain ⟨g1, y, rfl, -, hc1, hy⟩ := HC1.out.cell (k := i) (by omega)
      have K0 : Hid (∀ w', Fr [] w3 w' → Fr [] w3 w' ∧ w'.cell? ⟨g0, i, none⟩ = some (.string x) ∧ w'.cell? ⟨g1, i, none⟩ = some (.string y)) := fun w' h => ⟨h, h.cell hc0, h.cell hc1⟩
      have HP : Hid (Calls Try.prog 11 #[ptr w3.heap.size, .string x, .string y] wr.drew fun e w' => e = .returned (.tuple #[]) ∧ Built w3 w3.heap.size (putAll x0 x1 (i + 1)) w') := by
        rw [putAll_next hx hy]
        exact (hb.fr ((Fr.refl [] wr).drew)).put x y
      have HF : Hid (Fr [] w3 wr) := hb.out
      obtain ⟨-, c0', c1'⟩ := K0.out wr hb.out
      have b0 : (0 : Int) ≤ (i : Int) := by omega
      have b1 : (i : Int) < (n0 : Int) := by omega
      have b2 : (i : Int) < (n1 : Int) := by omega
      clear hb hc0 hc1 hx hy
      go_wp2
      go_region_held3 (fun w' => Fr [] w3 w' ∧ w'.cell? ⟨g0, i, none⟩ = some (.string x) ∧ w'.cell? ⟨g1, i, none⟩ = some (.string y))
        (first | exact K0.out _ (Fr.drew HF.out) | exact K0.out _ (Built.out (by assumption)))
        (first | (go_at_call 11; refine HP.out.mono ?_; rintro e w4 ⟨rfl, hb4⟩))
      go_wp2
      go_roundg (n - (i + 1))
      case measure => omega
      case rel => exact ⟨i + 1, rfl, by omega, by go_num, hb4⟩
    · obtain rfl : i = n := by omega
      obtain ⟨w4, rfl⟩ : ∃ x, x = wr := ⟨_, rfl⟩
      obtain ⟨M, hM⟩ : ∃ M, putAll x0 x1 i = M := ⟨_, rfl⟩
      rw [hM] at hb
      have HB : Hid (Built w3 w3.heap.size M w4) := hb
      have hmA := Go.run_make_row' (P := Try.prog) 22 9 (.string ⟨#[]⟩) 16 Try.underlying22 info9 rfl .i64 .i64 n2 (by omega) (by omega)
      have hmB := Go.run_make_row' (P := Try.prog) 37 4 (.bool false) 1 Try.underlying37 info4 rfl .i64 .i64 n2 (by omega) (by omega)
      clear hM hb
      go_wp2
      go_loopg [16] n2 (fun g s wr => ∃ j, g = n2 - j ∧ j ≤ n2 ∧ s = .int .i64 j ∧ Fr [] w4 wr ∧ Two M wr w4.heap.size (w4.heap.size + 1) n2 x2 j)
      case atStart => exact ⟨0, rfl, Nat.zero_le _, rfl, ((Fr.refl [] w4).alloc _).alloc _, two_start M w4 n2 x2 HC2.out.1 hq4⟩
      case round =>
        obtain ⟨j, rfl, hj, rfl, hf4, htwo⟩ := hrel
        by_cases hlt2 : j < n2
        · obtain ⟨g2, x, rfl, -, hc2, hx⟩ := HC2.out.cell (k := j) hlt2
          have hcx := (HB.out.out.step hf4).cell hc2
          have HG : Hid (Calls Try.prog 15 #[ptr w3.heap.size, .string x] wr fun e w' => e = .returned (.tuple #[.string ((look x M).getD ⟨#[]⟩), .bool (look x M).isSome]) ∧ ∃ n, w' = wr.drewN n) := (HB.out.fr hf4).get x
          obtain ⟨d1, d2⟩ := htwo.1.cell hlt2
          obtain ⟨d3, d4⟩ := htwo.2.cell hlt2
          have HT : Hid (∀ q : Nat, Two M (((wr.drewN q).setCell ⟨w4.heap.size, j, none⟩ (.string ((look x M).getD ⟨#[]⟩))).setCell ⟨w4.heap.size + 1, j, none⟩ (.bool (look x M).isSome)) w4.heap.size (w4.heap.size + 1) n2 x2 (j + 1)) :=
            fun q => (htwo.fr ((Fr.refl [] wr).drewN q) (by simp) (by simp)).step (by omega) hx
          have HF : Hid (Fr [] w4 wr) := hf4
          clear hf4 htwo hc2 hx
          obtain ⟨got, hgot⟩ : ∃ s, (look x M).getD ⟨#[]⟩ = s := ⟨_, rfl⟩
          obtain ⟨had, hhad⟩ : ∃ s, (look x M).isSome = s := ⟨_, rfl⟩
          rw [hgot, hhad] at HG HT
          clear hgot hhad
          go_wp2_with (go_at_call 15; refine HG.out.mono ?_; rintro e w' ⟨rfl, q, rfl⟩)
          go_roundg (n2 - (j + 1))
          case measure => omega
          case rel => exact ⟨j + 1, rfl, by omega, by go_num, ((HF.out.drewN q).setCell (.inr (Nat.le_refl _)) _).setCell (.inr (Nat.le_succ _)) _, HT.out q⟩
        · obtain rfl : j = n2 := by omega
          obtain ⟨w5, rfl⟩ : ∃ x, x = wr := ⟨_, rfl⟩
          have HF5 : Hid (Fr [] w4 w5) := hf4
          have HT5 : Hid (Two M w5 w4.heap.size (w4.heap.size + 1) j x2 j) := htwo
          have hmC := Go.run_make_row' (P := Try.prog) 22 9 (.string ⟨#[]⟩) 16 Try.underlying22 info9 rfl .i64 .i64 i (by omega) (by omega)
          have hmD := Go.run_make_row' (P := Try.prog) 37 4 (.bool false) 1 Try.underlying37 info4 rfl .i64 .i64 i (by omega) (by omega)
          clear hf4 htwo hmA hmB
          go_wp2
          go_loopg [21] i (fun g s wr => ∃ l, g = i - l ∧ l ≤ i ∧ s = .int .i64 l ∧ Fr [] w5 wr ∧ Two M wr w5.heap.size (w5.heap.size + 1) i (x0.take i) l)
          case atStart => exact ⟨0, rfl, Nat.zero_le _, rfl, ((Fr.refl [] w5).alloc _).alloc _, two_start M w5 i (x0.take i) (by rw [List.length_take, ← HC0.out.1]; omega) hn4⟩
          case round =>
            obtain ⟨l, rfl, hl, rfl, hf5, htwo⟩ := hrel
            by_cases hlt3 : l < i
            · obtain ⟨g0, x, rfl, -, hc0, hx⟩ := HC0.out.cell (k := l) (by omega)
              have hcx := ((HB.out.out.step HF5.out).step hf5).cell hc0
              have HG : Hid (Calls Try.prog 15 #[ptr w3.heap.size, .string x] wr fun e w' => e = .returned (.tuple #[.string ((look x M).getD ⟨#[]⟩), .bool (look x M).isSome]) ∧ ∃ n, w' = wr.drewN n) := ((HB.out.fr HF5.out).fr hf5).get x
              obtain ⟨d1, d2⟩ := htwo.1.cell hlt3
              obtain ⟨d3, d4⟩ := htwo.2.cell hlt3
              have HT : Hid (∀ q : Nat, Two M (((wr.drewN q).setCell ⟨w5.heap.size, l, none⟩ (.string ((look x M).getD ⟨#[]⟩))).setCell ⟨w5.heap.size + 1, l, none⟩ (.bool (look x M).isSome)) w5.heap.size (w5.heap.size + 1) i (x0.take i) (l + 1)) :=
                fun q => (htwo.fr ((Fr.refl [] wr).drewN q) (by simp) (by simp)).step (by omega) (by rw [List.getElem?_take, if_pos hlt3]; exact hx)
              have HF : Hid (Fr [] w5 wr) := hf5
              have b1 : (l : Int) < (n0 : Int) := by omega
              clear hf5 htwo hc0 hx
              obtain ⟨got, hgot⟩ : ∃ s, (look x M).getD ⟨#[]⟩ = s := ⟨_, rfl⟩
              obtain ⟨had, hhad⟩ : ∃ s, (look x M).isSome = s := ⟨_, rfl⟩
              rw [hgot, hhad] at HG HT
              clear hgot hhad
              go_wp2_with (go_at_call 15; refine HG.out.mono ?_; rintro e w' ⟨rfl, q, rfl⟩)
              go_roundg (i - (l + 1))
              case measure => omega
              case rel => exact ⟨l + 1, rfl, by omega, by go_num, ((HF.out.drewN q).setCell (.inr (Nat.le_refl _)) _).setCell (.inr (Nat.le_succ _)) _, HT.out q⟩
            · obtain rfl : l = i := by omega
              obtain ⟨w6, rfl⟩ : ∃ x, x = wr := ⟨_, rfl⟩
              have HP : Hid (Calls Try.prog 11 #[ptr w3.heap.size, .string k, .string v] w6 fun e w7 => e = .returned (.tuple #[]) ∧ Built w3 w3.heap.size (ins k v M) w7 ∧
                  Two M w7 w4.heap.size (w4.heap.size + 1) j x2 j ∧ Two M w7 w5.heap.size (w5.heap.size + 1) l (x0.take l) l) := by
                refine (HB.out.putKeep (HF5.out.step hf5) k v).mono ?_
                rintro e w7 ⟨rfl, hb7, fp, hf7, hfp⟩
                have s45 := HF5.out.size
                have no : ∀ x, w4.heap.size ≤ x → x ∉ fp := fun x hx hm => by have := hfp x hm; omega
                exact ⟨rfl, hb7, (HT5.out.fr hf5 (by simp) (by simp)).fr hf7 (no _ (Nat.le_refl _)) (no _ (Nat.le_succ _)), htwo.fr hf7 (no _ s45) (no _ (by omega))⟩
              clear hf5 htwo HT5 hmC hmD
              go_wp2_with (first
                | (go_at_call 11; refine HP.out.mono ?_; rintro e w7 ⟨rfl, hb7, hta, htb⟩)
                | (go_at_call 13; refine (hb7.agree k v true (by simp [agree, look_ins_same])).mono ?_; rintro e w' ⟨rfl, q, rfl⟩))
              go_loopg [24] j (fun g s wr => ∃ m, g = j - m ∧ m ≤ j ∧ s = .int .i64 m ∧ Fr [] w7 wr)
              case atStart => exact ⟨0, rfl, Nat.zero_le _, rfl, (Fr.refl [] w7).drewN q⟩
              case round =>
                obtain ⟨m, rfl, hm, rfl, hfr⟩ := hrel
                by_cases hlt24 : m < j
                · obtain ⟨gx, x, rfl, -, hcx0, hx⟩ := HC2.out.cell (k := m) (by omega)
                  have hcx1 := hb7.out.cell hcx0
                  obtain ⟨hca, hcb⟩ := hta.at (k := m) (x := x) hx
                  have hcx := hfr.cell hcx1
                  have HF : Hid (Fr [] w7 wr) := hfr
                  have b0 : (0 : Int) ≤ (m : Int) := by omega
                  have b1 : (m : Int) < (j : Int) := by omega
                  have b2 : (m : Int) < (j : Int) := by omega
                  by_cases hxk : x = k
                  · subst hxk
                    clear hx hcx0 hcx1 hca hcb hb7 hta htb hfr
                    go_wp2
                    go_roundg (j - (m + 1))
                    case measure => omega
                    case rel => exact ⟨m + 1, rfl, by omega, by go_num, HF.out⟩
                  · have hne : (x.toList == k.toList) = false := ne_toList hxk
                    have HA : Hid (Calls Try.prog 13 #[ptr w3.heap.size, .string x, .string ((look x M).getD ⟨#[]⟩), .bool (look x M).isSome] wr.drew fun e w' => e = .returned (.bool true) ∧ ∃ n, w' = wr.drew.drewN n) :=
                      (hb7.fr hfr.drew).agree _ _ _ (agree_look (look_ins_other _ _ _ hxk _))
                    obtain ⟨got, hgot⟩ : ∃ s, (look x M).getD ⟨#[]⟩ = s := ⟨_, rfl⟩
                    obtain ⟨had, hhad⟩ : ∃ s, (look x M).isSome = s := ⟨_, rfl⟩
                    rw [hgot, hhad] at HA
                    rw [hgot] at hca
                    rw [hhad] at hcb
                    have K0 : Hid (∀ w', Fr [] w7 w' → Fr [] w7 w' ∧ w'.cell? ⟨gx, m, none⟩ = some (.string x) ∧ w'.cell? ⟨w4.heap.size, m, none⟩ = some (.string got) ∧ w'.cell? ⟨w4.heap.size + 1, m, none⟩ = some (.bool had)) := fun w' h => ⟨h, h.cell hcx1, h.cell hca, h.cell hcb⟩
                    clear hgot hhad hx hcx0 hcx1 hca hcb hb7 hta htb hfr hxk
                    go_wp2
                    go_region_held3 (fun w' => Fr [] w7 w' ∧ w'.cell? ⟨gx, m, none⟩ = some (.string x) ∧ w'.cell? ⟨w4.heap.size, m, none⟩ = some (.string got) ∧ w'.cell? ⟨w4.heap.size + 1, m, none⟩ = some (.bool had))
                      (first | exact K0.out _ (Fr.drew HF.out) | exact K0.out _ (Fr.drewN HF.out _))
                      (first | (go_at_call 13; refine HA.out.mono ?_; rintro e w' ⟨rfl, qn, rfl⟩))
                    go_wp2
                    go_roundg (j - (m + 1))
                    case measure => omega
                    case rel => exact ⟨m + 1, rfl, by omega, by go_num, HF.out.drewN _⟩
                · obtain rfl : m = j := by omega
                  have hf7 : Fr [] w7 wr := hfr
                  clear hfr
                  go_wp2
                  go_loopg [25] l (fun g s wr => ∃ p, g = l - p ∧ p ≤ l ∧ s = .int .i64 p ∧ Fr [] w7 wr)
                  case atStart => exact ⟨0, rfl, Nat.zero_le _, rfl, hf7⟩
                  case round =>
                    obtain ⟨p, rfl, hp, rfl, hfr⟩ := hrel
                    by_cases hlt25 : p < l
                    · obtain ⟨gx, x, rfl, -, hcx0, hx⟩ := HC0.out.cell (k := p) (by omega)
                      have hcx1 := hb7.out.cell hcx0
                      obtain ⟨hca, hcb⟩ := htb.at (k := p) (x := x) (by rw [List.getElem?_take, if_pos hlt25]; exact hx)
                      have hcx := hfr.cell hcx1
                      have HF : Hid (Fr [] w7 wr) := hfr
                      have b0 : (0 : Int) ≤ (p : Int) := by omega
                      have b1 : (p : Int) < (l : Int) := by omega
                      have b2 : (p : Int) < (n0 : Int) := by omega
                      by_cases hxk : x = k
                      · subst hxk
                        clear hx hcx0 hcx1 hca hcb hb7 hta htb hfr
                        go_wp2
                        go_roundg (l - (p + 1))
                        case measure => omega
                        case rel => exact ⟨p + 1, rfl, by omega, by go_num, HF.out⟩
                      · have hne : (x.toList == k.toList) = false := ne_toList hxk
                        have HA : Hid (Calls Try.prog 13 #[ptr w3.heap.size, .string x, .string ((look x M).getD ⟨#[]⟩), .bool (look x M).isSome] wr.drew fun e w' => e = .returned (.bool true) ∧ ∃ n, w' = wr.drew.drewN n) :=
                          (hb7.fr hfr.drew).agree _ _ _ (agree_look (look_ins_other _ _ _ hxk _))
                        obtain ⟨got, hgot⟩ : ∃ s, (look x M).getD ⟨#[]⟩ = s := ⟨_, rfl⟩
                        obtain ⟨had, hhad⟩ : ∃ s, (look x M).isSome = s := ⟨_, rfl⟩
                        rw [hgot, hhad] at HA
                        rw [hgot] at hca
                        rw [hhad] at hcb
                        have K0 : Hid (∀ w', Fr [] w7 w' → Fr [] w7 w' ∧ w'.cell? ⟨gx, p, none⟩ = some (.string x) ∧ w'.cell? ⟨w5.heap.size, p, none⟩ = some (.string got) ∧ w'.cell? ⟨w5.heap.size + 1, p, none⟩ = some (.bool had)) := fun w' h => ⟨h, h.cell hcx1, h.cell hca, h.cell hcb⟩
                        clear hgot hhad hx hcx0 hcx1 hca hcb hb7 hta htb hfr hxk
                        go_wp2
                        go_region_held3 (fun w' => Fr [] w7 w' ∧ w'.cell? ⟨gx, p, none⟩ = some (.string x) ∧ w'.cell? ⟨w5.heap.size, p, none⟩ = some (.string got) ∧ w'.cell? ⟨w5.heap.size + 1, p, none⟩ = some (.bool had))
                          (first | exact K0.out _ (Fr.drew HF.out) | exact K0.out _ (Fr.drewN HF.out _))
                          (first | (go_at_call 13; refine HA.out.mono ?_; rintro e w' ⟨rfl, qn, rfl⟩))
                        go_wp2
                        go_roundg (l - (p + 1))
                        case measure => omega
                        case rel => exact ⟨p + 1, rfl, by omega, by go_num, HF.out.drewN _⟩
                    · go_wp2
                      go_ret
                      exact ⟨rfl, (HF3.out.step hb7.out).step hfr⟩
end Go.Proofs.Qxb6600882a
