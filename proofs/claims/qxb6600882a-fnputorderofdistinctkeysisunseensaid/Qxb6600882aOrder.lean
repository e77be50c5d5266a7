/-
  FnPutOrderOfDistinctKeysIsUnseen: the walk.
-/
import Derived.Test.Qxb6600882aOrderA
import Derived.BigQuiet
namespace Go.Proofs.Qxb6600882a
open Go.RowKit

set_option maxHeartbeats 4000000 in
set_option maxRecDepth 100000 in
theorem order_any (w : World) (a0 : Option Addr) (n0 c0 : Nat) (x0 : List ByteArray) (h0 : StrArr w (.slice a0 n0 c0) x0) (a1 : Option Addr) (n1 c1 : Nat) (x1 : List ByteArray) (h1 : StrArr w (.slice a1 n1 c1) x1) :
    Calls Try.prog 5 #[.slice a0 n0 c0, .slice a1 n1 c1] w fun e w' => e = .returned (.bool true) ∧ Fr [] w w' := by
  have HZ : Hid (Calls Try.prog 16 #[.slice a0 n0 c0, .slice a1 n1 c1] w fun e w' => IsBool e ∧ w' = w) := zzOrder w a0 n0 c0 x0 h0 a1 n1 c1 x1 h1
  have H0 : Hid (StrArr w (.slice a0 n0 c0) x0) := h0
  have H1 : Hid (StrArr w (.slice a1 n1 c1) x1) := h1
  clear h0 h1
  go_enter Try.func5, Try.ntmps5
  go_wp2_with (first
    | (go_at_call 16; refine HZ.out.mono ?_; rintro e w' ⟨⟨b, rfl⟩, rfl⟩)
    | (go_at_call 8; have _t := z0; refine (bytesize_le _ x1 _ H1.out).mono ?_; rintro e w' ⟨⟨z1, rfl, z10, z1m, hz1⟩, rfl⟩; have HZ1 : Hid (z1 ≤ 1048576 → Small x1 x1.length) := hz1; clear hz1)
    | (go_at_call 8; refine (bytesize_le _ x0 _ H0.out).mono ?_; rintro e w' ⟨⟨z0, rfl, z00, z0m, hz0⟩, rfl⟩; have HZ0 : Hid (z0 ≤ 1048576 → Small x0 x0.length) := hz0; clear hz0)
    | (go_at_call 9; have _t := hg0; refine (copied_any _ _ _ x1 _ (H1.out.fr hf0) (by omega)).mono ?_; rintro e w2 ⟨ra1, rc1, fp1, rfl, hr1, hg1, hf1⟩)
    | (go_at_call 9; refine (copied_any _ _ _ x0 _ H0.out (by omega)).mono ?_; rintro e w1 ⟨ra0, rc0, fp0, rfl, hr0, hg0, hf0⟩)
    | (go_at_call 10; refine (pairs_any _ _ _ _ _ _ _).mono ?_; rintro e w' ⟨rfl, rfl⟩))
  all_goals (try (go_ret; exact ⟨rfl, Fr.refl _ _⟩))
  obtain ⟨w3, rfl⟩ : ∃ x, x = w' := ⟨_, rfl⟩
  have HF3 : Hid (Fr [] _ w3) := hf0.step hf1
  have HC0 : Hid (Copied w3 ra0 n0 rc0 x0 fp0) := hr0.fr hf1 (by simp)
  have HC1 : Hid (Copied w3 ra1 n1 rc1 x1 fp1) := hr1
  obtain ⟨n, hn⟩ : ∃ n, min n0 n1 = n := ⟨_, rfl⟩
  have hn0 : n ≤ n0 := by omega
  have hn1 : n ≤ n1 := by omega
  have hn4 : n ≤ 4096 := by omega
  rw [hn]
  have HSM : Hid (Small x0 x0.length) := HZ0.out (by omega)
  clear hr0 hr1 hg0 hg1 hf0 hf1 hn HZ H0 H1
  go_loopg [6] n (fun g s wr => ∃ i, g = n - i ∧ i ≤ n ∧ s = .int .i64 i ∧ Fr [] w3 wr ∧ Dist x0 i)
  case atStart => exact ⟨0, rfl, Nat.zero_le _, rfl, Fr.refl _ _, fun i j x h => absurd h (Nat.not_lt_zero _)⟩
  case round =>
    obtain ⟨i, rfl, hi, rfl, hfr, hdist⟩ := hrel
    by_cases hlt : i < n
    · obtain ⟨g0, x, rfl, -, hc0, hx⟩ := HC0.out.cell (k := i) (by omega)
      have HD : Hid (Dist x0 i) := hdist
      have HX : Hid (x0[i]? = some x) := hx
      have hcw := hfr.cell hc0
      have HF : Hid (Fr [] w3 wr) := hfr
      have b0 : (0 : Int) ≤ (i : Int) := by omega
      have b1 : (i : Int) < (n0 : Int) := by omega
      clear hdist hx hfr
      go_wp2
      obtain ⟨wa, rfl⟩ : ∃ y, y = wr := ⟨_, rfl⟩
      go_loopg [7] i (fun g s wr => ∃ j, g = i - j ∧ j ≤ i ∧ s = .int .i64 j ∧ Fr [] w3 wr ∧ ∀ b, b < j → x0[b]? ≠ some x)
      case atStart => exact ⟨0, rfl, Nat.zero_le _, rfl, HF.out, fun b h => absurd h (Nat.not_lt_zero _)⟩
      case round =>
        obtain ⟨j, rfl, hj, rfl, hfr, hno⟩ := hrel
        by_cases hltj : j < i
        · obtain ⟨g0', y, he, -, hcj0, hy⟩ := HC0.out.cell (k := j) (by omega)
          obtain rfl : g0 = g0' := by simpa using he
          have hcj := hfr.cell hcj0
          have hci := hfr.cell hc0
          have b2 : (0 : Int) ≤ (j : Int) := by omega
          have b3 : (j : Int) < (n0 : Int) := by omega
          have HN : Hid (∀ b, b < j → x0[b]? ≠ some x) := hno
          have HY : Hid (x0[j]? = some y) := hy
          have HFF : Hid (Fr [] w3 wr) := hfr
          clear hno hy hfr hcj0 he
          by_cases hxy : x = y
          · subst hxy
            go_wp2
            go_quiet (fail)
            go_wp2
            go_ret
            exact ⟨rfl, (HF3.out.step HFF.out).drewN _⟩
          · have hne : (x.toList == y.toList) = false := ne_toList hxy
            go_wp2
            go_quiet (fail)
            go_wp2
            go_roundg (i - (j + 1))
            case measure => omega
            case rel => exact ⟨j + 1, rfl, by omega, by go_num, HFF.out.drewN _, fun b hb => by
                rcases Nat.lt_or_ge b j with h | h
                · exact HN.out b h
                · rw [show b = j by omega, HY.out]
                  intro e
                  exact hxy (Option.some.inj e).symm⟩
        · obtain rfl : j = i := by omega
          have HN : Hid (∀ b, b < j → x0[b]? ≠ some x) := hno
          have HFF : Hid (Fr [] w3 wr) := hfr
          clear hno hfr
          go_wp2
          go_roundg (n - (j + 1))
          case measure => omega
          case rel => exact ⟨j + 1, rfl, by omega, by go_num, HFF.out, fun a b z ha hb hz => by
              rcases Nat.lt_or_ge a j with h | h
              · exact HD.out a b z h hb hz
              · obtain rfl : a = j := by omega
                rw [HX.out] at hz
                obtain rfl := Option.some.inj hz
                exact HN.out b hb⟩
    · obtain rfl : i = n := by omega
      obtain ⟨w4, rfl⟩ : ∃ y, y = wr := ⟨_, rfl⟩
      have HC0' : Hid (Copied w4 ra0 n0 rc0 x0 fp0) := HC0.out.fr hfr (by simp)
      have HC1' : Hid (Copied w4 ra1 n1 rc1 x1 fp1) := HC1.out.fr hfr (by simp)
      have HF4 : Hid (Fr [] _ w4) := HF3.out.step hfr
      have HD : Hid (Dist x0 i) := hdist
      clear hfr hdist HC0 HC1 HF3
      go_wp2
      go_loopg [10] i (fun g s wr => ∃ j, g = i - j ∧ j ≤ i ∧ s = .int .i64 j ∧ Both w4 w4.heap.size (w4.heap.size + 1) (putAll x0 x1 j) [] wr)
      case atStart => exact ⟨0, rfl, Nat.zero_le _, rfl, Both.start w4⟩
      case round =>
        obtain ⟨j, rfl, hj, rfl, hb⟩ := hrel
        by_cases hltj : j < i
        · obtain ⟨g0, x, rfl, -, hc0, hx⟩ := HC0'.out.cell (k := j) (by omega)
          obtain ⟨g1, y, rfl, -, hc1, hy⟩ := HC1'.out.cell (k := j) (by omega)
          have K0 : Hid (∀ w', Fr [] w4 w' → Fr [] w4 w' ∧ w'.cell? ⟨g0, j, none⟩ = some (.string x) ∧ w'.cell? ⟨g1, j, none⟩ = some (.string y)) := fun w' h => ⟨h, h.cell hc0, h.cell hc1⟩
          have HP : Hid (Calls Try.prog 11 #[ptr w4.heap.size, .string x, .string y] wr.drew fun e w' => e = .returned (.tuple #[]) ∧ Both w4 w4.heap.size (w4.heap.size + 1) (putAll x0 x1 (j + 1)) [] w') := by
            rw [putAll_next hx hy]
            exact (hb.fr ((Fr.refl [] wr).drew)).put x y
          have HF : Hid (Fr [] w4 wr) := hb.out
          obtain ⟨-, c0', c1'⟩ := K0.out wr hb.out
          have b0 : (0 : Int) ≤ (j : Int) := by omega
          have b1 : (j : Int) < (n0 : Int) := by omega
          have b2 : (j : Int) < (n1 : Int) := by omega
          clear hb hc0 hc1 hx hy
          go_wp2
          go_region_held3 (fun w' => Fr [] w4 w' ∧ w'.cell? ⟨g0, j, none⟩ = some (.string x) ∧ w'.cell? ⟨g1, j, none⟩ = some (.string y))
            (first | exact K0.out _ (Fr.drew HF.out) | exact K0.out _ (Both.out (by assumption)))
            (first | (go_at_call 11; refine HP.out.mono ?_; rintro e w5 ⟨rfl, hb5⟩))
          go_wp2
          go_roundg (i - (j + 1))
          case measure => omega
          case rel => exact ⟨j + 1, rfl, by omega, by go_num, hb5⟩
        · obtain rfl : j = i := by omega
          have HB : Hid (Both w4 (w4.heap.size + 1) w4.heap.size [] (putAll x0 x1 j) wr) := hb.swap
          clear hb
          obtain ⟨w5, rfl⟩ : ∃ y, y = wr := ⟨_, rfl⟩
          go_wp2
          go_loopg [11] j (fun g s wr => g ≤ j ∧ s = .int .i64 ((g : Int) - 1) ∧ Both w4 (w4.heap.size + 1) w4.heap.size (putBack x0 x1 j (j - g)) (putAll x0 x1 j) wr)
          case atStart => exact ⟨Nat.le_refl _, rfl, by rw [Nat.sub_self]; exact HB.out⟩
          case round =>
            obtain ⟨hgk, rfl, hb⟩ := hrel
            rcases gk with _ | g
            · have hbs := hb.swap
              rw [Nat.sub_zero] at hb hbs
              have HBB : Hid (Both w4 (w4.heap.size + 1) w4.heap.size (putBack x0 x1 j j) (putAll x0 x1 j) wr) := hb
              have HBA : Hid (Both w4 w4.heap.size (w4.heap.size + 1) (putAll x0 x1 j) (putBack x0 x1 j j) wr) := hbs
              clear hb hbs HB
              obtain ⟨w6, rfl⟩ : ∃ y, y = wr := ⟨_, rfl⟩
              go_wp2
              go_loopg [12] j (fun g s wr => ∃ l, g = j - l ∧ l ≤ j ∧ s = .int .i64 l ∧ Fr [] w6 wr)
              case atStart => exact ⟨0, rfl, Nat.zero_le _, rfl, Fr.refl _ _⟩
              case round =>
                obtain ⟨l, rfl, hl, rfl, hfr⟩ := hrel
                by_cases hltl : l < j
                · obtain ⟨g0, x, rfl, -, hc0, hx⟩ := HC0'.out.cell (k := l) (by omega)
                  obtain ⟨g1, y, rfl, -, hc1, hy⟩ := HC1'.out.cell (k := l) (by omega)
                  have hsmall : (x.size : Int) ≤ 8388608 := by have := HSM.out l x (lt_of_at hx) hx; omega
                  have hca := HBA.out.out.cell hc0
                  have hcb := HBA.out.out.cell hc1
                  have K0 : Hid (∀ w', Fr [] w6 w' → Fr [] w6 w' ∧ w'.cell? ⟨g0, l, none⟩ = some (.string x) ∧ w'.cell? ⟨g1, l, none⟩ = some (.string y)) := fun w' h => ⟨h, h.cell hca, h.cell hcb⟩
                  have hl0 : j ≤ x0.length := by rw [← HC0'.out.1]; exact hn0
                  have hl1 : j ≤ x1.length := by rw [← HC1'.out.1]; exact hn1
                  have hA := all_some HD.out hl0 hltl hx hy j (Nat.le_refl _) hltl
                  have hB : look x (putBack x0 x1 j j) = some y := by rw [same_look HD.out hl0 hl1]; exact hA
                  have HA : Hid (∀ w', Fr [] w6 w' → Calls Try.prog 13 #[ptr w4.heap.size, .string x, .string y, .bool true] w' fun e w'' => e = .returned (.bool true) ∧ ∃ n, w'' = w'.drewN n) :=
                    fun w' h => (HBA.out.fr h).agree _ _ _ (by simp [agree, hA])
                  have HAB : Hid (∀ w', Fr [] w6 w' → Calls Try.prog 13 #[ptr (w4.heap.size + 1), .string x, .string y, .bool true] w' fun e w'' => e = .returned (.bool true) ∧ ∃ n, w'' = w'.drewN n) :=
                    fun w' h => (HBB.out.fr h).agree _ _ _ (by simp [agree, hB])
                  have HG : Hid (∀ q, ∃ got had, (∀ w', Fr [] w6 w' → Calls Try.prog 15 #[ptr w4.heap.size, .string q] w' fun e w'' => e = .returned (.tuple #[.string got, .bool had]) ∧ ∃ n, w'' = w'.drewN n) ∧
                      (∀ w', Fr [] w6 w' → Calls Try.prog 15 #[ptr (w4.heap.size + 1), .string q] w' fun e w'' => e = .returned (.tuple #[.string got, .bool had]) ∧ ∃ n, w'' = w'.drewN n)) :=
                    fun q => ⟨_, _, fun w' h => (HBA.out.fr h).get q, fun w' h => by have := (HBB.out.fr h).get q; rw [same_look HD.out hl0 hl1] at this; exact this⟩
                  obtain ⟨got, had, G1, G2⟩ := HG.out (x ++ ⟨#[0]⟩)
                  have HG1 : Hid (∀ w', Fr [] w6 w' → Calls Try.prog 15 #[ptr w4.heap.size, .string (x ++ ⟨#[0]⟩)] w' fun e w'' => e = .returned (.tuple #[.string got, .bool had]) ∧ ∃ n, w'' = w'.drewN n) := G1
                  have HG2 : Hid (∀ w', Fr [] w6 w' → Calls Try.prog 15 #[ptr (w4.heap.size + 1), .string (x ++ ⟨#[0]⟩)] w' fun e w'' => e = .returned (.tuple #[.string got, .bool had]) ∧ ∃ n, w'' = w'.drewN n) := G2
                  have HF : Hid (Fr [] w6 wr) := hfr
                  have b0 : (0 : Int) ≤ (l : Int) := by omega
                  have b1 : (l : Int) < (n0 : Int) := by omega
                  have b2 : (l : Int) < (n1 : Int) := by omega
                  obtain ⟨-, c0', c1'⟩ := K0.out wr hfr
                  clear G1 G2 HG hA hB hx hy hc0 hc1 hca hcb hfr hl0 hl1
                  go_wp2
                  go_region_held3 (fun w' => Fr [] w6 w' ∧ w'.cell? ⟨g0, l, none⟩ = some (.string x) ∧ w'.cell? ⟨g1, l, none⟩ = some (.string y))
                    (first | exact K0.out _ (Fr.drew HF.out) | exact K0.out _ (Fr.drewN HF.out _))
                    (first | (go_at_call 13; have _t := q1; refine (HAB.out _ (Fr.drewN HF.out _)).mono ?_; rintro e w' ⟨rfl, q2, rfl⟩) | (go_at_call 13; refine (HA.out _ (Fr.drew HF.out)).mono ?_; rintro e w' ⟨rfl, q1, rfl⟩))
                  cases had
                  all_goals
                    go_wp2_with (first
                      | (go_at_call 15; have _t := q3; refine (HG2.out _ (Fr.drewN HF.out _)).mono ?_; rintro e w' ⟨rfl, q4, rfl⟩)
                      | (go_at_call 15; refine (HG1.out _ (Fr.drewN HF.out _)).mono ?_; rintro e w' ⟨rfl, q3, rfl⟩))
                    go_roundg (j - (l + 1))
                    case measure => omega
                    case rel => exact ⟨l + 1, rfl, by omega, by go_num, HF.out.drewN _⟩
                · have HF : Hid (Fr [] w6 wr) := hfr
                  clear hfr
                  go_wp2
                  go_ret
                  exact ⟨rfl, (HF4.out.step HBA.out.out).step HF.out⟩
            · obtain ⟨g0, x, rfl, -, hc0, hx⟩ := HC0'.out.cell (k := g) (by omega)
              obtain ⟨g1, y, rfl, -, hc1, hy⟩ := HC1'.out.cell (k := g) (by omega)
              have K0 : Hid (∀ w', Fr [] w4 w' → Fr [] w4 w' ∧ w'.cell? ⟨g0, g, none⟩ = some (.string x) ∧ w'.cell? ⟨g1, g, none⟩ = some (.string y)) := fun w' h => ⟨h, h.cell hc0, h.cell hc1⟩
              have HP : Hid (Calls Try.prog 11 #[ptr (w4.heap.size + 1), .string x, .string y] wr.drew fun e w' => e = .returned (.tuple #[]) ∧ Both w4 (w4.heap.size + 1) w4.heap.size (putBack x0 x1 j (j - g)) (putAll x0 x1 j) w') := by
                have hd : j - g = (j - (g + 1)) + 1 := by omega
                have hk : j - 1 - (j - (g + 1)) = g := by omega
                rw [hd, putBack_next (x := x) (y := y) (by rw [hk]; exact hx) (by rw [hk]; exact hy)]
                exact (hb.fr ((Fr.refl [] wr).drew)).put x y
              have HF : Hid (Fr [] w4 wr) := hb.out
              obtain ⟨-, c0', c1'⟩ := K0.out wr hb.out
              have b0 : (0 : Int) ≤ (g : Int) := by omega
              have b1 : (g : Int) < (n0 : Int) := by omega
              have b2 : (g : Int) < (n1 : Int) := by omega
              have e1 : (((g + 1 : Nat) : Int) - 1) = g := by omega
              rw [e1]
              clear hb hc0 hc1 hx hy e1
              go_wp2
              go_region_held3 (fun w' => Fr [] w4 w' ∧ w'.cell? ⟨g0, g, none⟩ = some (.string x) ∧ w'.cell? ⟨g1, g, none⟩ = some (.string y))
                (first | exact K0.out _ (Fr.drew HF.out) | exact K0.out _ (Both.out (by assumption)))
                (first | (go_at_call 11; refine HP.out.mono ?_; rintro e w5 ⟨rfl, hb5⟩))
              go_wp2
              go_roundg g
              case measure => omega
              case rel => exact ⟨by omega, rfl, hb5⟩
end Go.Proofs.Qxb6600882a
