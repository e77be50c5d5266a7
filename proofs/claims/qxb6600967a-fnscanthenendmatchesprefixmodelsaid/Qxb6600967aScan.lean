/-
  (*JSONScanner).Scan: the walk.
-/
import Derived.Test.Qxb6600967aScanA
namespace Go.Proofs.Qxb6600967a
open Go.RowKit

theorem jumps_ret (J : Nat → Act → World → Prop) (Q : Exit → Act → World → Prop) (a : Act) (w : World) : jumps J Q .ret a w = Q .ret a w := rfl

def ScanPost (s : ByteArray) (sb : Nat) (w : World) (e : Ending) (w' : World) : Prop := ∃ n q : Nat, e = .returned (.tuple #[.int .i64 n, .bool (decide (n < s.size))]) ∧ Scanned s sb w n q w'

def J0 (s : ByteArray) (sb : Nat) (w : World) (a : Act) (w' : World) : Prop := ∃ i q, Fr15 sb s i a ∧ At s sb w i q w' ∧ (q = 1 ∨ (q = 0 ∧ ∃ h : i < s.size, minus s[i] = false))
def J6 (s : ByteArray) (sb : Nat) (w : World) (a : Act) (w' : World) : Prop := ∃ i q, Fr15 sb s i a ∧ At s sb w i q w' ∧ (q = 7 ∨ (q = 6 ∧ ∃ h : i < s.size, sgn s[i] = false))
def J2 (s : ByteArray) (sb : Nat) (w : World) (a : Act) (w' : World) : Prop := ∃ i, Fr15 sb s i a ∧ At s sb w i 3 w'
def J8 (s : ByteArray) (sb : Nat) (w : World) (a : Act) (w' : World) : Prop := ∃ i q, Fr15 sb s i a ∧ At s sb w i q w' ∧ (q = 2 ∨ q = 3) ∧ ∃ h : i < s.size, dg s[i] = false
def J9 (s : ByteArray) (sb : Nat) (w : World) (a : Act) (w' : World) : Prop := ∃ i q, Fr15 sb s i a ∧ At s sb w i q w' ∧ (q = 2 ∨ q = 3 ∨ q = 5) ∧ ∃ h : i < s.size, dg s[i] = false ∧ (q ≠ 5 → dot s[i] = false)

set_option maxHeartbeats 4000000 in
set_option maxRecDepth 100000 in
theorem scan_any (s : ByteArray) (sb : Nat) (w : World) (hs : s.size ≤ 1048577) (hb : w.heap[sb]? = some (.cells #[.int .u8 0, .bool false, .int .i64 0] 30 (0, 0))) :
    Calls Try.prog 15 #[.pointer (some ⟨sb, 0, none⟩), .string s] w fun e w' => ScanPost s sb w e w' := by
  have hat : At s sb w 0 0 w := ⟨Mid.start _, Fr.refl _ _, hb⟩
  obtain ⟨c0, c1, c2, f0, f1, f2⟩ := hat.cells
  have HAT : Hid (At s sb w 0 0 w) := hat
  clear hat hb
  go_enter Try.func15, Try.ntmps15
  go_wp2
  refine wp_scope_five (J0 s sb w) (J2 s sb w) (J6 s sb w) (J8 s sb w) (J9 s sb w) rfl rfl rfl rfl rfl ?p6 ?p9 ?p8 ?p2 ?p0 ?first
  case first =>
    intro H0
    by_cases he : s.size = 0
    · have HS := HAT.out.stop he.symm (z := 0) rfl
      go_wp2_with (go_at_call 23; refine (stop_any sb 0 0 w c0 f0).mono ?_; rintro e w' ⟨rfl, rfl⟩)
      rw [jumps_ret]
      go_ret2
      exact ⟨0, 0, by rw [he]; rfl, HS⟩
    · have hpos : 0 < s.size := by omega
      have hc0 := bs_at hpos
      go_wp2
      · go_step3
        rename_i h45 _ hK
        have hm : minus s[0] = true := int_is (n := 45) h45
        refine hK _ _ (H0 _ _ ?_)
        exact ⟨1, 1, (fr15_mk _ _ _ _ _ _ _ _ _ _ _ _ _ _ _ _ _ _ _ _ _ _ _ _ _ _ _ _ _ _ _ _ _ _ _ _ _ _ _ _ _ _ _ _ _ _ _ _ _ _ _ _ _ _ _ _ _ _ _ _ _ _ _ _ _ _ _ _ _ _ _ _ _ _ _ _ _ _ _ _ _ _ _ _ _ _ _ _ _ _ _ _ _ _ _ _ _ _ _ _ _ _ _ _ _ _ _ _ _ _ _ _ _ _ _ _ _ _ _ _ _ _ _ _ _ _ _ _ _ _ _ _ _ _ _ _ _ _ _ _ _ _ _ _ _ _ _ _ _ _ _ _ _ _ _ _ _ _ _ _ _ _ _ _ _ _ _ _ _ _ _ _ _ _ _ _ _ _ _ _ _ _ _ _ _ _ _ _ _ _ _ _ _ _ _ _ _ _ _ _ _ _ _ _ _ _ _ _ _), HAT.out.next hc0 (by simp [step, hm]) (minus_not hm).2.2.1 (minus_not hm).2.1, .inl rfl⟩
      · go_step3
        rename_i h45 _ hK
        have hm : minus s[0] = false := int_is (n := 45) h45
        refine hK _ _ (H0 _ _ ?_)
        exact ⟨0, 0, (fr15_mk _ _ _ _ _ _ _ _ _ _ _ _ _ _ _ _ _ _ _ _ _ _ _ _ _ _ _ _ _ _ _ _ _ _ _ _ _ _ _ _ _ _ _ _ _ _ _ _ _ _ _ _ _ _ _ _ _ _ _ _ _ _ _ _ _ _ _ _ _ _ _ _ _ _ _ _ _ _ _ _ _ _ _ _ _ _ _ _ _ _ _ _ _ _ _ _ _ _ _ _ _ _ _ _ _ _ _ _ _ _ _ _ _ _ _ _ _ _ _ _ _ _ _ _ _ _ _ _ _ _ _ _ _ _ _ _ _ _ _ _ _ _ _ _ _ _ _ _ _ _ _ _ _ _ _ _ _ _ _ _ _ _ _ _ _ _ _ _ _ _ _ _ _ _ _ _ _ _ _ _ _ _ _ _ _ _ _ _ _ _ _ _ _ _ _ _ _ _ _ _ _ _ _ _ _ _ _ _ _), HAT.out, .inr ⟨rfl, hpos, hm⟩⟩
  case p6 =>
    rintro - a' w' ⟨i, q, ⟨u, rfl⟩, hat, hq⟩
    clear c0 c1 c2 f0 f1 f2 HAT
    obtain ⟨c0, c1, c2, f0, f1, f2⟩ := hat.cells
    have HAT : Hid (At s sb w i q w') := hat
    have hile : i ≤ s.size := by have := hat.1.1; rw [bs_len] at this; exact this
    clear hat
    by_cases he : i < s.size
    · have HC : Hid ((bs s)[i]? = some s[i]) := bs_at he
      cases hd : dg s[i] with
      | true =>
        have HS : Hid (step q s[i] = some 8) := by
          show step q s[i] = some 8
          rcases hq with rfl | ⟨rfl, _, hm⟩
          · simp [step, hd]
          · simp [step, hd, hm]
        clear hq
        go_wp2_with (go_at_call 24; refine (digit_at s he _).mono ?_; rintro e w2 ⟨rfl, rfl⟩)
        go_step3
        go_wp2_with (first | (go_at_call 25; refine (digitsEnd_any s i hile hs _).mono ?_; rintro e w2 ⟨⟨j, rfl, hj⟩, rfl⟩; have hjs : j ≤ s.size := (by have := hj.2.1; rw [bs_len] at this; exact this); have HJ : Hid (DigitsTo (bs s) (i) j) := hj; clear hj) | (go_at_call 23; refine (stop_any _ _ _ _ c0 f0).mono ?_; rintro e w3 ⟨rfl, rfl⟩))
        all_goals
          rw [jumps_ret]
          go_ret2
        · exact ⟨j, 8, by simp [show ¬ j < s.size by omega], (HAT.out.enter HC.out hd HS.out stay8 HJ.out).stop (by omega) rfl⟩
        · have hjl : j < s.size := by omega
          exact ⟨j, 8, by simp [hjl], (HAT.out.enter HC.out hd HS.out stay8 HJ.out).plain (bs_at hjl) (by simp [step, HJ.out.not hjl]) rfl⟩
      | false =>
        have HS : Hid (step q s[i] = none ∧ stuckFault q s[i] = 4) := by
          rcases hq with rfl | ⟨rfl, _, hm⟩
          · exact ⟨by simp [step, hd], rfl⟩
          · exact ⟨by simp [step, hd, hm], rfl⟩
        clear hq
        go_wp2_with (go_at_call 24; refine (digit_at s he _).mono ?_; rintro e w2 ⟨rfl, rfl⟩)
        rw [jumps_ret]
        go_ret2
        exact ⟨i, q, by simp [he], HAT.out.fault HC.out HS.out.1 HS.out.2⟩
    · have hi : i = s.size := by omega
      have hq1 : q = 7 := by
        rcases hq with h | ⟨_, h, _⟩
        · exact h
        · exact absurd h he
      subst hq1
      clear hq
      have HI : Hid (i = s.size) := hi
      clear hi
      go_wp2_with (go_at_call 23; refine (stop_any _ _ _ _ c0 f0).mono ?_; rintro e w3 ⟨rfl, rfl⟩)
      rw [jumps_ret]
      go_ret2
      exact ⟨i, 7, by simp [he], HAT.out.stop HI.out rfl⟩
  case p9 =>
    intro H6
    rintro a' w' ⟨i, q, ⟨u, rfl⟩, hat, hq, he, hd, hdot⟩
    clear c0 c1 c2 f0 f1 f2 HAT
    obtain ⟨c0, c1, c2, f0, f1, f2⟩ := hat.cells
    have HAT : Hid (At s sb w i q w') := hat
    clear hat
    have HC : Hid ((bs s)[i]? = some s[i]) := bs_at he
    cases heE : eE s[i] with
    | false =>
      have h1 : ¬ ((s[i].toNat : Int) = 101) := by
        simp only [eE, Bool.or_eq_false_iff, decide_eq_false_iff_not] at heE
        omega
      have h2 : ¬ ((s[i].toNat : Int) = 69) := by
        simp only [eE, Bool.or_eq_false_iff, decide_eq_false_iff_not] at heE
        omega
      have HS : Hid (step q s[i] = none ∧ stuckFault q s[i] = 0) := by
        show step q s[i] = none ∧ stuckFault q s[i] = 0
        rcases hq with rfl | rfl | rfl
        · simp [step, stuckFault, hd, heE, hdot (by decide)]
        · simp [step, stuckFault, hd, heE, hdot (by decide)]
        · simp [step, stuckFault, hd, heE]
      clear hq hdot
      go_wp2
      all_goals first
        | (rw [jumps_ret]; go_ret2; exact ⟨i, q, by simp [he], HAT.out.plain HC.out HS.out.1 HS.out.2⟩)
        | (exfalso; first | omega | exact absurd ‹((s[i].toNat : Int) != 101) = false ∨ ((s[i].toNat : Int) != 69) = false› (by simp [h1, h2]))
    | true =>
      have hst : step q s[i] = some 6 := by
        obtain ⟨n1, n2, _⟩ := eE_not heE
        rcases hq with rfl | rfl | rfl
        · simp [step, n1, n2, heE]
        · simp [step, n2, heE]
        · simp [step, n1, heE]
      have hat1 := HAT.out.marked HC.out hst (by simp [heE])
      obtain ⟨k0, k1, k2, g0, g1, g2⟩ := hat1.cells
      have HA1 : Hid (At s sb w (i + 1) 6 (w'.setCell ⟨sb, 1, none⟩ (.bool true))) := hat1
      clear hat1 hst hq hdot
      have hor : ((s[i].toNat : Int) = 101) ∨ (¬ ((s[i].toNat : Int) = 101) ∧ ((s[i].toNat : Int) = 69)) := by
        simp only [eE, Bool.or_eq_true, decide_eq_true_eq] at heE
        omega
      clear heE
      by_cases he1 : i + 1 < s.size
      · have HC1 : Hid ((bs s)[i + 1]? = some s[i + 1]) := bs_at he1
        cases hsg : sgn s[i + 1] with
        | true =>
          have hat2 := HA1.out.next HC1.out (q' := 7) (by simp [step, hsg]) (sgn_not hsg).2.2.1 (sgn_not hsg).2.1
          have HA2 : Hid (At s sb w (i + 2) 7 (w'.setCell ⟨sb, 1, none⟩ (.bool true))) := hat2
          clear hat2
          have hor2 : ((s[i + 1].toNat : Int) = 43) ∨ (¬ ((s[i + 1].toNat : Int) = 43) ∧ ((s[i + 1].toNat : Int) = 45)) := by
            simp only [sgn, Bool.or_eq_true, decide_eq_true_eq] at hsg
            omega
          clear hsg
          rcases hor with h1 | ⟨h1, h2⟩ <;> rcases hor2 with h3 | ⟨h3, h4⟩
          all_goals
            go_wp2
            all_goals first
              | (exfalso; omega)
              | exact absurd ‹((s[i].toNat : Int) != 101) = true ∧ ((s[i].toNat : Int) != 69) = true› (by simp [h2])
              | (go_step3
                 go_wp2
                 all_goals first
                  | (exfalso; omega)
                  | exact absurd ‹((s[i + 1].toNat : Int) == 43) = false ∧ ((s[i + 1].toNat : Int) == 45) = false› (by simp [h4])
                  | (go_step3
                     rename_i hK
                     refine hK _ _ (H6 _ _ ?_)
                     exact ⟨i + 2, 7, (fr15_mk _ _ _ _ _ _ _ _ _ _ _ _ _ _ _ _ _ _ _ _ _ _ _ _ _ _ _ _ _ _ _ _ _ _ _ _ _ _ _ _ _ _ _ _ _ _ _ _ _ _ _ _ _ _ _ _ _ _ _ _ _ _ _ _ _ _ _ _ _ _ _ _ _ _ _ _ _ _ _ _ _ _ _ _ _ _ _ _ _ _ _ _ _ _ _ _ _ _ _ _ _ _ _ _ _ _ _ _ _ _ _ _ _ _ _ _ _ _ _ _ _ _ _ _ _ _ _ _ _ _ _ _ _ _ _ _ _ _ _ _ _ _ _ _ _ _ _ _ _ _ _ _ _ _ _ _ _ _ _ _ _ _ _ _ _ _ _ _ _ _ _ _ _ _ _ _ _ _ _ _ _ _ _ _ _ _ _ _ _ _ _ _ _ _ _ _ _ _ _ _ _ _ _ _ _ _ _ _ _), HA2.out, .inl rfl⟩))
        | false =>
          have h3 : ¬ ((s[i + 1].toNat : Int) = 43) := by
            simp only [sgn, Bool.or_eq_false_iff, decide_eq_false_iff_not] at hsg
            omega
          have h4 : ¬ ((s[i + 1].toNat : Int) = 45) := by
            simp only [sgn, Bool.or_eq_false_iff, decide_eq_false_iff_not] at hsg
            omega
          rcases hor with h1 | ⟨h1, h2⟩
          all_goals
            go_wp2
            all_goals first
              | (exfalso; omega)
              | exact absurd ‹((s[i].toNat : Int) != 101) = true ∧ ((s[i].toNat : Int) != 69) = true› (by simp [h2])
              | (go_step3
                 go_wp2
                 all_goals first
                  | (exfalso; omega)
                  | exact absurd ‹((s[i + 1].toNat : Int) == 43) = true ∨ ((s[i + 1].toNat : Int) == 45) = true› (by simp [h3, h4])
                  | (go_step3
                     rename_i hK
                     refine hK _ _ (H6 _ _ ?_)
                     exact ⟨i + 1, 6, (fr15_mk _ _ _ _ _ _ _ _ _ _ _ _ _ _ _ _ _ _ _ _ _ _ _ _ _ _ _ _ _ _ _ _ _ _ _ _ _ _ _ _ _ _ _ _ _ _ _ _ _ _ _ _ _ _ _ _ _ _ _ _ _ _ _ _ _ _ _ _ _ _ _ _ _ _ _ _ _ _ _ _ _ _ _ _ _ _ _ _ _ _ _ _ _ _ _ _ _ _ _ _ _ _ _ _ _ _ _ _ _ _ _ _ _ _ _ _ _ _ _ _ _ _ _ _ _ _ _ _ _ _ _ _ _ _ _ _ _ _ _ _ _ _ _ _ _ _ _ _ _ _ _ _ _ _ _ _ _ _ _ _ _ _ _ _ _ _ _ _ _ _ _ _ _ _ _ _ _ _ _ _ _ _ _ _ _ _ _ _ _ _ _ _ _ _ _ _ _ _ _ _ _ _ _ _ _ _ _ _ _), HA1.out, .inr ⟨rfl, he1, hsg⟩⟩))
      · have HI : Hid (i + 1 = s.size) := by show i + 1 = s.size; omega
        rcases hor with h1 | ⟨h1, h2⟩
        all_goals
          go_wp2
          all_goals first
            | (exfalso; omega)
            | exact absurd ‹((s[i].toNat : Int) != 101) = true ∧ ((s[i].toNat : Int) != 69) = true› (by simp [h2])
            | (go_step3
               go_wp2_with (go_at_call 23; refine (stop_any _ _ _ _ k0 g0).mono ?_; rintro e w3 ⟨rfl, rfl⟩)
               rw [jumps_ret]
               go_ret2
               exact ⟨i + 1, 6, by simp [he1], HA1.out.stop HI.out rfl⟩)
  case p8 =>
    intro H9
    rintro a' w' ⟨i, q, ⟨u, rfl⟩, hat, hq, he, hd⟩
    clear c0 c1 c2 f0 f1 f2 HAT
    obtain ⟨c0, c1, c2, f0, f1, f2⟩ := hat.cells
    have HAT : Hid (At s sb w i q w') := hat
    have hile : i ≤ s.size := by have := hat.1.1; rw [bs_len] at this; exact this
    clear hat
    have HC : Hid ((bs s)[i]? = some s[i]) := bs_at he
    cases hdot : dot s[i] with
    | false =>
      have hdot' : ((s[i].toNat : Int) == 46) = false := is_int (n := 46) hdot
      go_wp2
      go_step3
      exact ⟨rfl, i, q, (fr15_mk _ _ _ _ _ _ _ _ _ _ _ _ _ _ _ _ _ _ _ _ _ _ _ _ _ _ _ _ _ _ _ _ _ _ _ _ _ _ _ _ _ _ _ _ _ _ _ _ _ _ _ _ _ _ _ _ _ _ _ _ _ _ _ _ _ _ _ _ _ _ _ _ _ _ _ _ _ _ _ _ _ _ _ _ _ _ _ _ _ _ _ _ _ _ _ _ _ _ _ _ _ _ _ _ _ _ _ _ _ _ _ _ _ _ _ _ _ _ _ _ _ _ _ _ _ _ _ _ _ _ _ _ _ _ _ _ _ _ _ _ _ _ _ _ _ _ _ _ _ _ _ _ _ _ _ _ _ _ _ _ _ _ _ _ _ _ _ _ _ _ _ _ _ _ _ _ _ _ _ _ _ _ _ _ _ _ _ _ _ _ _ _ _ _ _ _ _ _ _ _ _ _ _ _ _ _ _ _ _), HAT.out, by omega, he, hd, fun _ => hdot⟩
    | true =>
      have hdot' : ((s[i].toNat : Int) == 46) = true := is_int (n := 46) hdot
      have hst : step q s[i] = some 4 := by
        rcases hq with rfl | rfl
        · simp [step, hd, hdot]
        · simp [step, hdot]
      have hat1 := HAT.out.marked HC.out hst (by simp [hdot])
      obtain ⟨k0, k1, k2, g0, g1, g2⟩ := hat1.cells
      have HA1 : Hid (At s sb w (i + 1) 4 (w'.setCell ⟨sb, 1, none⟩ (.bool true))) := hat1
      clear hat1 hst hq
      have HD : Hid (∀ w2, i + 1 ≤ s.size → Calls Try.prog 25 #[.string s, .int .i64 ((i : Int) + 1)] w2 fun e w3 => EndsAt e (bs s) (i + 1) ∧ w3 = w2) := fun w2 h => by
        have := digitsEnd_any s (i + 1) h hs w2
        rw [show ((i + 1 : Nat) : Int) = (i : Int) + 1 by omega] at this
        exact this
      by_cases he1 : i + 1 < s.size
      · have HC1 : Hid ((bs s)[i + 1]? = some s[i + 1]) := bs_at he1
        cases hd1 : dg s[i + 1] with
        | true =>
          go_wp2
          go_step3
          go_wp2_with (go_at_call 24; refine (digit_at s he1 _).mono ?_; rintro e w2 ⟨rfl, rfl⟩)
          go_step3
          go_wp2_with (first | (go_at_call 25; refine (HD.out _ (by omega)).mono ?_; rintro e w2 ⟨⟨j, rfl, hj⟩, rfl⟩; have hjs : j ≤ s.size := (by have := hj.2.1; rw [bs_len] at this; exact this); have HJ : Hid (DigitsTo (bs s) (i + 1) j) := hj; clear hj) | (go_at_call 23; refine (stop_any _ _ _ _ k0 g0).mono ?_; rintro e w3 ⟨rfl, rfl⟩))
          · rw [jumps_ret]
            go_ret2
            exact ⟨j, 5, by simp [show ¬ j < s.size by omega], (HA1.out.enter HC1.out hd1 (by simp [step, hd1]) stay5 HJ.out).stop (by omega) rfl⟩
          · go_step3
            rename_i hK
            refine hK _ _ (H9 _ _ ?_)
            exact ⟨j, 5, (fr15_mk _ _ _ _ _ _ _ _ _ _ _ _ _ _ _ _ _ _ _ _ _ _ _ _ _ _ _ _ _ _ _ _ _ _ _ _ _ _ _ _ _ _ _ _ _ _ _ _ _ _ _ _ _ _ _ _ _ _ _ _ _ _ _ _ _ _ _ _ _ _ _ _ _ _ _ _ _ _ _ _ _ _ _ _ _ _ _ _ _ _ _ _ _ _ _ _ _ _ _ _ _ _ _ _ _ _ _ _ _ _ _ _ _ _ _ _ _ _ _ _ _ _ _ _ _ _ _ _ _ _ _ _ _ _ _ _ _ _ _ _ _ _ _ _ _ _ _ _ _ _ _ _ _ _ _ _ _ _ _ _ _ _ _ _ _ _ _ _ _ _ _ _ _ _ _ _ _ _ _ _ _ _ _ _ _ _ _ _ _ _ _ _ _ _ _ _ _ _ _ _ _ _ _ _ _ _ _ _ _), HA1.out.enter HC1.out hd1 (by simp [step, hd1]) stay5 HJ.out, by omega, by omega, HJ.out.not (by omega), fun h => absurd rfl h⟩
        | false =>
          go_wp2
          go_step3
          go_wp2_with (go_at_call 24; refine (digit_at s he1 _).mono ?_; rintro e w2 ⟨rfl, rfl⟩)
          rw [jumps_ret]
          go_ret2
          exact ⟨i + 1, 4, by simp [he1], HA1.out.fault HC1.out (by simp [step, hd1]) rfl⟩
      · have HI : Hid (i + 1 = s.size) := by show i + 1 = s.size; omega
        go_wp2
        go_step3
        go_wp2_with (go_at_call 23; refine (stop_any _ _ _ _ k0 g0).mono ?_; rintro e w3 ⟨rfl, rfl⟩)
        rw [jumps_ret]
        go_ret2
        exact ⟨i + 1, 4, by simp [he1], HA1.out.stop HI.out rfl⟩
  case p2 =>
    intro H8
    rintro a' w' ⟨i, ⟨u, rfl⟩, hat⟩
    clear c0 c1 c2 f0 f1 f2 HAT
    obtain ⟨c0, c1, c2, f0, f1, f2⟩ := hat.cells
    have HAT : Hid (At s sb w i 3 w') := hat
    have hile : i ≤ s.size := by have := hat.1.1; rw [bs_len] at this; exact this
    clear hat
    by_cases he : i < s.size
    · have HC : Hid ((bs s)[i]? = some s[i]) := bs_at he
      cases hd : dg s[i] with
      | true =>
        have HS : Hid (step 3 s[i] = none ∧ stuckFault 3 s[i] = 2) := by
          obtain ⟨n1, n2, _, _⟩ := dg_not hd
          exact ⟨by simp [step, n1, n2], by simp [stuckFault, hd]⟩
        go_wp2_with (go_at_call 24; refine (digit_at s he _).mono ?_; rintro e w2 ⟨rfl, rfl⟩)
        rw [jumps_ret]
        go_ret2
        exact ⟨i, 3, by simp [he], HAT.out.fault HC.out HS.out.1 HS.out.2⟩
      | false =>
        go_wp2_with (go_at_call 24; refine (digit_at s he _).mono ?_; rintro e w2 ⟨rfl, rfl⟩)
        go_step3
        rename_i hK
        refine hK _ _ (H8 _ _ ?_)
        exact ⟨i, 3, (fr15_mk _ _ _ _ _ _ _ _ _ _ _ _ _ _ _ _ _ _ _ _ _ _ _ _ _ _ _ _ _ _ _ _ _ _ _ _ _ _ _ _ _ _ _ _ _ _ _ _ _ _ _ _ _ _ _ _ _ _ _ _ _ _ _ _ _ _ _ _ _ _ _ _ _ _ _ _ _ _ _ _ _ _ _ _ _ _ _ _ _ _ _ _ _ _ _ _ _ _ _ _ _ _ _ _ _ _ _ _ _ _ _ _ _ _ _ _ _ _ _ _ _ _ _ _ _ _ _ _ _ _ _ _ _ _ _ _ _ _ _ _ _ _ _ _ _ _ _ _ _ _ _ _ _ _ _ _ _ _ _ _ _ _ _ _ _ _ _ _ _ _ _ _ _ _ _ _ _ _ _ _ _ _ _ _ _ _ _ _ _ _ _ _ _ _ _ _ _ _ _ _ _ _ _ _ _ _ _ _ _), HAT.out, .inr rfl, he, hd⟩
    · have HI : Hid (i = s.size) := by show i = s.size; omega
      go_wp2_with (go_at_call 23; refine (stop_any _ _ _ _ c0 f0).mono ?_; rintro e w3 ⟨rfl, rfl⟩)
      rw [jumps_ret]
      go_ret2
      exact ⟨i, 3, by simp [he], HAT.out.stop HI.out rfl⟩
  case p0 =>
    rintro - a' w' ⟨i, q, ⟨u, rfl⟩, hat, hq⟩
    clear c0 c1 c2 f0 f1 f2 HAT
    obtain ⟨c0, c1, c2, f0, f1, f2⟩ := hat.cells
    have HAT : Hid (At s sb w i q w') := hat
    have hile : i ≤ s.size := by have := hat.1.1; rw [bs_len] at this; exact this
    clear hat
    by_cases he : i < s.size
    · have HC : Hid ((bs s)[i]? = some s[i]) := bs_at he
      cases hz : zero s[i] with
      | true =>
        have hz' : ((s[i].toNat : Int) == 48) = true := is_int (n := 48) hz
        have HS : Hid (step q s[i] = some 3) := by
          show step q s[i] = some 3
          rcases hq with rfl | ⟨rfl, _, hm⟩
          · simp [step, hz]
          · simp [step, hz, hm]
        have hdg := zero_is hz
        obtain ⟨n1, n2, _, _⟩ := dg_not hdg
        clear hq
        go_wp2
        go_step3
        exact .inl ⟨rfl, i + 1, (fr15_mk _ _ _ _ _ _ _ _ _ _ _ _ _ _ _ _ _ _ _ _ _ _ _ _ _ _ _ _ _ _ _ _ _ _ _ _ _ _ _ _ _ _ _ _ _ _ _ _ _ _ _ _ _ _ _ _ _ _ _ _ _ _ _ _ _ _ _ _ _ _ _ _ _ _ _ _ _ _ _ _ _ _ _ _ _ _ _ _ _ _ _ _ _ _ _ _ _ _ _ _ _ _ _ _ _ _ _ _ _ _ _ _ _ _ _ _ _ _ _ _ _ _ _ _ _ _ _ _ _ _ _ _ _ _ _ _ _ _ _ _ _ _ _ _ _ _ _ _ _ _ _ _ _ _ _ _ _ _ _ _ _ _ _ _ _ _ _ _ _ _ _ _ _ _ _ _ _ _ _ _ _ _ _ _ _ _ _ _ _ _ _ _ _ _ _ _ _ _ _ _ _ _ _ _ _ _ _ _ _), HAT.out.next HC.out HS.out n2 n1⟩
      | false =>
        have hz' : ((s[i].toNat : Int) == 48) = false := is_int (n := 48) hz
        cases hd : dg s[i] with
        | true =>
          have HS : Hid (step q s[i] = some 2) := by
            show step q s[i] = some 2
            rcases hq with rfl | ⟨rfl, _, hm⟩
            · simp [step, hz, hd]
            · simp [step, hz, hd, hm]
          clear hq
          go_wp2_with (go_at_call 24; refine (digit_at s he _).mono ?_; rintro e w2 ⟨rfl, rfl⟩)
          go_step3
          go_wp2_with (first | (go_at_call 25; refine (digitsEnd_any s i hile hs _).mono ?_; rintro e w2 ⟨⟨j, rfl, hj⟩, rfl⟩; have hjs : j ≤ s.size := (by have := hj.2.1; rw [bs_len] at this; exact this); have HJ : Hid (DigitsTo (bs s) i j) := hj; clear hj) | (go_at_call 23; refine (stop_any _ _ _ _ c0 f0).mono ?_; rintro e w3 ⟨rfl, rfl⟩))
          all_goals first
            | (rw [jumps_ret]; go_ret2; exact ⟨j, 2, by simp [show ¬ j < s.size by omega], (HAT.out.enter HC.out hd HS.out stay2 HJ.out).stop (by omega) rfl⟩)
            | (go_step3; exact .inr ⟨rfl, j, 2, (fr15_mk _ _ _ _ _ _ _ _ _ _ _ _ _ _ _ _ _ _ _ _ _ _ _ _ _ _ _ _ _ _ _ _ _ _ _ _ _ _ _ _ _ _ _ _ _ _ _ _ _ _ _ _ _ _ _ _ _ _ _ _ _ _ _ _ _ _ _ _ _ _ _ _ _ _ _ _ _ _ _ _ _ _ _ _ _ _ _ _ _ _ _ _ _ _ _ _ _ _ _ _ _ _ _ _ _ _ _ _ _ _ _ _ _ _ _ _ _ _ _ _ _ _ _ _ _ _ _ _ _ _ _ _ _ _ _ _ _ _ _ _ _ _ _ _ _ _ _ _ _ _ _ _ _ _ _ _ _ _ _ _ _ _ _ _ _ _ _ _ _ _ _ _ _ _ _ _ _ _ _ _ _ _ _ _ _ _ _ _ _ _ _ _ _ _ _ _ _ _ _ _ _ _ _ _ _ _ _ _ _), HAT.out.enter HC.out hd HS.out stay2 HJ.out, .inl rfl, by omega, HJ.out.not (by omega)⟩)
        | false =>
          have HS : Hid (step q s[i] = none ∧ stuckFault q s[i] = 1) := by
            rcases hq with rfl | ⟨rfl, _, hm⟩
            · exact ⟨by simp [step, hz, hd], rfl⟩
            · exact ⟨by simp [step, hz, hd, hm], rfl⟩
          clear hq
          go_wp2_with (go_at_call 24; refine (digit_at s he _).mono ?_; rintro e w2 ⟨rfl, rfl⟩)
          rw [jumps_ret]
          go_ret2
          exact ⟨i, q, by simp [he], HAT.out.fault HC.out HS.out.1 HS.out.2⟩
    · have hi : i = s.size := by omega
      have hq1 : q = 1 := by
        rcases hq with h | ⟨_, h, _⟩
        · exact h
        · exact absurd h he
      subst hq1
      clear hq
      have HI : Hid (i = s.size) := hi
      clear hi
      go_wp2_with (go_at_call 23; refine (stop_any _ _ _ _ c0 f0).mono ?_; rintro e w2 ⟨rfl, rfl⟩)
      rw [jumps_ret]
      go_ret2
      exact ⟨i, 1, by simp [he], HAT.out.stop HI.out rfl⟩
end Go.Proofs.Qxb6600967a
