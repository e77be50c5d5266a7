/-
  zzIsNumber: the walk.
-/
import Derived.Test.Qxb6600967aNumB
namespace Go.Proofs.Qxb6600967a
open Go.RowKit

theorem noLead_small {s : ByteArray} (h : ¬ 1 < s.size) : noLead (bs s) = true := by
  have h1 : ¬ 1 < (bs s).length := by rw [bs_len]; exact h
  revert h1
  cases bs s with
  | nil => intro _; rfl
  | cons c r =>
    cases r with
    | nil => intro _; rfl
    | cons d t => intro h1; simp at h1

theorem noLead_at {s : ByteArray} (h : 1 < s.size) (h0 : 0 < s.size) : noLead (bs s) = !zero s[0] := by
  have h1 : 1 < (bs s).length := by rw [bs_len]; exact h
  have h2 := bs_at h0
  revert h1 h2
  generalize s[0] = x
  cases bs s with
  | nil => intro h1; simp at h1
  | cons c r =>
    cases r with
    | nil => intro h1; simp at h1
    | cons d t =>
      intro _ h2
      simp only [List.getElem?_cons_zero, Option.some.injEq] at h2
      rw [← h2]
      rfl

theorem strip_keep {f : UInt8 → Bool} {s : ByteArray} (h : s.size = 0 ∨ ∃ h : 0 < s.size, f s[0] = false) : strip f (bs s) = bs s := by
  rcases h with h | ⟨h, hf⟩
  · have : bs s = [] := List.length_eq_zero_iff.1 (by rw [bs_len]; exact h)
    rw [this]; rfl
  · have h2 := bs_at h
    revert h2 hf
    generalize s[0] = x
    cases bs s with
    | nil => intro _ _; rfl
    | cons c r =>
      intro hf h2
      simp only [List.getElem?_cons_zero, Option.some.injEq] at h2
      simp [strip, h2, hf]

theorem strip_drop {f : UInt8 → Bool} {s : ByteArray} (h : 0 < s.size) (hf : f s[0] = true) : strip f (bs s) = bs (s.extract 1 s.size) := by
  rw [bs_extract, List.take_of_length_le (by rw [bs_len]; exact Nat.le_refl _)]
  have h2 := bs_at h
  revert h2 hf
  generalize s[0] = x
  cases bs s with
  | nil => intro _ h2; simp at h2
  | cons c r =>
    intro hf h2
    simp only [List.getElem?_cons_zero, Option.some.injEq] at h2
    simp [strip, h2, hf]

theorem extract_size (s : ByteArray) (i j : Nat) : (s.extract i j).size ≤ s.size := by
  rw [← bs_len, bs_extract, List.length_drop, List.length_take, bs_len]
  omega

theorem bs_from (s : ByteArray) (k : Nat) : bs (s.extract k s.size) = (bs s).drop k := by
  rw [bs_extract, List.take_of_length_le (by rw [bs_len]; exact Nat.le_refl _)]

theorem sign_cases (f : UInt8 → Bool) (s : ByteArray) : s.size = 0 ∨ (∃ h : 0 < s.size, f s[0] = false) ∨ ∃ h : 0 < s.size, f s[0] = true := by
  rcases Nat.eq_zero_or_pos s.size with h | h
  · exact .inl h
  · cases hf : f s[0] with
    | false => exact .inr (.inl ⟨h, hf⟩)
    | true => exact .inr (.inr ⟨h, hf⟩)

set_option maxHeartbeats 4000000 in
set_option maxRecDepth 10000 in
theorem isNumber_any (p : ByteArray) (hp : p.size ≤ 1048577) (w : World) :
    Calls Try.prog 12 #[.string p] w fun e w' => e = .returned (.bool (isNum (bs p))) ∧ w' = w := by
  generalize hb : isNum (bs p) = b
  have HB : Hid (b = isNum (bs p)) := hb.symm
  clear hb
  go_enter Try.func12, Try.ntmps12
  go_wp2
  rename_i Q' K hK
  have T : Hid (∀ (m : ByteArray) (x : Value) a, m.size ≤ 1048577 → Hid (b = rest (strip minus (bs m))) → Fr12 (.string p) (.string m) x a → K a w) := by
    rintro m x a hm HM ⟨u, rfl⟩
    refine hK _ _ ?_
    clear hK K HB hp
    rcases sign_cases minus m with h0 | ⟨h0, hf⟩ | ⟨h0, hf⟩
    · have h0' : ¬ (0 : Int) < (m.size : Int) := by omega
      have HM' : Hid (b = rest (bs m)) := HM.out.trans (by rw [strip_keep (.inl h0)])
      clear HM h0
      go_wp2
      rename_i K hK
      have T2 : Hid (∀ (ip : ByteArray) (x : Value) a, ip.size ≤ 1048577 → Hid (b = (all1 (bs ip) && noLead (bs ip))) → Fr12 (.string p) x (.string ip) a → K a w) := by
        rintro ip x2 a hip HI ⟨u2, rfl⟩
        refine hK _ _ ?_
        clear hK K
        cases ha : all1 (bs ip) with
        | false =>
          have HR : Hid (b = false) := HI.out.trans (by rw [ha]; rfl)
          have HD := allDigits_any ip hip w
          rw [ha] at HD
          go_wp2_with (go_at_call 22; refine (HD).mono ?_; rintro e w2 ⟨rfl, rfl⟩)
          go_ret
          exact ⟨by rw [HR.out]; rfl, rfl⟩
        | true =>
          have HD := allDigits_any ip hip w
          rw [ha] at HD
          by_cases h1 : 1 < ip.size
          · have h1' : (1 : Int) < (ip.size : Int) := by omega
            have h0 : 0 < ip.size := by omega
            have h0' : (0 : Int) < (ip.size : Int) := by omega
            cases hz : zero ip[0] with
            | true =>
              have HR : Hid (b = false) := HI.out.trans (by rw [ha, noLead_at h1 h0, hz]; rfl)
              have hz' : (ip[0].toNat : Int) = 48 := by
                simp only [zero, decide_eq_true_eq] at hz
                omega
              clear hz
              go_wp2_with (go_at_call 22; refine (HD).mono ?_; rintro e w2 ⟨rfl, rfl⟩)
              go_ret
              exact ⟨by rw [HR.out]; rfl, rfl⟩
            | false =>
              have HR : Hid (b = true) := HI.out.trans (by rw [ha, noLead_at h1 h0, hz]; rfl)
              have hz' : ¬ (ip[0].toNat : Int) = 48 := by
                simp only [zero, decide_eq_false_iff_not] at hz
                omega
              clear hz
              go_wp2_with (go_at_call 22; refine (HD).mono ?_; rintro e w2 ⟨rfl, rfl⟩)
              go_ret
              exact ⟨by rw [HR.out]; rfl, rfl⟩
          · have h1' : ¬ (1 : Int) < (ip.size : Int) := by omega
            have HR : Hid (b = true) := HI.out.trans (by rw [ha, noLead_small h1]; rfl)
            go_wp2_with (go_at_call 22; refine (HD).mono ?_; rintro e w2 ⟨rfl, rfl⟩)
            go_ret
            exact ⟨by rw [HR.out]; rfl, rfl⟩
      clear hK
      go_loop [6, 7] (fun s6 s7 => s6 = .string m ∧ ∃ (k : Nat), s7 = .int .i64 k ∧ k ≤ m.size ∧ Hid (∀ (j : Nat) c, j < k → (bs m)[j]? = some c → dot c = false)) (fun s6 s7 => m.size - (intOf s7).toNat)
      case atStart => exact ⟨rfl, 0, rfl, Nat.zero_le _, fun m c h1 h2 => absurd h1 (by omega)⟩
      case round =>
        obtain ⟨rfl, k, rfl, hk, H⟩ := hrel
        by_cases hlt : k < m.size
        · have HC : Hid ((bs m)[k]? = some m[k]) := bs_at hlt
          cases hd : dot m[k] with
          | false =>
            have hd' : ((m[k].toNat : Int) == 46) = false := is_int (n := 46) hd
            go_wp2
            refine ⟨⟨rfl, k + 1, by go_num, by omega, fun j c h2 h3 => ?_⟩, ?_⟩
            · rcases Nat.lt_or_ge j k with h | h
              · exact H.out j c h h3
              · rw [show j = k by omega, HC.out] at h3
                rw [← Option.some.inj h3]
                exact hd
            · simp [intOf]; omega
          | true =>
            have hd' : ((m[k].toNat : Int) == 46) = true := is_int (n := 46) hd
            have hsz := extract_size m (k + 1) m.size
            have hsz2 := extract_size m 0 k
            have HE : Hid (b = (all1 (bs (m.extract (k + 1) m.size)) && (all1 (bs (m.extract 0 k)) && noLead (bs (m.extract 0 k))))) := HM'.out.trans (by rw [bs_from, bs_head]; exact rest_first H.out HC.out hd)
            have HD := allDigits_any (m.extract (k + 1) m.size) (by omega) w
            cases ha : all1 (bs (m.extract (k + 1) m.size)) with
            | false =>
              have HR : Hid (b = false) := HE.out.trans (by rw [ha]; rfl)
              rw [ha] at HD
              clear ha HE hsz
              go_wp2_with (go_at_call 22; refine (HD).mono ?_; rintro e w2 ⟨rfl, rfl⟩)
              go_ret
              exact ⟨by rw [HR.out]; rfl, rfl⟩
            | true =>
              have HR : Hid (b = (all1 (bs (m.extract 0 k)) && noLead (bs (m.extract 0 k)))) := HE.out.trans (by rw [ha]; rfl)
              rw [ha] at HD
              clear ha HE hsz
              go_wp2_with (go_at_call 22; refine (HD).mono ?_; rintro e w2 ⟨rfl, rfl⟩)
              exact T2.out (m.extract 0 k) _ _ (by omega) HR (fr12_mk _ _ _ _ _ _ _ _ _ _ _ _ _ _ _ _ _ _ _ _ _ _ _ _ _ _ _ _ _ _ _ _ _ _ _ _ _ _ _ _ _ _ _ _ _ _ _ _ _ _ _ _ _ _ _ _ _ _ _ _ _ _ _ _ _ _ _ _ _ _ _ _ _ _ _ _ _ _ _ _ _ _ _ _ _ _ _ _ _ _)
        · go_wp2
          exact T2.out m _ _ hm (HM'.out.trans (rest_none fun j c h => H.out j c (by rcases Nat.lt_or_ge j m.size with h1 | h1; omega; rw [List.getElem?_eq_none (by rw [bs_len]; exact h1)] at h; cases h) h)) (fr12_mk _ _ _ _ _ _ _ _ _ _ _ _ _ _ _ _ _ _ _ _ _ _ _ _ _ _ _ _ _ _ _ _ _ _ _ _ _ _ _ _ _ _ _ _ _ _ _ _ _ _ _ _ _ _ _ _ _ _ _ _ _ _ _ _ _ _ _ _ _ _ _ _ _ _ _ _ _ _ _ _ _ _ _ _ _ _ _ _ _ _)
    · have h0' : (0 : Int) < (m.size : Int) := by omega
      have HM' : Hid (b = rest (bs m)) := HM.out.trans (by rw [strip_keep (.inr ⟨h0, hf⟩)])
      have hf' : ¬ (m[0].toNat : Int) = 45 := by
        simp only [minus, decide_eq_false_iff_not] at hf
        omega
      clear HM hf
      go_wp2
      clear hf' h0'
      rename_i K hK
      have T2 : Hid (∀ (ip : ByteArray) (x : Value) a, ip.size ≤ 1048577 → Hid (b = (all1 (bs ip) && noLead (bs ip))) → Fr12 (.string p) x (.string ip) a → K a w) := by
        rintro ip x2 a hip HI ⟨u2, rfl⟩
        refine hK _ _ ?_
        clear hK K
        cases ha : all1 (bs ip) with
        | false =>
          have HR : Hid (b = false) := HI.out.trans (by rw [ha]; rfl)
          have HD := allDigits_any ip hip w
          rw [ha] at HD
          go_wp2_with (go_at_call 22; refine (HD).mono ?_; rintro e w2 ⟨rfl, rfl⟩)
          go_ret
          exact ⟨by rw [HR.out]; rfl, rfl⟩
        | true =>
          have HD := allDigits_any ip hip w
          rw [ha] at HD
          by_cases h1 : 1 < ip.size
          · have h1' : (1 : Int) < (ip.size : Int) := by omega
            have h0 : 0 < ip.size := by omega
            have h0' : (0 : Int) < (ip.size : Int) := by omega
            cases hz : zero ip[0] with
            | true =>
              have HR : Hid (b = false) := HI.out.trans (by rw [ha, noLead_at h1 h0, hz]; rfl)
              have hz' : (ip[0].toNat : Int) = 48 := by
                simp only [zero, decide_eq_true_eq] at hz
                omega
              clear hz
              go_wp2_with (go_at_call 22; refine (HD).mono ?_; rintro e w2 ⟨rfl, rfl⟩)
              go_ret
              exact ⟨by rw [HR.out]; rfl, rfl⟩
            | false =>
              have HR : Hid (b = true) := HI.out.trans (by rw [ha, noLead_at h1 h0, hz]; rfl)
              have hz' : ¬ (ip[0].toNat : Int) = 48 := by
                simp only [zero, decide_eq_false_iff_not] at hz
                omega
              clear hz
              go_wp2_with (go_at_call 22; refine (HD).mono ?_; rintro e w2 ⟨rfl, rfl⟩)
              go_ret
              exact ⟨by rw [HR.out]; rfl, rfl⟩
          · have h1' : ¬ (1 : Int) < (ip.size : Int) := by omega
            have HR : Hid (b = true) := HI.out.trans (by rw [ha, noLead_small h1]; rfl)
            go_wp2_with (go_at_call 22; refine (HD).mono ?_; rintro e w2 ⟨rfl, rfl⟩)
            go_ret
            exact ⟨by rw [HR.out]; rfl, rfl⟩
      clear hK
      go_loop [6, 7] (fun s6 s7 => s6 = .string m ∧ ∃ (k : Nat), s7 = .int .i64 k ∧ k ≤ m.size ∧ Hid (∀ (j : Nat) c, j < k → (bs m)[j]? = some c → dot c = false)) (fun s6 s7 => m.size - (intOf s7).toNat)
      case atStart => exact ⟨rfl, 0, rfl, Nat.zero_le _, fun m c h1 h2 => absurd h1 (by omega)⟩
      case round =>
        obtain ⟨rfl, k, rfl, hk, H⟩ := hrel
        by_cases hlt : k < m.size
        · have HC : Hid ((bs m)[k]? = some m[k]) := bs_at hlt
          cases hd : dot m[k] with
          | false =>
            have hd' : ((m[k].toNat : Int) == 46) = false := is_int (n := 46) hd
            go_wp2
            refine ⟨⟨rfl, k + 1, by go_num, by omega, fun j c h2 h3 => ?_⟩, ?_⟩
            · rcases Nat.lt_or_ge j k with h | h
              · exact H.out j c h h3
              · rw [show j = k by omega, HC.out] at h3
                rw [← Option.some.inj h3]
                exact hd
            · simp [intOf]; omega
          | true =>
            have hd' : ((m[k].toNat : Int) == 46) = true := is_int (n := 46) hd
            have hsz := extract_size m (k + 1) m.size
            have hsz2 := extract_size m 0 k
            have HE : Hid (b = (all1 (bs (m.extract (k + 1) m.size)) && (all1 (bs (m.extract 0 k)) && noLead (bs (m.extract 0 k))))) := HM'.out.trans (by rw [bs_from, bs_head]; exact rest_first H.out HC.out hd)
            have HD := allDigits_any (m.extract (k + 1) m.size) (by omega) w
            cases ha : all1 (bs (m.extract (k + 1) m.size)) with
            | false =>
              have HR : Hid (b = false) := HE.out.trans (by rw [ha]; rfl)
              rw [ha] at HD
              clear ha HE hsz
              go_wp2_with (go_at_call 22; refine (HD).mono ?_; rintro e w2 ⟨rfl, rfl⟩)
              go_ret
              exact ⟨by rw [HR.out]; rfl, rfl⟩
            | true =>
              have HR : Hid (b = (all1 (bs (m.extract 0 k)) && noLead (bs (m.extract 0 k)))) := HE.out.trans (by rw [ha]; rfl)
              rw [ha] at HD
              clear ha HE hsz
              go_wp2_with (go_at_call 22; refine (HD).mono ?_; rintro e w2 ⟨rfl, rfl⟩)
              exact T2.out (m.extract 0 k) _ _ (by omega) HR (fr12_mk _ _ _ _ _ _ _ _ _ _ _ _ _ _ _ _ _ _ _ _ _ _ _ _ _ _ _ _ _ _ _ _ _ _ _ _ _ _ _ _ _ _ _ _ _ _ _ _ _ _ _ _ _ _ _ _ _ _ _ _ _ _ _ _ _ _ _ _ _ _ _ _ _ _ _ _ _ _ _ _ _ _ _ _ _ _ _ _ _ _)
        · go_wp2
          exact T2.out m _ _ hm (HM'.out.trans (rest_none fun j c h => H.out j c (by rcases Nat.lt_or_ge j m.size with h1 | h1; omega; rw [List.getElem?_eq_none (by rw [bs_len]; exact h1)] at h; cases h) h)) (fr12_mk _ _ _ _ _ _ _ _ _ _ _ _ _ _ _ _ _ _ _ _ _ _ _ _ _ _ _ _ _ _ _ _ _ _ _ _ _ _ _ _ _ _ _ _ _ _ _ _ _ _ _ _ _ _ _ _ _ _ _ _ _ _ _ _ _ _ _ _ _ _ _ _ _ _ _ _ _ _ _ _ _ _ _ _ _ _ _ _ _ _)
    · have h0' : (0 : Int) < (m.size : Int) := by omega
      have HM' : Hid (b = rest (bs (m.extract 1 m.size))) := HM.out.trans (by rw [strip_drop h0 hf])
      have hm' := extract_size m 1 m.size
      have hf' : (m[0].toNat : Int) = 45 := by
        simp only [minus, decide_eq_true_eq] at hf
        omega
      clear HM hf
      go_wp2
      clear hf' h0'
      generalize m.extract 1 m.size = m' at *
      replace hm : m'.size ≤ 1048577 := by omega
      clear hm'
      rename_i K hK
      have T2 : Hid (∀ (ip : ByteArray) (x : Value) a, ip.size ≤ 1048577 → Hid (b = (all1 (bs ip) && noLead (bs ip))) → Fr12 (.string p) x (.string ip) a → K a w) := by
        rintro ip x2 a hip HI ⟨u2, rfl⟩
        refine hK _ _ ?_
        clear hK K
        cases ha : all1 (bs ip) with
        | false =>
          have HR : Hid (b = false) := HI.out.trans (by rw [ha]; rfl)
          have HD := allDigits_any ip hip w
          rw [ha] at HD
          go_wp2_with (go_at_call 22; refine (HD).mono ?_; rintro e w2 ⟨rfl, rfl⟩)
          go_ret
          exact ⟨by rw [HR.out]; rfl, rfl⟩
        | true =>
          have HD := allDigits_any ip hip w
          rw [ha] at HD
          by_cases h1 : 1 < ip.size
          · have h1' : (1 : Int) < (ip.size : Int) := by omega
            have h0 : 0 < ip.size := by omega
            have h0' : (0 : Int) < (ip.size : Int) := by omega
            cases hz : zero ip[0] with
            | true =>
              have HR : Hid (b = false) := HI.out.trans (by rw [ha, noLead_at h1 h0, hz]; rfl)
              have hz' : (ip[0].toNat : Int) = 48 := by
                simp only [zero, decide_eq_true_eq] at hz
                omega
              clear hz
              go_wp2_with (go_at_call 22; refine (HD).mono ?_; rintro e w2 ⟨rfl, rfl⟩)
              go_ret
              exact ⟨by rw [HR.out]; rfl, rfl⟩
            | false =>
              have HR : Hid (b = true) := HI.out.trans (by rw [ha, noLead_at h1 h0, hz]; rfl)
              have hz' : ¬ (ip[0].toNat : Int) = 48 := by
                simp only [zero, decide_eq_false_iff_not] at hz
                omega
              clear hz
              go_wp2_with (go_at_call 22; refine (HD).mono ?_; rintro e w2 ⟨rfl, rfl⟩)
              go_ret
              exact ⟨by rw [HR.out]; rfl, rfl⟩
          · have h1' : ¬ (1 : Int) < (ip.size : Int) := by omega
            have HR : Hid (b = true) := HI.out.trans (by rw [ha, noLead_small h1]; rfl)
            go_wp2_with (go_at_call 22; refine (HD).mono ?_; rintro e w2 ⟨rfl, rfl⟩)
            go_ret
            exact ⟨by rw [HR.out]; rfl, rfl⟩
      clear hK
      go_loop [6, 7] (fun s6 s7 => s6 = .string m' ∧ ∃ (k : Nat), s7 = .int .i64 k ∧ k ≤ m'.size ∧ Hid (∀ (j : Nat) c, j < k → (bs m')[j]? = some c → dot c = false)) (fun s6 s7 => m'.size - (intOf s7).toNat)
      case atStart => exact ⟨rfl, 0, rfl, Nat.zero_le _, fun m c h1 h2 => absurd h1 (by omega)⟩
      case round =>
        obtain ⟨rfl, k, rfl, hk, H⟩ := hrel
        by_cases hlt : k < m'.size
        · have HC : Hid ((bs m')[k]? = some m'[k]) := bs_at hlt
          cases hd : dot m'[k] with
          | false =>
            have hd' : ((m'[k].toNat : Int) == 46) = false := is_int (n := 46) hd
            go_wp2
            refine ⟨⟨rfl, k + 1, by go_num, by omega, fun j c h2 h3 => ?_⟩, ?_⟩
            · rcases Nat.lt_or_ge j k with h | h
              · exact H.out j c h h3
              · rw [show j = k by omega, HC.out] at h3
                rw [← Option.some.inj h3]
                exact hd
            · simp [intOf]; omega
          | true =>
            have hd' : ((m'[k].toNat : Int) == 46) = true := is_int (n := 46) hd
            have hsz := extract_size m' (k + 1) m'.size
            have hsz2 := extract_size m' 0 k
            have HE : Hid (b = (all1 (bs (m'.extract (k + 1) m'.size)) && (all1 (bs (m'.extract 0 k)) && noLead (bs (m'.extract 0 k))))) := HM'.out.trans (by rw [bs_from, bs_head]; exact rest_first H.out HC.out hd)
            have HD := allDigits_any (m'.extract (k + 1) m'.size) (by omega) w
            cases ha : all1 (bs (m'.extract (k + 1) m'.size)) with
            | false =>
              have HR : Hid (b = false) := HE.out.trans (by rw [ha]; rfl)
              rw [ha] at HD
              clear ha HE hsz
              go_wp2_with (go_at_call 22; refine (HD).mono ?_; rintro e w2 ⟨rfl, rfl⟩)
              go_ret
              exact ⟨by rw [HR.out]; rfl, rfl⟩
            | true =>
              have HR : Hid (b = (all1 (bs (m'.extract 0 k)) && noLead (bs (m'.extract 0 k)))) := HE.out.trans (by rw [ha]; rfl)
              rw [ha] at HD
              clear ha HE hsz
              go_wp2_with (go_at_call 22; refine (HD).mono ?_; rintro e w2 ⟨rfl, rfl⟩)
              exact T2.out (m'.extract 0 k) _ _ (by omega) HR (fr12_mk _ _ _ _ _ _ _ _ _ _ _ _ _ _ _ _ _ _ _ _ _ _ _ _ _ _ _ _ _ _ _ _ _ _ _ _ _ _ _ _ _ _ _ _ _ _ _ _ _ _ _ _ _ _ _ _ _ _ _ _ _ _ _ _ _ _ _ _ _ _ _ _ _ _ _ _ _ _ _ _ _ _ _ _ _ _ _ _ _ _)
        · go_wp2
          exact T2.out m' _ _ hm (HM'.out.trans (rest_none fun j c h => H.out j c (by rcases Nat.lt_or_ge j m'.size with h1 | h1; omega; rw [List.getElem?_eq_none (by rw [bs_len]; exact h1)] at h; cases h) h)) (fr12_mk _ _ _ _ _ _ _ _ _ _ _ _ _ _ _ _ _ _ _ _ _ _ _ _ _ _ _ _ _ _ _ _ _ _ _ _ _ _ _ _ _ _ _ _ _ _ _ _ _ _ _ _ _ _ _ _ _ _ _ _ _ _ _ _ _ _ _ _ _ _ _ _ _ _ _ _ _ _ _ _ _ _ _ _ _ _ _ _ _ _)
  clear hK
  go_loop [3, 4] (fun s3 s4 => s3 = .string p ∧ ∃ (k : Nat), s4 = .int .i64 k ∧ k ≤ p.size ∧ Hid (∀ (j : Nat) c, j < k → (bs p)[j]? = some c → eE c = false)) (fun s3 s4 => p.size - (intOf s4).toNat)
  case atStart => exact ⟨rfl, 0, rfl, Nat.zero_le _, fun m c h1 h2 => absurd h1 (by omega)⟩
  case round =>
    obtain ⟨rfl, k, rfl, hk, H⟩ := hrel
    by_cases hlt : k < p.size
    · have HC : Hid ((bs p)[k]? = some p[k]) := bs_at hlt
      cases hd : eE p[k] with
      | false =>
        have h1 : ¬ ((p[k].toNat : Int) = 101) := by
          simp only [eE, Bool.or_eq_false_iff, decide_eq_false_iff_not] at hd
          omega
        have h2 : ¬ ((p[k].toNat : Int) = 69) := by
          simp only [eE, Bool.or_eq_false_iff, decide_eq_false_iff_not] at hd
          omega
        have h1' : ((p[k].toNat : Int) == 101) = false := beq_eq_false_iff_ne.2 h1
        have h2' : ((p[k].toNat : Int) == 69) = false := beq_eq_false_iff_ne.2 h2
        have h3' : (((p[k].toNat : Int) == 101) || ((p[k].toNat : Int) == 69)) = false := by rw [h1', h2']; rfl
        go_wp2
        refine ⟨⟨rfl, k + 1, by go_num, by omega, fun j c h2 h3 => ?_⟩, ?_⟩
        · rcases Nat.lt_or_ge j k with h | h
          · exact H.out j c h h3
          · rw [show j = k by omega, HC.out] at h3
            rw [← Option.some.inj h3]
            exact hd
        · simp [intOf]; omega
      | true =>
        have hor : ((p[k].toNat : Int) = 101) ∨ (¬ ((p[k].toNat : Int) = 101) ∧ ((p[k].toNat : Int) = 69)) := by
          simp only [eE, Bool.or_eq_true, decide_eq_true_eq] at hd
          omega
        have HE : Hid (b = (all1 (strip sgn (bs (p.extract (k + 1) p.size))) && rest (strip minus (bs (p.extract 0 k))))) := HB.out.trans (by rw [bs_from, bs_head]; exact expOk_first H.out HC.out hd)
        have hsz2 := extract_size p 0 k
        have hsz := extract_size p (k + 1) p.size
        clear hd
        rcases sign_cases sgn (p.extract (k + 1) p.size) with h0 | ⟨h0, hf⟩ | ⟨h0, hf⟩
        · have h0' : ¬ (0 : Int) < ((p.extract (k + 1) p.size).size : Int) := by omega
          have HS : Hid (b = (all1 (bs (p.extract (k + 1) p.size)) && rest (strip minus (bs (p.extract 0 k))))) := HE.out.trans (by rw [strip_keep (.inl h0)])
          have HD := allDigits_any (p.extract (k + 1) p.size) (by omega) w
          clear HE
          cases ha : all1 (bs (p.extract (k + 1) p.size)) with
          | false =>
            have HR : Hid (b = false) := HS.out.trans (by rw [ha]; rfl)
            rw [ha] at HD
            clear ha HS
            rcases hor with h1 | ⟨h1, h2⟩
            all_goals
              go_wp2_with (go_at_call 22; refine (HD).mono ?_; rintro e w2 ⟨rfl, rfl⟩)
              go_ret
              exact ⟨by rw [HR.out]; rfl, rfl⟩
          | true =>
            have HR : Hid (b = rest (strip minus (bs (p.extract 0 k)))) := HS.out.trans (by rw [ha]; rfl)
            rw [ha] at HD
            clear ha HS
            rcases hor with h1 | ⟨h1, h2⟩
            all_goals
              go_wp2_with (go_at_call 22; refine (HD).mono ?_; rintro e w2 ⟨rfl, rfl⟩)
              exact T.out (p.extract 0 k) _ _ (by omega) HR (fr12_mk _ _ _ _ _ _ _ _ _ _ _ _ _ _ _ _ _ _ _ _ _ _ _ _ _ _ _ _ _ _ _ _ _ _ _ _ _ _ _ _ _ _ _ _ _ _ _ _ _ _ _ _ _ _ _ _ _ _ _ _ _ _ _ _ _ _ _ _ _ _ _ _ _ _ _ _ _ _ _ _ _ _ _ _ _ _ _ _ _ _)
        · have h0' : (0 : Int) < ((p.extract (k + 1) p.size).size : Int) := by omega
          have h0'' : 0 < p.size - (k + 1) := by simpa using h0
          have HS : Hid (b = (all1 (bs (p.extract (k + 1) p.size)) && rest (strip minus (bs (p.extract 0 k))))) := HE.out.trans (by rw [strip_keep (.inr ⟨h0, hf⟩)])
          have HD := allDigits_any (p.extract (k + 1) p.size) (by omega) w
          have n1 : ¬ ((p.extract (k + 1) p.size)[0].toNat : Int) = 43 := by
            simp only [sgn, Bool.or_eq_false_iff, decide_eq_false_iff_not] at hf
            omega
          have n2 : ¬ ((p.extract (k + 1) p.size)[0].toNat : Int) = 45 := by
            simp only [sgn, Bool.or_eq_false_iff, decide_eq_false_iff_not] at hf
            omega
          have n3 : (((p.extract (k + 1) p.size)[0].toNat : Int) == 43) = false := beq_eq_false_iff_ne.2 n1
          have n4 : (((p.extract (k + 1) p.size)[0].toNat : Int) == 45) = false := beq_eq_false_iff_ne.2 n2
          have n5 : ((((p.extract (k + 1) p.size)[0].toNat : Int) == 43) || (((p.extract (k + 1) p.size)[0].toNat : Int) == 45)) = false := by rw [n3, n4]; rfl
          clear HE hf
          cases ha : all1 (bs (p.extract (k + 1) p.size)) with
          | false =>
            have HR : Hid (b = false) := HS.out.trans (by rw [ha]; rfl)
            rw [ha] at HD
            clear ha HS
            rcases hor with h1 | ⟨h1, h2⟩
            all_goals
              go_wp2_with (go_at_call 22; refine (HD).mono ?_; rintro e w2 ⟨rfl, rfl⟩)
              go_ret
              exact ⟨by rw [HR.out]; rfl, rfl⟩
          | true =>
            have HR : Hid (b = rest (strip minus (bs (p.extract 0 k)))) := HS.out.trans (by rw [ha]; rfl)
            rw [ha] at HD
            clear ha HS
            rcases hor with h1 | ⟨h1, h2⟩
            all_goals
              go_wp2_with (go_at_call 22; refine (HD).mono ?_; rintro e w2 ⟨rfl, rfl⟩)
              exact T.out (p.extract 0 k) _ _ (by omega) HR (fr12_mk _ _ _ _ _ _ _ _ _ _ _ _ _ _ _ _ _ _ _ _ _ _ _ _ _ _ _ _ _ _ _ _ _ _ _ _ _ _ _ _ _ _ _ _ _ _ _ _ _ _ _ _ _ _ _ _ _ _ _ _ _ _ _ _ _ _ _ _ _ _ _ _ _ _ _ _ _ _ _ _ _ _ _ _ _ _ _ _ _ _)
        · have h0' : (0 : Int) < ((p.extract (k + 1) p.size).size : Int) := by omega
          have h0'' : 0 < p.size - (k + 1) := by simpa using h0
          have hE : (p.extract (k + 1) p.size).size = p.size - (k + 1) := by simp
          have HS : Hid (b = (all1 (bs ((p.extract (k + 1) p.size).extract 1 (p.size - (k + 1)))) && rest (strip minus (bs (p.extract 0 k))))) := HE.out.trans (by rw [strip_drop h0 hf, hE])
          have hor2 : ((p.extract (k + 1) p.size)[0].toNat : Int) = 43 ∨ (¬ ((p.extract (k + 1) p.size)[0].toNat : Int) = 43 ∧ ((p.extract (k + 1) p.size)[0].toNat : Int) = 45) := by
            simp only [sgn, Bool.or_eq_true, decide_eq_true_eq] at hf
            omega
          have hsz3 := extract_size (p.extract (k + 1) p.size) 1 (p.size - (k + 1))
          have HD := allDigits_any ((p.extract (k + 1) p.size).extract 1 (p.size - (k + 1))) (by omega) w
          clear hsz3 hE
          clear HE hf
          cases ha : all1 (bs ((p.extract (k + 1) p.size).extract 1 (p.size - (k + 1)))) with
          | false =>
            have HR : Hid (b = false) := HS.out.trans (by rw [ha]; rfl)
            rw [ha] at HD
            clear ha HS
            rcases hor with h1 | ⟨h1, h2⟩ <;> rcases hor2 with n1 | ⟨n1, n2⟩
            all_goals
              go_wp2_with (go_at_call 22; refine (HD).mono ?_; rintro e w2 ⟨rfl, rfl⟩)
              go_ret
              exact ⟨by rw [HR.out]; rfl, rfl⟩
          | true =>
            have HR : Hid (b = rest (strip minus (bs (p.extract 0 k)))) := HS.out.trans (by rw [ha]; rfl)
            rw [ha] at HD
            clear ha HS
            rcases hor with h1 | ⟨h1, h2⟩ <;> rcases hor2 with n1 | ⟨n1, n2⟩
            all_goals
              go_wp2_with (go_at_call 22; refine (HD).mono ?_; rintro e w2 ⟨rfl, rfl⟩)
              exact T.out (p.extract 0 k) _ _ (by omega) HR (fr12_mk _ _ _ _ _ _ _ _ _ _ _ _ _ _ _ _ _ _ _ _ _ _ _ _ _ _ _ _ _ _ _ _ _ _ _ _ _ _ _ _ _ _ _ _ _ _ _ _ _ _ _ _ _ _ _ _ _ _ _ _ _ _ _ _ _ _ _ _ _ _ _ _ _ _ _ _ _ _ _ _ _ _ _ _ _ _ _ _ _ _)
    · go_wp2
      exact T.out p _ _ hp (HB.out.trans (expOk_none fun j c h => H.out j c (by rcases Nat.lt_or_ge j p.size with h1 | h1; omega; rw [List.getElem?_eq_none (by rw [bs_len]; exact h1)] at h; cases h) h)) (fr12_mk _ _ _ _ _ _ _ _ _ _ _ _ _ _ _ _ _ _ _ _ _ _ _ _ _ _ _ _ _ _ _ _ _ _ _ _ _ _ _ _ _ _ _ _ _ _ _ _ _ _ _ _ _ _ _ _ _ _ _ _ _ _ _ _ _ _ _ _ _ _ _ _ _ _ _ _ _ _ _ _ _ _ _ _ _ _ _ _ _ _)

end Go.Proofs.Qxb6600967a
