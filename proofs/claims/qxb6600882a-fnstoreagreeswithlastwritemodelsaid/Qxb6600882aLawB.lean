/-
  zzBytes_..: bounds laid by program: each answers some bool and leaves the world as it was.
-/
import Derived.Test.Qxb6600882aLawA
namespace Go.Proofs.Qxb6600882a
open Go.RowKit

/-- Some bool came back. -/
def IsBool (e : Ending) : Prop := ∃ b : Bool, e = .returned (.bool b)

theorem StrArr.raw {w : World} {a : Option Addr} {n c : Nat} {xs : List ByteArray} (h : StrArr w (.slice a n c) xs) : n ≤ 9223372036854775807 ∧ Hid (n = xs.length) ∧ Hid (∀ k, k < n → ∃ b off x, a = some ⟨b, off, none⟩ ∧ w.cell? ⟨b, off + k, none⟩ = some (.string x) ∧ x.size ≤ 9223372036854775807) := by
  obtain ⟨a', c', he, hm, hc⟩ := h
  obtain ⟨rfl, rfl, rfl⟩ : a = a' ∧ n = xs.length ∧ c = c' := by simpa using he
  refine ⟨hm, rfl, fun k hk => ?_⟩
  obtain ⟨b, off, h1, h2, h3⟩ := hc k xs[k] (List.getElem?_eq_getElem hk)
  exact ⟨b, off, _, h1, h2, h3⟩

set_option maxHeartbeats 2000000 in
set_option maxRecDepth 100000 in
theorem zzOrder (w : World) (a0 : Option Addr) (n0 c0 : Nat) (x0 : List ByteArray) (h0 : StrArr w (.slice a0 n0 c0) x0) (a1 : Option Addr) (n1 c1 : Nat) (x1 : List ByteArray) (h1 : StrArr w (.slice a1 n1 c1) x1)  :
    Calls Try.prog 16 #[.slice a0 n0 c0, .slice a1 n1 c1] w fun e w' => IsBool e ∧ w' = w := by
  obtain ⟨m0, e0, H0⟩ := h0.raw
  obtain ⟨m1, e1, H1⟩ := h1.raw
  clear h0 h1
  go_enter Try.func16, Try.ntmps16
  go_wp2
  all_goals (try (go_ret; exact ⟨⟨_, rfl⟩, rfl⟩))
  go_loop [5, 6] (fun s3 s4 => ∃ (z : Int) (k : Nat), s3 = .int .i64 z ∧ s4 = .int .i64 k ∧ k ≤ n0) (fun _ s4 => n0 - (intOf s4).toNat)
  case atStart => exact ⟨_, 0, rfl, rfl, Nat.zero_le _⟩
  case round =>
    obtain ⟨z, k, rfl, rfl, hk⟩ := hrel
    by_cases hlt : k < n0
    · obtain ⟨b, off, x, ha, hcell, hsz⟩ := H0.out k hlt
      subst ha
      go_wp2
      all_goals first
        | (go_ret; exact ⟨⟨_, rfl⟩, rfl⟩)
        | (refine ⟨⟨_, k + 1, rfl, by go_num, by omega⟩, ?_⟩; simp [intOf]; omega)
    · go_wp2
      all_goals (try (go_ret; exact ⟨⟨_, rfl⟩, rfl⟩))
      go_loop [5, 7] (fun s3 s4 => ∃ (z : Int) (k : Nat), s3 = .int .i64 z ∧ s4 = .int .i64 k ∧ k ≤ n1) (fun _ s4 => n1 - (intOf s4).toNat)
      case atStart => exact ⟨_, 0, rfl, rfl, Nat.zero_le _⟩
      case round =>
        obtain ⟨z, k, rfl, rfl, hk⟩ := hrel
        by_cases hlt : k < n1
        · obtain ⟨b, off, x, ha, hcell, hsz⟩ := H1.out k hlt
          subst ha
          go_wp2
          all_goals first
            | (go_ret; exact ⟨⟨_, rfl⟩, rfl⟩)
            | (refine ⟨⟨_, k + 1, rfl, by go_num, by omega⟩, ?_⟩; simp [intOf]; omega)
        · go_wp2
          all_goals (try (go_ret; exact ⟨⟨_, rfl⟩, rfl⟩))

set_option maxHeartbeats 2000000 in
set_option maxRecDepth 100000 in
theorem zzStore (w : World) (a0 : Option Addr) (n0 c0 : Nat) (x0 : List ByteArray) (h0 : StrArr w (.slice a0 n0 c0) x0) (a1 : Option Addr) (n1 c1 : Nat) (x1 : List ByteArray) (h1 : StrArr w (.slice a1 n1 c1) x1) (a2 : Option Addr) (n2 c2 : Nat) (x2 : List ByteArray) (h2 : StrArr w (.slice a2 n2 c2) x2)  :
    Calls Try.prog 7 #[.slice a0 n0 c0, .slice a1 n1 c1, .slice a2 n2 c2] w fun e w' => IsBool e ∧ w' = w := by
  obtain ⟨m0, e0, H0⟩ := h0.raw
  obtain ⟨m1, e1, H1⟩ := h1.raw
  obtain ⟨m2, e2, H2⟩ := h2.raw
  clear h0 h1 h2
  go_enter Try.func7, Try.ntmps7
  go_wp2
  all_goals (try (go_ret; exact ⟨⟨_, rfl⟩, rfl⟩))
  go_loop [7, 8] (fun s3 s4 => ∃ (z : Int) (k : Nat), s3 = .int .i64 z ∧ s4 = .int .i64 k ∧ k ≤ n0) (fun _ s4 => n0 - (intOf s4).toNat)
  case atStart => exact ⟨_, 0, rfl, rfl, Nat.zero_le _⟩
  case round =>
    obtain ⟨z, k, rfl, rfl, hk⟩ := hrel
    by_cases hlt : k < n0
    · obtain ⟨b, off, x, ha, hcell, hsz⟩ := H0.out k hlt
      subst ha
      go_wp2
      all_goals first
        | (go_ret; exact ⟨⟨_, rfl⟩, rfl⟩)
        | (refine ⟨⟨_, k + 1, rfl, by go_num, by omega⟩, ?_⟩; simp [intOf]; omega)
    · go_wp2
      all_goals (try (go_ret; exact ⟨⟨_, rfl⟩, rfl⟩))
      go_loop [7, 9] (fun s3 s4 => ∃ (z : Int) (k : Nat), s3 = .int .i64 z ∧ s4 = .int .i64 k ∧ k ≤ n1) (fun _ s4 => n1 - (intOf s4).toNat)
      case atStart => exact ⟨_, 0, rfl, rfl, Nat.zero_le _⟩
      case round =>
        obtain ⟨z, k, rfl, rfl, hk⟩ := hrel
        by_cases hlt : k < n1
        · obtain ⟨b, off, x, ha, hcell, hsz⟩ := H1.out k hlt
          subst ha
          go_wp2
          all_goals first
            | (go_ret; exact ⟨⟨_, rfl⟩, rfl⟩)
            | (refine ⟨⟨_, k + 1, rfl, by go_num, by omega⟩, ?_⟩; simp [intOf]; omega)
        · go_wp2
          all_goals (try (go_ret; exact ⟨⟨_, rfl⟩, rfl⟩))
          go_loop [7, 10] (fun s3 s4 => ∃ (z : Int) (k : Nat), s3 = .int .i64 z ∧ s4 = .int .i64 k ∧ k ≤ n2) (fun _ s4 => n2 - (intOf s4).toNat)
          case atStart => exact ⟨_, 0, rfl, rfl, Nat.zero_le _⟩
          case round =>
            obtain ⟨z, k, rfl, rfl, hk⟩ := hrel
            by_cases hlt : k < n2
            · obtain ⟨b, off, x, ha, hcell, hsz⟩ := H2.out k hlt
              subst ha
              go_wp2
              all_goals first
                | (go_ret; exact ⟨⟨_, rfl⟩, rfl⟩)
                | (refine ⟨⟨_, k + 1, rfl, by go_num, by omega⟩, ?_⟩; simp [intOf]; omega)
            · go_wp2
              all_goals (try (go_ret; exact ⟨⟨_, rfl⟩, rfl⟩))

set_option maxHeartbeats 2000000 in
set_option maxRecDepth 100000 in
theorem zzPut (w : World) (a0 : Option Addr) (n0 c0 : Nat) (x0 : List ByteArray) (h0 : StrArr w (.slice a0 n0 c0) x0) (a1 : Option Addr) (n1 c1 : Nat) (x1 : List ByteArray) (h1 : StrArr w (.slice a1 n1 c1) x1) (a2 : Option Addr) (n2 c2 : Nat) (x2 : List ByteArray) (h2 : StrArr w (.slice a2 n2 c2) x2) (s0 : ByteArray) (_hs0 : s0.size ≤ 9223372036854775807) (s1 : ByteArray) (_hs1 : s1.size ≤ 9223372036854775807) :
    Calls Try.prog 14 #[.slice a0 n0 c0, .slice a1 n1 c1, .slice a2 n2 c2, .string s0, .string s1] w fun e w' => IsBool e ∧ w' = w := by
  obtain ⟨m0, e0, H0⟩ := h0.raw
  obtain ⟨m1, e1, H1⟩ := h1.raw
  obtain ⟨m2, e2, H2⟩ := h2.raw
  clear h0 h1 h2
  go_enter Try.func14, Try.ntmps14
  go_wp2
  all_goals (try (go_ret; exact ⟨⟨_, rfl⟩, rfl⟩))
  go_loop [11, 12] (fun s3 s4 => ∃ (z : Int) (k : Nat), s3 = .int .i64 z ∧ s4 = .int .i64 k ∧ k ≤ n0) (fun _ s4 => n0 - (intOf s4).toNat)
  case atStart => exact ⟨_, 0, rfl, rfl, Nat.zero_le _⟩
  case round =>
    obtain ⟨z, k, rfl, rfl, hk⟩ := hrel
    by_cases hlt : k < n0
    · obtain ⟨b, off, x, ha, hcell, hsz⟩ := H0.out k hlt
      subst ha
      go_wp2
      all_goals first
        | (go_ret; exact ⟨⟨_, rfl⟩, rfl⟩)
        | (refine ⟨⟨_, k + 1, rfl, by go_num, by omega⟩, ?_⟩; simp [intOf]; omega)
    · go_wp2
      all_goals (try (go_ret; exact ⟨⟨_, rfl⟩, rfl⟩))
      go_loop [11, 13] (fun s3 s4 => ∃ (z : Int) (k : Nat), s3 = .int .i64 z ∧ s4 = .int .i64 k ∧ k ≤ n1) (fun _ s4 => n1 - (intOf s4).toNat)
      case atStart => exact ⟨_, 0, rfl, rfl, Nat.zero_le _⟩
      case round =>
        obtain ⟨z, k, rfl, rfl, hk⟩ := hrel
        by_cases hlt : k < n1
        · obtain ⟨b, off, x, ha, hcell, hsz⟩ := H1.out k hlt
          subst ha
          go_wp2
          all_goals first
            | (go_ret; exact ⟨⟨_, rfl⟩, rfl⟩)
            | (refine ⟨⟨_, k + 1, rfl, by go_num, by omega⟩, ?_⟩; simp [intOf]; omega)
        · go_wp2
          all_goals (try (go_ret; exact ⟨⟨_, rfl⟩, rfl⟩))
          go_loop [11, 14] (fun s3 s4 => ∃ (z : Int) (k : Nat), s3 = .int .i64 z ∧ s4 = .int .i64 k ∧ k ≤ n2) (fun _ s4 => n2 - (intOf s4).toNat)
          case atStart => exact ⟨_, 0, rfl, rfl, Nat.zero_le _⟩
          case round =>
            obtain ⟨z, k, rfl, rfl, hk⟩ := hrel
            by_cases hlt : k < n2
            · obtain ⟨b, off, x, ha, hcell, hsz⟩ := H2.out k hlt
              subst ha
              go_wp2
              all_goals first
                | (go_ret; exact ⟨⟨_, rfl⟩, rfl⟩)
                | (refine ⟨⟨_, k + 1, rfl, by go_num, by omega⟩, ?_⟩; simp [intOf]; omega)
            · go_wp2
              all_goals (try (go_ret; exact ⟨⟨_, rfl⟩, rfl⟩))

end Go.Proofs.Qxb6600882a
