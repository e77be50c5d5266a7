/-
  End, and ScanJSON.
-/
import Derived.Test.Qxb6600967aScan
import Derived.OwnWalk
import Derived.BigQuiet
namespace Go.Proofs.Qxb6600967a
open Go.RowKit

def Ended (sb : Nat) (w : World) (q : Nat) (fl : Bool) (w' : World) : Prop := Fr [sb] w w' ∧ w'.heap[sb]? = some (.cells #[.int .u8 q, .bool fl, .int .i64 (endFault q)] 30 (0, 0))

theorem Ended.set {sb : Nat} {w : World} {q : Nat} {fl : Bool} (hb : w.heap[sb]? = some (.cells #[.int .u8 q, .bool fl, .int .i64 0] 30 (0, 0))) {f : Int} (hf : (endFault q : Int) = f) : Ended sb w q fl (w.setCell ⟨sb, 2, none⟩ (.int .i64 f)) := by
  refine ⟨(Fr.refl _ _).setCell (.inl (by simp)) _, ?_⟩
  rw [heap_setCell_same w sb 2 _ _ _ hb, ← hf]
  rfl

theorem Ended.none {sb : Nat} {w : World} {q : Nat} {fl : Bool} (hb : w.heap[sb]? = some (.cells #[.int .u8 q, .bool fl, .int .i64 0] 30 (0, 0))) (hf : endFault q = 0) : Ended sb w q fl w := by
  refine ⟨Fr.refl _ _, ?_⟩
  rw [hb, hf]
  rfl

set_option maxHeartbeats 1000000 in
theorem end_any (sb : Nat) (w : World) (q : Nat) (fl : Bool) (hq : q ≤ 8) (hb : w.heap[sb]? = some (.cells #[.int .u8 q, .bool fl, .int .i64 0] 30 (0, 0))) :
    Calls Try.prog 16 #[.pointer (some ⟨sb, 0, none⟩)] w fun e w' => e = .returned (.tuple #[]) ∧ Ended sb w q fl w' := by
  have c0 : w.cell? ⟨sb, 0, none⟩ = some (.int .u8 q) := by rw [cell_of_row w sb _ _ _ _ hb]; rfl
  have c2 : w.cell? ⟨sb, 2, none⟩ = some (.int .i64 0) := by rw [cell_of_row w sb _ _ _ _ hb]; rfl
  have f0 := frozen_of_row w sb 0 _ _ hb
  have f2 := frozen_of_row w sb 2 _ _ hb
  have HB : Hid (w.heap[sb]? = some (.cells #[.int .u8 q, .bool fl, .int .i64 0] 30 (0, 0))) := hb
  clear hb
  have : q = 0 ∨ q = 1 ∨ q = 2 ∨ q = 3 ∨ q = 4 ∨ q = 5 ∨ q = 6 ∨ q = 7 ∨ q = 8 := by omega
  rcases this with rfl | rfl | rfl | rfl | rfl | rfl | rfl | rfl | rfl
  all_goals
    go_enter Try.func16, Try.ntmps16
    go_wp2
    go_end0
    refine ⟨rfl, ?_⟩
    first
      | exact Ended.set HB.out rfl
      | exact Ended.none HB.out rfl

theorem Fr.drewN {S : List Nat} {a w : World} (h : Fr S a w) (n : Nat) : Fr S a (w.drewN n) := ⟨h.os, h.tape, h.output, h.size, h.block⟩

/-- What a scanner's block holds, all else being as it was. -/
def Left (sb : Nat) (w : World) (z : Nat) (fl : Bool) (f : Nat) (w' : World) : Prop := Fr [sb] w w' ∧ w'.heap[sb]? = some (.cells #[.int .u8 z, .bool fl, .int .i64 f] 30 (0, 0))

theorem Left.cells {sb : Nat} {w : World} {z : Nat} {fl : Bool} {f : Nat} {w' : World} (h : Left sb w z fl f w') : w'.cell? ⟨sb, 1, none⟩ = some (.bool fl) ∧ w'.cell? ⟨sb, 2, none⟩ = some (.int .i64 f) :=
  ⟨by rw [cell_of_row w' sb _ _ _ _ h.2]; rfl, by rw [cell_of_row w' sb _ _ _ _ h.2]; rfl⟩

theorem Left.over {sb : Nat} {w w1 w2 : World} {z z' : Nat} {fl fl' : Bool} {f f' : Nat} (h : Left sb w z fl f w1) (k : Left sb w1 z' fl' f' w2) : Left sb w z' fl' f' w2 := ⟨h.1.step k.1, k.2⟩

theorem Left.fresh {w : World} {o : Obj} {z : Nat} {fl : Bool} {f : Nat} {w2 : World} (k : Left w.heap.size (w.alloc o) z fl f w2) : Fr [] w w2 :=
  ((Fr.refl [] w).alloc o).trans k.1 (fun x hx => .inr (by rw [List.mem_singleton.1 hx]; exact Nat.le_refl _))

theorem Stops.le8 {l : B} {n q : Nat} (h : Stops l n q) : q ≤ 8 := go_range (Nat.zero_le _) h.1.2

theorem stops_of (l : B) : ∃ n q, Stops l n q := by
  obtain ⟨n, q, h1, h2, h3⟩ := stops_all l 0
  exact ⟨n, q, ⟨h1, h2⟩, h3⟩

theorem scan_in (s : ByteArray) (n q : Nat) (hst : Stops (bs s) n q) (hlt : n < s.size) (hs : s.size ≤ 1048577) (sb : Nat) (w : World) (hb : w.heap[sb]? = some (.cells #[.int .u8 0, .bool false, .int .i64 0] 30 (0, 0))) :
    Calls Try.prog 15 #[.pointer (some ⟨sb, 0, none⟩), .string s] w fun e w' => e = .returned (.tuple #[.int .i64 n, .bool true]) ∧ Left sb w 0 (mark ((bs s).take n)) (stuckFault q s[n]) w' := by
  refine (scan_any s sb w hs hb).mono ?_
  rintro e w' ⟨n', q', rfl, h1, h2, h3⟩
  obtain ⟨rfl, rfl⟩ := hst.uniq h1
  refine ⟨by rw [decide_eq_true hlt], h2, ?_⟩
  rw [h3, scanCells, bs_at hlt]
  rfl

theorem scan_out (s : ByteArray) (n q : Nat) (hst : Stops (bs s) n q) (hlt : ¬ n < s.size) (hs : s.size ≤ 1048577) (sb : Nat) (w : World) (hb : w.heap[sb]? = some (.cells #[.int .u8 0, .bool false, .int .i64 0] 30 (0, 0))) :
    Calls Try.prog 15 #[.pointer (some ⟨sb, 0, none⟩), .string s] w fun e w' => e = .returned (.tuple #[.int .i64 n, .bool false]) ∧ Left sb w q (mark ((bs s).take n)) 0 w' := by
  refine (scan_any s sb w hs hb).mono ?_
  rintro e w' ⟨n', q', rfl, h1, h2, h3⟩
  obtain ⟨rfl, rfl⟩ := hst.uniq h1
  refine ⟨by rw [decide_eq_false hlt], h2, ?_⟩
  rw [h3, scanCells, List.getElem?_eq_none (by rw [bs_len]; omega)]
  rfl

theorem end_left (sb : Nat) (w0 w : World) (q : Nat) (fl : Bool) (hq : q ≤ 8) (hb : Left sb w0 q fl 0 w) :
    Calls Try.prog 16 #[.pointer (some ⟨sb, 0, none⟩)] w fun e w' => e = .returned (.tuple #[]) ∧ Left sb w0 q fl (endFault q) w' :=
  (end_any sb w q fl hq hb.2).mono fun _ _ h => ⟨h.1, hb.over h.2⟩

/-- The fault that the scanner ends with. -/
def fault (l : B) (n q : Nat) : Nat := match l[n]? with | some c => stuckFault q c | none => endFault q

theorem zeroBlock (w : World) : (w.alloc (.cells #[.int .u8 0, .bool false, .int .i64 0] 30 (0, 0))).heap[w.heap.size]? = some (.cells #[.int .u8 0, .bool false, .int .i64 0] 30 (0, 0)) := by
  show (w.heap.push (Obj.cells #[.int .u8 0, .bool false, .int .i64 0] 30 (0, 0)))[w.heap.size]? = _
  exact Array.getElem?_push_size

set_option maxHeartbeats 1000000 in
theorem scanJSON_any (s : ByteArray) (n q : Nat) (hst : Stops (bs s) n q) (hs : s.size ≤ 1048577) (w : World) :
    Calls Try.prog 9 #[.string s] w fun e w' => e = .returned (.tuple #[.int .i64 n, .bool (mark ((bs s).take n)), .int .i64 (fault (bs s) n q)]) ∧ Fr [] w w' := by
  have HZ : Hid ((w.alloc (.cells #[.int .u8 0, .bool false, .int .i64 0] 30 (0, 0))).heap[w.heap.size]? = some (.cells #[.int .u8 0, .bool false, .int .i64 0] 30 (0, 0))) := zeroBlock w
  have HST : Hid (Stops (bs s) n q) := hst
  clear hst
  by_cases hlt : n < s.size
  · have hf : fault (bs s) n q = stuckFault q s[n] := by rw [fault, bs_at hlt]
    rw [hf]
    clear hf
    generalize hmk : mark ((bs s).take n) = mk
    generalize hff : stuckFault q s[n] = f
    have HK : Hid (∀ sb w1, w1.heap[sb]? = some (.cells #[.int .u8 0, .bool false, .int .i64 0] 30 (0, 0)) → Calls Try.prog 15 #[.pointer (some ⟨sb, 0, none⟩), .string s] w1 fun e w' => e = .returned (.tuple #[.int .i64 n, .bool true]) ∧ Left sb w1 0 mk f w') :=
      fun sb w1 hb => by rw [← hmk, ← hff]; exact scan_in s n q HST.out hlt hs sb w1 hb
    clear hmk hff
    go_enter Try.func9, Try.ntmps9
    go_wp2_with (go_at_call 15; refine (HK.out _ _ HZ.out).mono ?_; rintro e w1 ⟨rfl, hl⟩; obtain ⟨d1, d2⟩ := hl.cells; have HL : Hid (Left w.heap.size (w.alloc (.cells #[.int .u8 0, .bool false, .int .i64 0] 30 (0, 0))) 0 mk f w1) := hl; clear hl)
    go_quiet (fail)
    go_wp2
    go_ret3
    exact ⟨rfl, HL.out.fresh.drewN _⟩
  · have hf : fault (bs s) n q = endFault q := by rw [fault, List.getElem?_eq_none (by rw [bs_len]; omega)]
    rw [hf]
    clear hf
    generalize hmk : mark ((bs s).take n) = mk
    have HK : Hid (∀ sb w1, w1.heap[sb]? = some (.cells #[.int .u8 0, .bool false, .int .i64 0] 30 (0, 0)) → Calls Try.prog 15 #[.pointer (some ⟨sb, 0, none⟩), .string s] w1 fun e w' => e = .returned (.tuple #[.int .i64 n, .bool false]) ∧ Left sb w1 q mk 0 w') :=
      fun sb w1 hb => by rw [← hmk]; exact scan_out s n q HST.out hlt hs sb w1 hb
    have HE : Hid (∀ sb w0 w1, Left sb w0 q mk 0 w1 → Calls Try.prog 16 #[.pointer (some ⟨sb, 0, none⟩)] w1 fun e w' => e = .returned (.tuple #[]) ∧ Left sb w0 q mk (endFault q) w') :=
      fun sb w0 w1 hb => end_left sb w0 w1 q mk HST.out.le8 hb
    clear hmk
    generalize endFault q = f at HE ⊢
    go_enter Try.func9, Try.ntmps9
    go_wp2_with (first
      | (go_at_call 15; refine (HK.out _ _ HZ.out).mono ?_; rintro e w1 ⟨rfl, hl⟩; have HL : Hid (Left w.heap.size (w.alloc (.cells #[.int .u8 0, .bool false, .int .i64 0] 30 (0, 0))) q mk 0 w1) := hl; clear hl)
      | (go_at_call 16; refine (HE.out _ _ _ HL.out).mono ?_; rintro e w2 ⟨rfl, hl⟩; obtain ⟨d1, d2⟩ := hl.cells; have HL2 : Hid (Left w.heap.size (w.alloc (.cells #[.int .u8 0, .bool false, .int .i64 0] 30 (0, 0))) q mk f w2) := hl; clear hl))
    go_quiet (fail)
    go_wp2
    go_ret3
    exact ⟨rfl, HL2.out.fresh.drewN _⟩

end Go.Proofs.Qxb6600967a
