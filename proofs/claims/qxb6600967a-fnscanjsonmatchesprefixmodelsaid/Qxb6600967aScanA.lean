/-
  (*JSONScanner).Scan from the zero scanner: it stops where the run of the states stops.
-/
import Derived.Test.Qxb6600967aBase
import Derived.WalkMore
namespace Go.Proofs.Qxb6600967a
open Go.RowKit

theorem wp_scope_five {P : Program} {a : Act} {w : World} {Q : Exit → Act → World → Prop} {c r0 r2 r6 r8 r9 : Code} (J0 J2 J6 J8 J9 : Act → World → Prop)
    (f0 : findLabel c 0 = some (Code.skip.seq r0)) (f2 : findLabel c 2 = some (Code.skip.seq r2)) (f6 : findLabel c 6 = some (Code.skip.seq r6)) (f8 : findLabel c 8 = some (Code.skip.seq r8)) (f9 : findLabel c 9 = some (Code.skip.seq r9))
    (p6 : f6 = f6 → ∀ a w, J6 a w → r6.wp P (jumps (fun _ _ _ => False) Q) a w)
    (p9 : (∀ a w, J6 a w → r6.wp P (jumps (fun _ _ _ => False) Q) a w) → ∀ a w, J9 a w → r9.wp P (jumps (fun _ _ _ => False) Q) a w)
    (p8 : (∀ a w, J9 a w → r9.wp P (jumps (fun l a w => l = 9 ∧ J9 a w) Q) a w) → ∀ a w, J8 a w → r8.wp P (jumps (fun l a w => l = 9 ∧ J9 a w) Q) a w)
    (p2 : (∀ a w, J8 a w → r8.wp P (jumps (fun l a w => l = 9 ∧ J9 a w) Q) a w) → ∀ a w, J2 a w → r2.wp P (jumps (fun l a w => l = 9 ∧ J9 a w) Q) a w)
    (p0 : f0 = f0 → ∀ a w, J0 a w → r0.wp P (jumps (fun l a w => (l = 2 ∧ J2 a w) ∨ (l = 8 ∧ J8 a w)) Q) a w)
    (first : (∀ a w, J0 a w → r0.wp P (jumps (fun l a w => (l = 2 ∧ J2 a w) ∨ (l = 8 ∧ J8 a w)) Q) a w) → c.wp P (jumps (fun l a w => (l = 2 ∧ J2 a w) ∨ (l = 8 ∧ J8 a w)) Q) a w) : (Code.scope c).wp P Q a w := by
  have m : ∀ {r : Code} {G G' : Nat → Act → World → Prop} {a : Act} {w : World}, (∀ l a w, G l a w → G' l a w) → r.wp P (jumps G Q) a w → r.wp P (jumps G' Q) a w := by
    intro r G G' a w hG h
    refine wp_mono h (fun e a w hq => ?_)
    cases e <;> first | exact hG _ _ _ hq | exact hq
  have sk : ∀ {r : Code} {G : Exit → Act → World → Prop} {a : Act} {w : World}, r.wp P G a w → (Code.skip.seq r).wp P G a w := fun h => wp_seq (wp_skip h)
  have p9' := p9 (p6 rfl)
  have q9 : ∀ a w, J9 a w → r9.wp P (jumps (fun l a w => l = 9 ∧ J9 a w) Q) a w := fun a w h => m (fun _ _ _ h => h.elim) (p9' a w h)
  have q8 := p8 q9
  have q2 := p2 q8
  refine wp_scope_many (fun l a w => (l = 2 ∧ J2 a w) ∨ (l = 8 ∧ J8 a w) ∨ (l = 9 ∧ J9 a w)) (fun l => if l = 2 then 3 else if l = 8 then 2 else if l = 9 then 1 else 0) (m (fun l a w h => ?_) (first (p0 rfl))) ?_
  · rcases h with h | h
    · exact .inl h
    · exact .inr (.inl h)
  · rintro l a w (⟨rfl, h⟩ | ⟨rfl, h⟩ | ⟨rfl, h⟩)
    · exact ⟨_, f2, sk (m (fun l a w h => ⟨.inr (.inr h), by rw [h.1]; decide⟩) (q2 a w h))⟩
    · exact ⟨_, f8, sk (m (fun l a w h => ⟨.inr (.inr h), by rw [h.1]; decide⟩) (q8 a w h))⟩
    · exact ⟨_, f9, sk (m (fun l a w h => h.elim) (p9' a w h))⟩

/-- The frame of Scan at the offset i. -/
def Fr15 (sb : Nat) (s : ByteArray) (i : Nat) (a : Act) : Prop := ∃ u : Nat → Value, a = { tmps := #[.pointer (some ⟨sb, 0, none⟩), .string s, undef, undef, .int .i64 0, .bool false, .int .i64 i, u 7, u 8, u 9, u 10, u 11, u 12, u 13, u 14, u 15, u 16, u 17, u 18, u 19, u 20, u 21, u 22, u 23, u 24, u 25, u 26, u 27, u 28, u 29, u 30, u 31, u 32, u 33, u 34, u 35, u 36, u 37, u 38, u 39, u 40, u 41, u 42, u 43, u 44, u 45, u 46, u 47, u 48, u 49, u 50, u 51, u 52, u 53, u 54, u 55, u 56, u 57, u 58, u 59, u 60, u 61, u 62, u 63, u 64, u 65, u 66, u 67, u 68, u 69, u 70, u 71, u 72, u 73, u 74, u 75, u 76, u 77, u 78, u 79, u 80, u 81, u 82, u 83, u 84, u 85, u 86, u 87, u 88, u 89, u 90, u 91, u 92, u 93, u 94, u 95, u 96, u 97, u 98, u 99, u 100, u 101, u 102, u 103, u 104, u 105, u 106, u 107, u 108, u 109, u 110, u 111, u 112, u 113, u 114, u 115, u 116, u 117, u 118, u 119, u 120, u 121, u 122, u 123, u 124, u 125, u 126, u 127, u 128, u 129, u 130, u 131, u 132, u 133, u 134, u 135, u 136, u 137, u 138, u 139, u 140, u 141, u 142, u 143, u 144, u 145, u 146, u 147, u 148, u 149, u 150, u 151, u 152, u 153, u 154, u 155, u 156, u 157, u 158, u 159, u 160, u 161, u 162, u 163, u 164, u 165, u 166, u 167, u 168, u 169, u 170, u 171, u 172, u 173, u 174, u 175, u 176, u 177, u 178, u 179, u 180, u 181, u 182, u 183, u 184, u 185, u 186, u 187, u 188, u 189, u 190, u 191, u 192, u 193, u 194, u 195, u 196, u 197, u 198, u 199, u 200, u 201, u 202, u 203, u 204, u 205, u 206, u 207, u 208, u 209, u 210, u 211, u 212], defers := [] }

set_option maxRecDepth 100000 in
theorem fr15_mk (sb : Nat) (s : ByteArray) (i : Nat) (u7 u8 u9 u10 u11 u12 u13 u14 u15 u16 u17 u18 u19 u20 u21 u22 u23 u24 u25 u26 u27 u28 u29 u30 u31 u32 u33 u34 u35 u36 u37 u38 u39 u40 u41 u42 u43 u44 u45 u46 u47 u48 u49 u50 u51 u52 u53 u54 u55 u56 u57 u58 u59 u60 u61 u62 u63 u64 u65 u66 u67 u68 u69 u70 u71 u72 u73 u74 u75 u76 u77 u78 u79 u80 u81 u82 u83 u84 u85 u86 u87 u88 u89 u90 u91 u92 u93 u94 u95 u96 u97 u98 u99 u100 u101 u102 u103 u104 u105 u106 u107 u108 u109 u110 u111 u112 u113 u114 u115 u116 u117 u118 u119 u120 u121 u122 u123 u124 u125 u126 u127 u128 u129 u130 u131 u132 u133 u134 u135 u136 u137 u138 u139 u140 u141 u142 u143 u144 u145 u146 u147 u148 u149 u150 u151 u152 u153 u154 u155 u156 u157 u158 u159 u160 u161 u162 u163 u164 u165 u166 u167 u168 u169 u170 u171 u172 u173 u174 u175 u176 u177 u178 u179 u180 u181 u182 u183 u184 u185 u186 u187 u188 u189 u190 u191 u192 u193 u194 u195 u196 u197 u198 u199 u200 u201 u202 u203 u204 u205 u206 u207 u208 u209 u210 u211 u212 : Value) : Fr15 sb s i { tmps := #[.pointer (some ⟨sb, 0, none⟩), .string s, undef, undef, .int .i64 0, .bool false, .int .i64 i, u7, u8, u9, u10, u11, u12, u13, u14, u15, u16, u17, u18, u19, u20, u21, u22, u23, u24, u25, u26, u27, u28, u29, u30, u31, u32, u33, u34, u35, u36, u37, u38, u39, u40, u41, u42, u43, u44, u45, u46, u47, u48, u49, u50, u51, u52, u53, u54, u55, u56, u57, u58, u59, u60, u61, u62, u63, u64, u65, u66, u67, u68, u69, u70, u71, u72, u73, u74, u75, u76, u77, u78, u79, u80, u81, u82, u83, u84, u85, u86, u87, u88, u89, u90, u91, u92, u93, u94, u95, u96, u97, u98, u99, u100, u101, u102, u103, u104, u105, u106, u107, u108, u109, u110, u111, u112, u113, u114, u115, u116, u117, u118, u119, u120, u121, u122, u123, u124, u125, u126, u127, u128, u129, u130, u131, u132, u133, u134, u135, u136, u137, u138, u139, u140, u141, u142, u143, u144, u145, u146, u147, u148, u149, u150, u151, u152, u153, u154, u155, u156, u157, u158, u159, u160, u161, u162, u163, u164, u165, u166, u167, u168, u169, u170, u171, u172, u173, u174, u175, u176, u177, u178, u179, u180, u181, u182, u183, u184, u185, u186, u187, u188, u189, u190, u191, u192, u193, u194, u195, u196, u197, u198, u199, u200, u201, u202, u203, u204, u205, u206, u207, u208, u209, u210, u211, u212], defers := [] } :=
  ⟨fun k => (#[u7, u8, u9, u10, u11, u12, u13, u14, u15, u16, u17, u18, u19, u20, u21, u22, u23, u24, u25, u26, u27, u28, u29, u30, u31, u32, u33, u34, u35, u36, u37, u38, u39, u40, u41, u42, u43, u44, u45, u46, u47, u48, u49, u50, u51, u52, u53, u54, u55, u56, u57, u58, u59, u60, u61, u62, u63, u64, u65, u66, u67, u68, u69, u70, u71, u72, u73, u74, u75, u76, u77, u78, u79, u80, u81, u82, u83, u84, u85, u86, u87, u88, u89, u90, u91, u92, u93, u94, u95, u96, u97, u98, u99, u100, u101, u102, u103, u104, u105, u106, u107, u108, u109, u110, u111, u112, u113, u114, u115, u116, u117, u118, u119, u120, u121, u122, u123, u124, u125, u126, u127, u128, u129, u130, u131, u132, u133, u134, u135, u136, u137, u138, u139, u140, u141, u142, u143, u144, u145, u146, u147, u148, u149, u150, u151, u152, u153, u154, u155, u156, u157, u158, u159, u160, u161, u162, u163, u164, u165, u166, u167, u168, u169, u170, u171, u172, u173, u174, u175, u176, u177, u178, u179, u180, u181, u182, u183, u184, u185, u186, u187, u188, u189, u190, u191, u192, u193, u194, u195, u196, u197, u198, u199, u200, u201, u202, u203, u204, u205, u206, u207, u208, u209, u210, u211, u212] : Array Value).getD (k - 7) undef, rfl⟩

/-- The state is q behind i bytes; the scanner holds the float mark alone. -/
def At (s : ByteArray) (sb : Nat) (w : World) (i q : Nat) (w' : World) : Prop :=
  Mid (bs s) i q ∧ Fr [sb] w w' ∧ w'.heap[sb]? = some (.cells #[.int .u8 0, .bool (mark ((bs s).take i)), .int .i64 0] 30 (0, 0))

def scanCells (s : ByteArray) (n q : Nat) : Array Value :=
  match (bs s)[n]? with
  | some c => #[.int .u8 0, .bool (mark ((bs s).take n)), .int .i64 (stuckFault q c)]
  | none => #[.int .u8 q, .bool (mark ((bs s).take n)), .int .i64 0]

/-- What Scan leaves. -/
def Scanned (s : ByteArray) (sb : Nat) (w : World) (n q : Nat) (w' : World) : Prop := Stops (bs s) n q ∧ Fr [sb] w w' ∧ w'.heap[sb]? = some (.cells (scanCells s n q) 30 (0, 0))

theorem At.cells {s : ByteArray} {sb : Nat} {w : World} {i q : Nat} {w' : World} (h : At s sb w i q w') : w'.cell? ⟨sb, 0, none⟩ = some (.int .u8 0) ∧ w'.cell? ⟨sb, 1, none⟩ = some (.bool (mark ((bs s).take i))) ∧ w'.cell? ⟨sb, 2, none⟩ = some (.int .i64 0) ∧
    w'.frozen? ⟨sb, 0, none⟩ = false ∧ w'.frozen? ⟨sb, 1, none⟩ = false ∧ w'.frozen? ⟨sb, 2, none⟩ = false :=
  ⟨by rw [cell_of_row w' sb _ _ _ _ h.2.2]; rfl, by rw [cell_of_row w' sb _ _ _ _ h.2.2]; rfl, by rw [cell_of_row w' sb _ _ _ _ h.2.2]; rfl, frozen_of_row w' sb 0 _ _ h.2.2, frozen_of_row w' sb 1 _ _ h.2.2, frozen_of_row w' sb 2 _ _ h.2.2⟩

theorem At.fault {s : ByteArray} {sb : Nat} {w : World} {i q f : Nat} {w' : World} {c : UInt8} (h : At s sb w i q w') (hc : (bs s)[i]? = some c) (hs : step q c = none) (hf : stuckFault q c = f) :
    Scanned s sb w i q (w'.setCell ⟨sb, 2, none⟩ (.int .i64 f)) := by
  refine ⟨⟨h.1, fun d hd => ?_⟩, h.2.1.setCell (.inl (by simp)) _, ?_⟩
  · rw [hc] at hd
    rw [← Option.some.inj hd]
    exact hs
  · rw [heap_setCell_same w' sb 2 _ _ _ h.2.2, scanCells, hc, ← hf]
    rfl

theorem At.plain {s : ByteArray} {sb : Nat} {w : World} {i q : Nat} {w' : World} {c : UInt8} (h : At s sb w i q w') (hc : (bs s)[i]? = some c) (hs : step q c = none) (hf : stuckFault q c = 0) :
    Scanned s sb w i q w' := by
  refine ⟨⟨h.1, fun d hd => ?_⟩, h.2.1, ?_⟩
  · rw [hc] at hd
    rw [← Option.some.inj hd]
    exact hs
  · rw [h.2.2, scanCells, hc]
    show _ = some (Obj.cells #[.int .u8 0, .bool (mark ((bs s).take i)), .int .i64 (stuckFault q c)] 30 (0, 0))
    rw [hf]
    rfl

theorem At.stop {s : ByteArray} {sb : Nat} {w : World} {i q : Nat} {w' : World} (h : At s sb w i q w') (hi : i = s.size) {z : Int} (hz : (q : Int) = z) :
    Scanned s sb w i q (w'.setCell ⟨sb, 0, none⟩ (.int .u8 z)) := by
  subst hz
  have hn : (bs s)[i]? = none := List.getElem?_eq_none (by rw [bs_len]; omega)
  refine ⟨⟨h.1, fun d hd => ?_⟩, h.2.1.setCell (.inl (by simp)) _, ?_⟩
  · rw [hn] at hd; cases hd
  · rw [heap_setCell_same w' sb 0 _ _ _ h.2.2, scanCells, hn]
    rfl

/-- A byte that bears no mark. -/
theorem At.next {s : ByteArray} {sb : Nat} {w : World} {i q q' : Nat} {w' : World} {c : UInt8} (h : At s sb w i q w') (hc : (bs s)[i]? = some c) (hs : step q c = some q') (hm : dot c = false) (he : eE c = false) : At s sb w (i + 1) q' w' := by
  refine ⟨h.1.next hc hs, h.2.1, ?_⟩
  have : mark ((bs s).take (i + 1)) = mark ((bs s).take i) := by
    rw [List.take_add_one, hc, Option.toList_some]
    simp [mark, hm, he]
  rw [this]
  exact h.2.2

/-- A byte that bears a mark. -/
theorem At.marked {s : ByteArray} {sb : Nat} {w : World} {i q q' : Nat} {w' : World} {c : UInt8} (h : At s sb w i q w') (hc : (bs s)[i]? = some c) (hs : step q c = some q') (hm : (dot c || eE c) = true) : At s sb w (i + 1) q' (w'.setCell ⟨sb, 1, none⟩ (.bool true)) := by
  refine ⟨h.1.next hc hs, h.2.1.setCell (.inl (by simp)) _, ?_⟩
  have : mark ((bs s).take (i + 1)) = true := by
    rw [List.take_add_one, hc, Option.toList_some]
    simp only [mark, List.any_append, List.any_cons, hm, Bool.true_or, Bool.or_true]
  rw [this, heap_setCell_same w' sb 1 _ _ _ h.2.2]
  rfl

/-- Digits, in a state that stays. -/
theorem At.digits {s : ByteArray} {sb : Nat} {w : World} {q : Nat} {w' : World} (hq : ∀ c, dg c = true → step q c = some q) : ∀ (d i : Nat), At s sb w i q w' → (∀ k c, i ≤ k → k < i + d → (bs s)[k]? = some c → dg c = true) → i + d ≤ (bs s).length → At s sb w (i + d) q w'
  | 0, _, h, _, _ => h
  | d + 1, i, h, hd, hl => by
    obtain ⟨c, hc⟩ : ∃ c, (bs s)[i]? = some c := ⟨(bs s)[i]'(by omega), List.getElem?_eq_getElem _⟩
    have hcd := hd i c (Nat.le_refl _) (by omega) hc
    obtain ⟨h1, h2, _, _⟩ := dg_not hcd
    have := At.digits hq d (i + 1) (h.next hc (hq c hcd) h2 h1) (fun k c' h1 h2 => hd k c' (by omega) (by omega)) (by omega)
    rw [show i + (d + 1) = i + 1 + d by omega]
    exact this

theorem At.digitsTo {s : ByteArray} {sb : Nat} {w : World} {i j q : Nat} {w' : World} (h : At s sb w i q w') (hq : ∀ c, dg c = true → step q c = some q) (hd : DigitsTo (bs s) i j) : At s sb w j q w' := by
  obtain ⟨d, rfl⟩ : ∃ d, j = i + d := ⟨j - i, by have := hd.1; omega⟩
  exact At.digits hq d i h hd.2.2.1 hd.2.1

/-- A first digit, and all that follow. -/
theorem At.enter {s : ByteArray} {sb : Nat} {w : World} {i j q q' : Nat} {w' : World} {c : UInt8} (h : At s sb w i q w') (hc : (bs s)[i]? = some c) (hdc : dg c = true) (hs : step q c = some q') (hq : ∀ c, dg c = true → step q' c = some q') (hd : DigitsTo (bs s) i j) : At s sb w j q' w' := by
  obtain ⟨n1, n2, _, _⟩ := dg_not hdc
  refine (h.next hc hs n2 n1).digitsTo hq ⟨?_, hd.2.1, fun k c' h1 h2 => hd.2.2.1 k c' (by omega) h2, hd.2.2.2⟩
  rcases Nat.lt_or_ge i j with h1 | h1
  · exact h1
  · have := hd.1
    obtain rfl : i = j := by omega
    rw [hd.2.2.2 c hc] at hdc
    cases hdc

theorem DigitsTo.not {s : ByteArray} {i j : Nat} (h : DigitsTo (bs s) i j) (hj : j < s.size) : dg s[j] = false := h.2.2.2 _ (bs_at hj)

theorem stay2 (c : UInt8) (h : dg c = true) : step 2 c = some 2 := by simp [step, h]
theorem stay5 (c : UInt8) (h : dg c = true) : step 5 c = some 5 := by simp [step, h]
theorem stay8 (c : UInt8) (h : dg c = true) : step 8 c = some 8 := by simp [step, h]

theorem int_is {c : UInt8} {n : Nat} {b : Bool} (h : ((c.toNat : Int) == (n : Int)) = b) : decide (c.toNat = n) = b := by
  rw [← h, Bool.eq_iff_iff]
  simp only [decide_eq_true_eq, beq_iff_eq]
  omega

theorem is_int {c : UInt8} {n : Nat} {b : Bool} (h : decide (c.toNat = n) = b) : ((c.toNat : Int) == (n : Int)) = b := by
  rw [← h, Bool.eq_iff_iff]
  simp only [decide_eq_true_eq, beq_iff_eq]
  omega

theorem stop_any (sb n : Nat) (q : Int) (w : World) (h0 : w.cell? ⟨sb, 0, none⟩ = some (.int .u8 0)) (hf : w.frozen? ⟨sb, 0, none⟩ = false) :
    Calls Try.prog 23 #[.pointer (some ⟨sb, 0, none⟩), .int .u8 q, .int .i64 n] w fun e w' => e = .returned (.tuple #[.int .i64 n, .bool false]) ∧ w' = w.setCell ⟨sb, 0, none⟩ (.int .u8 q) := by
  go_enter Try.func23, Try.ntmps23
  go_wp2
  go_ret2
  exact ⟨rfl, rfl⟩

end Go.Proofs.Qxb6600967a
