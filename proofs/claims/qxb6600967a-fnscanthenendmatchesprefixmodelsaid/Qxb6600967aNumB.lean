/-
  zzIsNumber.
-/
import Derived.Test.Qxb6600967aNumA
namespace Go.Proofs.Qxb6600967a
open Go.RowKit

/-- What is asked of the mantissa behind its sign. -/
def rest (m : B) : Bool := fracOk m && (all1 (upto dot m) && noLead (upto dot m))

theorem isNum_rest (l : B) : isNum l = (expOk l && rest (strip minus (upto eE l))) := rfl

theorem upto_none {f : UInt8 → Bool} : ∀ {l : B}, (∀ (m : Nat) c, l[m]? = some c → f c = false) → upto f l = l ∧ from' f l = []
  | [], _ => ⟨rfl, rfl⟩
  | c :: r, h => by
    have h0 := h 0 c rfl
    obtain ⟨h1, h2⟩ := upto_none (l := r) (fun m d hd => h (m + 1) d (by simpa using hd))
    refine ⟨by rw [upto_cons, h0, h1]; rfl, ?_⟩
    simpa [from', h0] using h2

theorem upto_first {f : UInt8 → Bool} : ∀ {l : B} {k : Nat} {c : UInt8}, (∀ (m : Nat) d, m < k → l[m]? = some d → f d = false) → l[k]? = some c → f c = true → upto f l = l.take k ∧ from' f l = c :: l.drop (k + 1)
  | [], _, _, _, h, _ => by simp at h
  | d :: r, 0, c, _, h, hf => by
    simp only [List.getElem?_cons_zero, Option.some.injEq] at h
    subst h
    exact ⟨by rw [upto_cons, hf]; rfl, by simp [from', hf]⟩
  | d :: r, k + 1, c, hn, h, hf => by
    have h0 := hn 0 d (by omega) rfl
    obtain ⟨h1, h2⟩ := upto_first (l := r) (k := k) (fun m e hm he => hn (m + 1) e (by omega) (by simpa using he)) (by simpa using h) hf
    refine ⟨by rw [upto_cons, h0, h1]; rfl, ?_⟩
    simpa [from', h0] using h2

theorem expOk_none {l : B} (h : ∀ (m : Nat) c, l[m]? = some c → eE c = false) : isNum l = rest (strip minus l) := by
  obtain ⟨h1, h2⟩ := upto_none h
  rw [isNum_rest, h1, expOk, h2]
  rfl

theorem expOk_first {l : B} {k : Nat} {c : UInt8} (hn : ∀ (m : Nat) d, m < k → l[m]? = some d → eE d = false) (h : l[k]? = some c) (hf : eE c = true) : isNum l = (all1 (strip sgn (l.drop (k + 1))) && rest (strip minus (l.take k))) := by
  obtain ⟨h1, h2⟩ := upto_first hn h hf
  rw [isNum_rest, h1, expOk, h2]

theorem rest_none {l : B} (h : ∀ (m : Nat) c, l[m]? = some c → dot c = false) : rest l = (all1 l && noLead l) := by
  obtain ⟨h1, h2⟩ := upto_none h
  rw [rest, h1, fracOk, h2]
  rfl

theorem rest_first {l : B} {k : Nat} {c : UInt8} (hn : ∀ (m : Nat) d, m < k → l[m]? = some d → dot d = false) (h : l[k]? = some c) (hf : dot c = true) : rest l = (all1 (l.drop (k + 1)) && (all1 (l.take k) && noLead (l.take k))) := by
  obtain ⟨h1, h2⟩ := upto_first hn h hf
  rw [rest, h1, fracOk, h2]

/-- The frame of zzIsNumber. -/
def Fr12 (v0 v3 v6 : Value) (a : Act) : Prop := ∃ u : Nat → Value, a = { tmps := #[v0, undef, u 2, v3, u 4, u 5, v6, u 7, u 8, u 9, u 10, u 11, u 12, u 13, u 14, u 15, u 16, u 17, u 18, u 19, u 20, u 21, u 22, u 23, u 24, u 25, u 26, u 27, u 28, u 29, u 30, u 31, u 32, u 33, u 34, u 35, u 36, u 37, u 38, u 39, u 40, u 41, u 42, u 43, u 44, u 45, u 46, u 47, u 48, u 49, u 50, u 51, u 52, u 53, u 54, u 55, u 56, u 57, u 58, u 59, u 60, u 61, u 62, u 63, u 64, u 65, u 66, u 67, u 68, u 69, u 70, u 71, u 72, u 73, u 74, u 75, u 76, u 77, u 78, u 79, u 80, u 81, u 82, u 83, u 84, u 85, u 86, u 87, u 88, u 89, u 90], defers := [] }

theorem fr12_mk (v0 v3 v6 : Value) (u2 u4 u5 u7 u8 u9 u10 u11 u12 u13 u14 u15 u16 u17 u18 u19 u20 u21 u22 u23 u24 u25 u26 u27 u28 u29 u30 u31 u32 u33 u34 u35 u36 u37 u38 u39 u40 u41 u42 u43 u44 u45 u46 u47 u48 u49 u50 u51 u52 u53 u54 u55 u56 u57 u58 u59 u60 u61 u62 u63 u64 u65 u66 u67 u68 u69 u70 u71 u72 u73 u74 u75 u76 u77 u78 u79 u80 u81 u82 u83 u84 u85 u86 u87 u88 u89 u90 : Value) : Fr12 v0 v3 v6 { tmps := #[v0, undef, u2, v3, u4, u5, v6, u7, u8, u9, u10, u11, u12, u13, u14, u15, u16, u17, u18, u19, u20, u21, u22, u23, u24, u25, u26, u27, u28, u29, u30, u31, u32, u33, u34, u35, u36, u37, u38, u39, u40, u41, u42, u43, u44, u45, u46, u47, u48, u49, u50, u51, u52, u53, u54, u55, u56, u57, u58, u59, u60, u61, u62, u63, u64, u65, u66, u67, u68, u69, u70, u71, u72, u73, u74, u75, u76, u77, u78, u79, u80, u81, u82, u83, u84, u85, u86, u87, u88, u89, u90], defers := [] } :=
  ⟨fun k => (#[undef, undef, u2, undef, u4, u5, undef, u7, u8, u9, u10, u11, u12, u13, u14, u15, u16, u17, u18, u19, u20, u21, u22, u23, u24, u25, u26, u27, u28, u29, u30, u31, u32, u33, u34, u35, u36, u37, u38, u39, u40, u41, u42, u43, u44, u45, u46, u47, u48, u49, u50, u51, u52, u53, u54, u55, u56, u57, u58, u59, u60, u61, u62, u63, u64, u65, u66, u67, u68, u69, u70, u71, u72, u73, u74, u75, u76, u77, u78, u79, u80, u81, u82, u83, u84, u85, u86, u87, u88, u89, u90] : Array Value).getD k undef, rfl⟩

end Go.Proofs.Qxb6600967a
