/-
  (*Store).Put: the walk.
-/
import Derived.Test.Qxb6600882aPutA
import Derived.Deep.CutBlock
import Derived.Deep.LoopGhost
namespace Go.Proofs.Qxb6600882a
open Go.RowKit Go.Lib
attribute [local go_sem ↓] Go.wp_at_zero Go.wp_at_succ
set_option linter.unusedSimpArgs false
set_option linter.unusedVariables false

theorem Rep.le : ∀ {d n b : Nat} {w : World} {fp : List Nat} {m : List KV}, Rep d n w b fp m → n ≤ 32
  | 0, _, _, _, _, _, h => h.2.2
  | _ + 1, _, _, _, _, _, h => by obtain ⟨_, _, _, _, _, h, _⟩ := h; exact h

/-- The cells of a node's block that a walk asks for. -/
theorem Rep.cells : ∀ {d n b : Nat} {w : World} {fp : List Nat} {m : List KV}, Rep d n w b fp m → ∃ a cap, w.cell? ⟨b, 0, none⟩ = some (.int .u64 0) ∧ w.cell? ⟨b, 1, none⟩ = some (.slice a n cap)
  | 0, n, b, w, fp, m, h => by
    obtain ⟨⟨kv, vv, cv, kf, vf, cf, h1, h2, h3, h4, _⟩, hn, _⟩ := h
    obtain ⟨a, cap, rfl⟩ := h2.shape
    rw [List.length_map, hn] at h1
    exact ⟨a, cap, cell_eq h1 rfl, cell_eq h1 rfl⟩
  | d + 1, n, b, w, fp, m, h => by
    obtain ⟨e, K, f0, ⟨kv, vv, cv, kf, vf, cf, h1, h2, h3, h4, _⟩, hn, _⟩ := h
    obtain ⟨a, cap, rfl⟩ := h2.shape
    rw [List.length_map, hn] at h1
    exact ⟨a, cap, cell_eq h1 rfl, cell_eq h1 rfl⟩

/-- The first root: an empty leaf. -/
theorem first_root {sb : Nat} {w : World} {z : Int} (lsb : sb < w.heap.size) (hsb : w.heap[sb]? = some (.cells #[.pointer none, .int .i64 z, .int .u64 0] 30 (0, 0))) :
    ∃ rb d n f, SB ((w.setCell ⟨sb, 0, none⟩ (.pointer (some ⟨w.heap.size, 0, none⟩))).alloc (.cells #[.int .u64 0, .slice none 0 0, .slice none 0 0, .slice none 0 0] 44)) sb (ptr rb) ∧
      Rep d n ((w.setCell ⟨sb, 0, none⟩ (.pointer (some ⟨w.heap.size, 0, none⟩))).alloc (.cells #[.int .u64 0, .slice none 0 0, .slice none 0 0, .slice none 0 0] 44)) rb f [] ∧ n ≤ 31 ∧ f.Nodup ∧ ¬ sb ∈ f ∧ (∀ x, x ∈ f → x ∈ [sb] ∨ w.heap.size ≤ x) ∧
      Fr [sb] w ((w.setCell ⟨sb, 0, none⟩ (.pointer (some ⟨w.heap.size, 0, none⟩))).alloc (.cells #[.int .u64 0, .slice none 0 0, .slice none 0 0, .slice none 0 0] 44)) := by
  refine ⟨w.heap.size, 0, 0, [w.heap.size], ⟨z, ?_⟩, ⟨⟨_, _, _, [], [], [], ?_, SlRow.nil _ _, SlRow.nil _ _, ⟨rfl, rfl⟩, rfl⟩, rfl, by omega⟩, by omega, by simp, by simp; omega, by simp, ((Fr.refl [sb] w).setCell (.inl (by simp)) _).alloc _⟩
  · rw [Below.heap_alloc _ _ _ (by simpa using lsb)]
    exact heap_setCell_same w sb 0 _ _ _ hsb
  · have h := heap_alloc_new (w.setCell ⟨sb, 0, none⟩ (.pointer (some ⟨w.heap.size, 0, none⟩))) (.cells #[.int .u64 0, .slice none 0 0, .slice none 0 0, .slice none 0 0] 44)
    rw [World.size_setCell] at h
    exact h

/-- A new root over the old one. -/
theorem new_root {sb rb : Nat} {w : World} {z : Int} (lsb : sb < w.heap.size) (hsb : w.heap[sb]? = some (.cells #[ptr rb, .int .i64 z, .int .u64 0] 30 (0, 0))) :
    ∃ nr f0, SB (((w.setCell ⟨sb, 0, none⟩ (.pointer (some ⟨w.heap.size + 1, 0, none⟩))).alloc (.cells #[ptr rb] 27)).alloc (.cells #[.int .u64 0, .slice none 0 0, .slice none 0 0, .slice (some ⟨w.heap.size, 0, none⟩) 1 1] 44)).drew sb (ptr nr) ∧
      Node (((w.setCell ⟨sb, 0, none⟩ (.pointer (some ⟨w.heap.size + 1, 0, none⟩))).alloc (.cells #[ptr rb] 27)).alloc (.cells #[.int .u64 0, .slice none 0 0, .slice none 0 0, .slice (some ⟨w.heap.size, 0, none⟩) 1 1] 44)).drew nr [] (some [rb]) f0 ∧ f0.Nodup ∧ (∀ x, x ∈ f0 → w.heap.size ≤ x) ∧
      Fr [sb] w (((w.setCell ⟨sb, 0, none⟩ (.pointer (some ⟨w.heap.size + 1, 0, none⟩))).alloc (.cells #[ptr rb] 27)).alloc (.cells #[.int .u64 0, .slice none 0 0, .slice none 0 0, .slice (some ⟨w.heap.size, 0, none⟩) 1 1] 44)).drew := by
  obtain ⟨w1, hw1⟩ : ∃ w1, w1 = w.setCell ⟨sb, 0, none⟩ (.pointer (some ⟨w.heap.size + 1, 0, none⟩)) := ⟨_, rfl⟩
  have hz : w1.heap.size = w.heap.size := by rw [hw1, World.size_setCell]
  have h1 : w1.heap[sb]? = some (.cells #[ptr (w.heap.size + 1), .int .i64 z, .int .u64 0] 30 (0, 0)) := by rw [hw1]; exact heap_setCell_same w sb 0 _ _ _ hsb
  have hF : Fr [sb] w w1 := by rw [hw1]; exact (Fr.refl [sb] w).setCell (.inl (by simp)) _
  rw [← hw1]
  rw [← hz]
  refine ⟨w1.heap.size + 1, [w1.heap.size + 1, w1.heap.size], ⟨z, ?_⟩, ⟨_, _, _, [], [], [w1.heap.size], heap_alloc2_new _ _ _, SlRow.nil _ _, SlRow.nil _ _, ⟨by simp, .inr ⟨w1.heap.size, 1, #[ptr rb], rfl, heap_alloc2_old _ _ _, by simp, by simp [maxLen], rfl, rfl, rfl⟩⟩, rfl⟩, by simp, by simp, ((hF.alloc _).alloc _).drew⟩
  rw [hz]
  show ((w1.alloc _).alloc _).heap[sb]? = _
  rw [Below.heap_alloc _ _ _ (by simp; omega), Below.heap_alloc _ _ _ (by omega)]
  exact h1

/-- The root has grown by a level. -/
theorem grown_root {sb nr rb d : Nat} {w w3 w4 : World} {f f0 : List Nat} {M : List KV} (lsb : sb < w.heap.size) (hrep : Rep d 32 w rb f M) (hnd : (sb :: f).Nodup) (hSB : SB w3 sb (ptr nr)) (hge : ∀ x ∈ f0, w.heap.size ≤ x) (hfr : Fr [sb] w w3)
    (hq : ∃ kv l r f0', Node w4 nr (([] : List KV).take 0 ++ kv :: ([] : List KV).drop 0) (some ((([] : List Kid) ++ l :: r :: []).map (·.1))) f0' ∧ (∀ c' ∈ ([] : List Kid) ++ l :: r :: [], ∃ n', Rep d n' w4 c'.1 c'.2.1 c'.2.2) ∧ (∃ n', n' ≤ 31 ∧ Rep d n' w4 l.1 l.2.1 l.2.2) ∧ (∃ n', n' ≤ 31 ∧ Rep d n' w4 r.1 r.2.1 r.2.2) ∧ ((rb, f, M) : Kid).2.2 = l.2.2 ++ kv :: r.2.2 ∧
      (f0' ++ (([] : List Kid) ++ l :: r :: []).flatMap (·.2.1)).Nodup ∧ (∀ x ∈ f0' ++ (([] : List Kid) ++ l :: r :: []).flatMap (·.2.1), x ∈ f0 ++ (([] : List Kid) ++ (rb, f, M) :: []).flatMap (·.2.1) ∨ w3.heap.size ≤ x) ∧ Fr (f0 ++ (([] : List Kid) ++ (rb, f, M) :: []).flatMap (·.2.1)) w3 w4) :
    ∃ rb d n f_1, SB w4 sb (ptr rb) ∧ Rep d n w4 rb f_1 M ∧ n ≤ 31 ∧ f_1.Nodup ∧ ¬ sb ∈ f_1 ∧ (∀ x, x ∈ f_1 → x ∈ sb :: f ∨ w.heap.size ≤ x) ∧ Fr (sb :: f) w w4 := by
  obtain ⟨kv, l, r, f0', q1, q2, q3, q4, q5, q6, q7, q8⟩ := hq
  have hnd' := List.nodup_cons.1 hnd
  have e1 : f0 ++ (([] : List Kid) ++ (rb, f, M) :: []).flatMap (·.2.1) = f0 ++ f := by simp
  rw [e1] at q7 q8
  have hlt : sb < w3.heap.size := by obtain ⟨z, h⟩ := hSB; exact lt_of_block h
  have z3 := hfr.size
  have hsub : ∀ x ∈ f0' ++ (([] : List Kid) ++ l :: r :: []).flatMap (·.2.1), x ∈ f ∨ w.heap.size ≤ x := fun x hx => by
    rcases q7 x hx with h | h
    · rcases List.mem_append.1 h with h | h
      · exact .inr (hge x h)
      · exact .inl h
    · exact .inr (by omega)
  have hs0 : sb ∉ f0 ++ f := fun hx => by
    rcases List.mem_append.1 hx with h | h
    · have := hge sb h; omega
    · exact hnd'.1 h
  refine ⟨nr, d + 1, 1, f0' ++ (([] : List Kid) ++ l :: r :: []).flatMap (·.2.1), hSB.fr q8 hs0, ⟨[kv], [l, r], f0', q1, rfl, by omega, rfl, q2, rfl, ?_⟩, by omega, q6, fun hx => ?_, fun x hx => ?_, ?_⟩
  · show M = l.2.2 ++ (kv :: (r.2.2 ++ []))
    rw [List.append_nil]; exact q5
  · rcases hsub sb hx with h | h
    · exact hnd'.1 h
    · omega
  · rcases hsub x hx with h | h
    · exact .inl (List.mem_cons_of_mem _ h)
    · exact .inr h
  · refine (hfr.mono (by simp)).trans q8 (fun x hx => ?_)
    rcases List.mem_append.1 hx with h | h
    · exact .inr (hge x h)
    · exact .inl (List.mem_cons_of_mem _ h)

/-- What Put leaves. -/
def PutFin (sb : Nat) (fp : List Nat) (M : List KV) (key value : ByteArray) (w w' : World) : Prop :=
  ∃ fp', Store w' sb fp' (ins key value M) ∧ Fr fp w w' ∧ (∀ x ∈ fp', x ∈ fp ∨ w.heap.size ≤ x)

theorem PutFin.same {sb : Nat} {fp : List Nat} {M : List KV} {key value : ByteArray} {w x y : World} (h : PutFin sb fp M key value w x) (h1 : y.heap = x.heap) (h2 : y.os = x.os) (h3 : y.tape = x.tape) (h4 : y.output = x.output) : PutFin sb fp M key value w y := by
  obtain ⟨fp', a, b, c⟩ := h
  refine ⟨fp', a.fr (S := []) ⟨h2, h3, h4, by rw [h1]; exact Nat.le_refl _, fun k _ _ => by rw [h1]⟩ (by simp), ⟨h2.trans b.os, h3.trans b.tape, h4.trans b.output, by rw [h1]; exact b.size, fun k hk hS => by rw [h1]; exact b.block k hk hS⟩, c⟩

theorem start_rel {sb rb d n : Nat} {w w1 : World} {fp f : List Nat} {M : List KV} {key value : ByteArray} (hsbm : sb ∈ fp) (hsrt : Srt M) (hSB : SB w1 sb (ptr rb)) (hRep : Rep d n w1 rb f M) (hn : n ≤ 31) (hnd : f.Nodup) (hsf : sb ∉ f) (hsub : ∀ x, x ∈ f → x ∈ fp ∨ w.heap.size ≤ x) (hfr : Fr fp w w1) :
    PutRel sb (ptr rb) key value (PutFin sb fp M key value w) (2 * d + 1) (ptr rb) w1 := by
  refine ⟨rb, d, f, M, rfl, hSB, hsf, hnd, hsrt, LoopAt.of_rep hRep hn, fun w' f' n' a1 a2 a3 a4 a5 a6 => ?_⟩
  obtain ⟨z, a1⟩ := a1
  refine ⟨sb :: f', ⟨ins_srt key value M hsrt, List.nodup_cons.2 ⟨a5, a3⟩, _, z, a1, .inr ⟨rb, d, n', f', rfl, a2, rfl⟩⟩, hfr.trans a6 (fun x hx => ?_), fun x hx => ?_⟩
  · rcases List.mem_cons.1 hx with h | h
    · exact .inl (by rw [h]; exact hsbm)
    · exact hsub x h
  · rcases List.mem_cons.1 hx with h | h
    · exact .inl (by rw [h]; exact hsbm)
    · rcases a4 x h with h | h
      · exact hsub x h
      · exact .inr (by have := hfr.size; omega)

theorem heap_set2 {w1 w : World} (hh : w1.heap = w.heap) (a : Addr) (v : Value) (b : Addr) (u : Value) : ((w1.setCell a v).setCell b u).heap = ((w.setCell a v).setCell b u).heap := by
  simp only [World.setCell, hh]

theorem Wand.same {sb : Nat} {root : Value} {key value : ByteArray} {Fin : World → Prop} {w w1 : World} {d b : Nat} {f : List Nat} {m : List KV} (h : Wand sb root key value Fin w d b f m) (hh : w1.heap = w.heap) (hfr : Fr [] w w1) : Wand sb root key value Fin w1 d b f m :=
  fun w' f' n' a1 a2 a3 a4 a5 a6 => h w' f' n' a1 a2 a3 (fun x hx => by rcases a4 x hx with h | h; exact .inl h; exact .inr (by rw [hh] at h; exact h)) a5 ((hfr.mono (by simp)).step a6)

theorem SB.same {w w1 : World} {sb : Nat} {root : Value} (h : SB w sb root) (hh : w1.heap = w.heap) : SB w1 sb root := by
  obtain ⟨z, h⟩ := h; exact ⟨z, by rw [hh]; exact h⟩

/-- The loop's node, leaf or not. -/
theorem LoopAt.opens {key : ByteArray} {g : Nat} {w : World} {d b : Nat} {f : List Nat} {m : List KV} (h : LoopAt key g w d b f m) (hs : Srt m) :
    ∃ e co f0, Node w b e co f0 ∧ e.length ≤ 32 ∧ Srt e ∧ ((co = none ∧ d = 0 ∧ m = e ∧ f = f0 ∧ e.length ≤ 31) ∨ ∃ d' K, d = d' + 1 ∧ co = some (K.map (·.1)) ∧ K.length = e.length + 1 ∧ (∀ c ∈ K, ∃ n', Rep d' n' w c.1 c.2.1 c.2.2) ∧ f = f0 ++ K.flatMap (·.2.1) ∧ m = cont e K ∧
      ((e.length ≤ 31 ∧ 2 * d + 1 ≤ g) ∨ (2 * d ≤ g ∧ ∀ c, K[pos key e]? = some c → ∃ n', n' ≤ 31 ∧ Rep d' n' w c.1 c.2.1 c.2.2))) := by
  obtain ⟨e, f0, h | h⟩ := h
  · obtain ⟨h1, h2, rfl, h4, h5⟩ := h
    exact ⟨m, none, f0, h2, by omega, hs, .inl ⟨rfl, h1, rfl, h4, h5⟩⟩
  · obtain ⟨d', K, h1, h2, h3, h4, h5, h6, rfl, h8⟩ := h
    exact ⟨e, _, f0, h2, h3, hs.entries h4, .inr ⟨d', K, h1, rfl, h4, h5, h6, rfl, h8⟩⟩

set_option maxHeartbeats 4000000 in
set_option maxRecDepth 100000 in
theorem put_any (sb : Nat) (key value : ByteArray) (fp : List Nat) (M : List KV) (w : World) (h : Store w sb fp M) :
    Calls Try.prog 11 #[ptr sb, .string key, .string value] w fun r w' => r = .returned (.tuple #[]) ∧ PutFin sb fp M key value w w' := by
  obtain ⟨hsrt, hnd, root, z, hsb, hroot⟩ := h
  have lsb := lt_of_block hsb
  have hs0 : w.cell? ⟨sb, 0, none⟩ = some root := cell_eq hsb rfl
  have hs2 : w.cell? ⟨sb, 2, none⟩ = some (.int .u64 0) := cell_eq hsb rfl
  have hf0 : w.frozen? ⟨sb, 0, none⟩ = false := frozen_of_row w sb 0 _ _ hsb
  have hsbm : sb ∈ fp := by rcases hroot with ⟨_, _, rfl⟩ | ⟨_, _, _, _, _, _, rfl⟩ <;> simp
  have HS : Hid (Srt M ∧ fp.Nodup ∧ sb ∈ fp) := ⟨hsrt, hnd, hsbm⟩
  clear hsrt hsbm
  go_enter Try.func11, Try.ntmps11
  go_upto_block 0 with fail
  go_cut [] (fun w' => ∃ rb d n f, SB w' sb (ptr rb) ∧ Rep d n w' rb f M ∧ n ≤ 31 ∧ f.Nodup ∧ sb ∉ f ∧ (∀ x ∈ f, x ∈ fp ∨ w.heap.size ≤ x) ∧ Fr fp w w')
  case first =>
    rcases hroot with ⟨rfl, rfl, rfl⟩ | ⟨rb, d, n, f, rfl, hrep, rfl⟩
    · clear hnd
      go_wp2
      go_meet
      case rel => exact first_root lsb hsb
    · obtain ⟨ka, kcap, r0, r1⟩ := hrep.cells
      by_cases hn32 : n = 32
      · subst hn32
        go_wp2
        go_cut [] (fun w' => ∃ nr f0, SB w' sb (ptr nr) ∧ Node w' nr [] (some [rb]) f0 ∧ f0.Nodup ∧ (∀ x ∈ f0, w.heap.size ≤ x) ∧ Fr [sb] w w')
        case first =>
          go_region
          go_wp2
          go_meet
          case rel => exact new_root lsb hsb
        case rest =>
          obtain ⟨nr, f0, hSB, hnode, hfnd, hfge, hfr⟩ := hcut
          obtain ⟨w3, rfl⟩ : ∃ w3 : World, w3 = wc := ⟨_, rfl⟩
          obtain ⟨z3, hSB3⟩ := hSB
          have hs03 : w3.cell? ⟨sb, 0, none⟩ = some (ptr nr) := cell_eq hSB3 rfl
          have hndc := (List.nodup_cons.1 hnd)
          have hrep3 : Rep d 32 w3 rb f M := hrep.fr hfr (fun k hk hx => hndc.1 (by rw [← List.mem_singleton.1 hx]; exact hk))
          have hfn : (f0 ++ (([] : List Kid) ++ (rb, f, M) :: []).flatMap (·.2.1)).Nodup := by
            simp only [List.nil_append, List.flatMap_cons, List.flatMap_nil, List.append_nil]
            rw [List.nodup_append]
            exact ⟨hfnd, hndc.2, fun x hx y hy e => by have h1 := hfge x hx; have h2 := hrep.lt y hy; omega⟩
          have CS : Hid (Calls Try.prog 20 #[ptr sb, ptr nr, .int .i64 0] w3 _) := split_rep sb nr 0 d w3 (ptr nr) z3 [] [] (rb, f, M) [] f0 hSB3 hnode (by simp) rfl (by intro c' hc'; simp at hc'; subst hc'; exact ⟨32, hrep3⟩) hrep3 rfl hfn
          have HB : Hid (Rep d 32 w rb f M ∧ (sb :: f).Nodup ∧ SB w3 sb (ptr nr) ∧ (∀ x ∈ f0, w.heap.size ≤ x) ∧ Fr [sb] w w3) := ⟨hrep, hnd, ⟨z3, hSB3⟩, hfge, hfr⟩
          clear hrep hrep3 hfn hnode hfnd hfge hfr hSB3 hndc hnd
          go_wp2_with (go_at_call 20; refine CS.out.mono ?_; rintro r w4 ⟨rfl, hq⟩)
          go_meet
          case rel => exact grown_root lsb HB.out.1 HB.out.2.1 HB.out.2.2.1 HB.out.2.2.2.1 HB.out.2.2.2.2 hq
      · have hne : ((n : Int) == 32) = false := by simp; omega
        go_wp2
        go_meet
        case rel => exact ⟨rb, d, n, f, ⟨z, hsb⟩, hrep, by have := hrep.le; omega, (List.nodup_cons.1 hnd).2, (List.nodup_cons.1 hnd).1, fun x hx => .inl (List.mem_cons_of_mem _ hx), Fr.refl _ w⟩
  case rest =>
    obtain ⟨rb, d0, n0, f0, hSB, hRep, hn31, hfnd, hsf, hsub, hfr⟩ := hcut
    obtain ⟨w1, rfl⟩ : ∃ w1 : World, w1 = wc := ⟨_, rfl⟩
    obtain ⟨-, -, r0, -⟩ := hRep.cells
    have HP : Hid (PutRel sb (ptr rb) key value (PutFin sb fp M key value w) (2 * d0 + 1) (ptr rb) w1) := start_rel HS.out.2.2 HS.out.1 hSB hRep hn31 hfnd hsf hsub hfr
    obtain ⟨z1, hSB1⟩ := hSB
    have hs01 : w1.cell? ⟨sb, 0, none⟩ = some (ptr rb) := cell_eq hSB1 rfl
    have hs21 : w1.cell? ⟨sb, 2, none⟩ = some (.int .u64 0) := cell_eq hSB1 rfl
    clear hRep hn31 hfnd hsf hsub hfr hSB1 HS hroot hnd hsb hs0 hs2 hf0 lsb
    go_wp2_with (go_at_call 21; refine (own_any sb rb sb 0 _ hs21 hs01 r0).mono ?_; rintro r w' ⟨rfl, q, rfl⟩)
    go_loopg [6] (2 * d0 + 1) (fun g s6 wr => PutRel sb (ptr rb) key value (PutFin sb fp M key value w) g s6 wr)
    case atStart => exact HP.out.drewN _
    case round =>
      clear HP r0 hs01 hs21
      obtain ⟨b, d, f, m, rfl, hSB, hsf, hnd, hsm, hL, hW⟩ := hrel
      obtain ⟨e, co, f0, hnode, hel, hse, hcase⟩ := hL.opens hsm
      clear hL
      obtain ⟨kv, vv, cv, kf, vf, cf, hb, hk, hv, hkid, hf0⟩ := hnode
      have hpe := pos_le key e
      have HNS : Hid (Calls Try.prog 22 #[kv, .string key] wr fun r w1 => r = .returned (.tuple #[.int .i64 (pos key e), .bool (found key e)]) ∧ (w1.heap = wr.heap ∧ Fr [] wr w1)) := by
        refine (nodeSearch kv e kf key wr hk hse hel).mono ?_
        rintro r w1 ⟨rfl, q, rfl⟩
        exact ⟨rfl, rfl, (Fr.refl [] wr).drewN q⟩
      obtain ⟨-, hb1, hb2, hb3⟩ := node_cells hb
      have hsbF := hSB
      obtain ⟨z, hSB'⟩ := hSB
      have lsb := lt_of_block hSB'
      have hsbf0 : sb ∉ f0 := fun hx => hsf (by
        rcases hcase with ⟨_, _, _, h, _⟩ | ⟨d', K, _, _, _, _, h, _⟩
        · rw [h]; exact hx
        · rw [h]; exact List.mem_append_left _ hx)
      have hf0nd : f0.Nodup := by
        rcases hcase with ⟨_, _, _, h, _⟩ | ⟨d', K, _, _, _, _, h, _⟩
        · rw [← h]; exact hnd
        · rw [h, List.nodup_append] at hnd; exact hnd.1
      cases hf : found key e with
      | true =>
        rw [hf] at HNS
        obtain ⟨u, hu, hins⟩ : ∃ u, e[pos key e]? = some (key, u) ∧ ∀ w' , Node w' b (e.set (pos key e) (key, value)) co f0 → Fr [] w' w' → (∀ k ∈ f, k ∉ f0 → w'.heap[k]? = wr.heap[k]?) → Rep d e.length w' b f (ins key value m) := by
          rcases hcase with ⟨rfl, rfl, rfl, rfl, hl⟩ | ⟨d', K, rfl, rfl, hKl, hKk, rfl, rfl, _⟩
          · obtain ⟨⟨u, h1, _⟩, h2⟩ := leaf_hit value hsm hf
            exact ⟨u, h1, fun w' h3 _ _ => by rw [h2]; exact ⟨h3, by simp, hel⟩⟩
          · obtain ⟨⟨u, h1, _⟩, h2⟩ := inner_hit value hsm hKl hf
            refine ⟨u, h1, fun w' h3 _ h4 => ?_⟩
            rw [h2]
            refine ⟨_, K, f0, h3, by simp, hel, by simpa using hKl, fun c hc => ?_, rfl, rfl⟩
            obtain ⟨n', hn'⟩ := hKk c hc
            refine ⟨n', hn'.keep (fun k hk' => ?_)⟩
            have hm : k ∈ K.flatMap (·.2.1) := List.mem_flatMap.2 ⟨c, hc, hk'⟩
            refine h4 k (List.mem_append_right _ hm) (fun hx => ?_)
            rw [List.nodup_append] at hnd
            exact hnd.2.2 k hx k hm rfl
        have hpl : pos key e < e.length := by
          rcases Nat.lt_or_ge (pos key e) e.length with h | h
          · exact h
          · rw [List.getElem?_eq_none h] at hu; cases hu
        obtain ⟨vg, vcap, cur, hvv, hvg, -, -, -, -, rfl⟩ := hv.form (by intro h; rw [List.map_eq_nil_iff] at h; rw [h] at hpl; simp at hpl)
        rw [List.length_map] at hvv
        subst hvv
        have hvgf : vg ∈ f0 := by rw [hf0]; simp
        have hsbvg : sb ≠ vg := fun h => hsbf0 (by rw [h]; exact hvgf)
        have hsbb : sb ≠ b := fun h => hsbf0 (by rw [h, hf0]; simp)
        have hf0f : ∀ x ∈ f0, x ∈ f := fun x hx => by
          rcases hcase with ⟨_, _, _, h, _⟩ | ⟨d', K, _, _, _, _, h, _⟩
          · rw [h]; exact hx
          · rw [h]; exact List.mem_append_left _ hx
        have hflt : ∀ x ∈ f, x < wr.heap.size := fun x hx => by
          rcases hcase with ⟨_, _, _, h, _⟩ | ⟨d', K, _, _, _, hKk, h, _⟩
          · rw [h] at hx; exact Node.lt ⟨kv, _, cv, kf, [vg], cf, hb, hk, hv, hkid, hf0⟩ x hx
          · rw [h] at hx
            rcases List.mem_append.1 hx with h | h
            · exact Node.lt ⟨kv, _, cv, kf, [vg], cf, hb, hk, hv, hkid, hf0⟩ x h
            · obtain ⟨c, hc, hx'⟩ := List.mem_flatMap.1 h
              obtain ⟨n', hn'⟩ := hKk c hc
              exact hn'.lt x hx'
        have HFIN : Hid (∀ z', PutFin sb fp M key value w ((wr.setCell ⟨sb, 1, none⟩ (.int .i64 z')).setCell ⟨vg, pos key e, none⟩ (.string value))) := fun z' => by
          have hnd0 : (b :: (kf ++ ([vg] ++ cf))).Nodup := by rw [← hf0]; exact hf0nd
          have hsb0 : sb ∉ b :: (kf ++ ([vg] ++ cf)) := by rw [← hf0]; exact hsbf0
          have hN := hit_node (value := value) z' hb hk hv hkid hu hnd0 hsb0
          rw [← hf0] at hN
          refine hW _ f e.length (hit_sb z' hsbF hsbvg) (hins _ hN (Fr.refl _ _) (fun k hk' hk0 => ?_)) hnd (fun x hx => .inl hx) hsf (hit_fr z' (hf0f vg hvgf))
          rw [heap_setCell_other _ _ _ _ (fun h => hk0 (by rw [h]; exact hvgf)), heap_setCell_other _ _ _ _ (fun h => hsf (by have h' : k = sb := h; rw [← h']; exact hk'))]
        have hcv : wr.cell? ⟨vg, pos key e, none⟩ = some (.string u) := hv.cell _ _ (by rw [List.getElem?_map, hu]; rfl)
        obtain ⟨i, hi⟩ : ∃ i, pos key e = i := ⟨_, rfl⟩
        obtain ⟨len, hlen⟩ : ∃ len, e.length = len := ⟨_, rfl⟩
        rw [hi] at HNS hcv hpl hpe HFIN
        rw [hlen] at hb hb2 hpl hel hpe
        have HC : Hid (∀ w1 : World, w1.heap = wr.heap → w1.cell? ⟨sb, 1, none⟩ = some (.int .i64 z) ∧ w1.frozen? ⟨sb, 1, none⟩ = false ∧ w1.cell? ⟨b, 2, none⟩ = some (.slice (some ⟨vg, 0, none⟩) len vcap) ∧ w1.cell? ⟨vg, i, none⟩ = some (.string u) ∧ w1.frozen? ⟨vg, i, none⟩ = false ∧
            (∀ v, (w1.setCell ⟨sb, 1, none⟩ v).cell? ⟨b, 2, none⟩ = some (.slice (some ⟨vg, 0, none⟩) len vcap)) ∧ (∀ v, (w1.setCell ⟨sb, 1, none⟩ v).cell? ⟨vg, i, none⟩ = some (.string u))) := fun w1 hh => by
          have g1 : w1.heap[b]? = _ := (by rw [hh] : w1.heap[b]? = wr.heap[b]?).trans hb
          have g2 : w1.cell? ⟨vg, i, none⟩ = some (.string u) := (World.cell?_of_block (w := wr) (w' := w1) (a := ⟨vg, i, none⟩) (by rw [hh])).trans hcv
          have g3 : w1.heap[sb]? = _ := (by rw [hh] : w1.heap[sb]? = wr.heap[sb]?).trans hSB'
          have g4 : w1.heap[vg]? = _ := (by rw [hh] : w1.heap[vg]? = wr.heap[vg]?).trans hvg
          exact ⟨cell_eq g3 rfl, frozen_of_row w1 sb 1 _ _ g3, cell_eq g1 rfl, g2, frozen_of_row w1 vg i _ _ g4, fun v => by rw [World.cell?_setCell_other _ _ _ _ (by simp [hsbb])]; exact cell_eq g1 rfl, fun v => by rw [World.cell?_setCell_other _ _ _ _ (by simp [hsbvg])]; exact g2⟩
        have HFS : Hid (∀ x y : World, PutFin sb fp M key value w x → y.heap = x.heap → y.os = x.os → y.tape = x.tape → y.output = x.output → PutFin sb fp M key value w y) := fun x y h h1 h2 h3 h4 => h.same h1 h2 h3 h4
        clear hcase hW hins hk hv hkid hf0 hnd hsm hse hf hu hi hlen hcv hb hb2 hb3 hSB' hsbF hflt hf0f hvgf hsbf0 hf0nd hsf hvg hsbvg hsbb
        go_wp2_with (go_at_call 22; refine HNS.out.mono ?_; rintro r w1 ⟨rfl, hh, hfr⟩; obtain ⟨p1, p2, p3, p4, p5, p6, p7⟩ := HC.out w1 hh; have HH : Hid _ := hh; clear hh)
        go_region
        go_wp2
        refine bodyPost_ret (v := .tuple #[]) (by simp [results, Try.results11, go_sem]) rfl ⟨rfl, HFS.out _ _ (HFIN.out (wrap64 (z + wrap64 ((value.size : Int) - (u.size : Int))))) ?_ ?_ ?_ ?_⟩
        · exact heap_set2 HH.out _ _ _ _
        · exact hfr.os
        · exact hfr.tape
        · exact hfr.output
      | false =>
        rw [hf] at HNS
        have q42 := run_eql42
        have HFS : Hid (∀ x y : World, PutFin sb fp M key value w x → y.heap = x.heap → y.os = x.os → y.tape = x.tape → y.output = x.output → PutFin sb fp M key value w y) := fun x y h h1 h2 h3 h4 => h.same h1 h2 h3 h4
        rcases hcase with ⟨rfl, rfl, rfl, rfl, hl31⟩ | ⟨d', K, rfl, rfl, hKl, hKk, rfl, rfl, hflag⟩
        · obtain ⟨rfl, rfl⟩ := hkid
          obtain ⟨ka, kcap, rfl⟩ := hk.shape
          obtain ⟨va, vcap, rfl⟩ := hv.shape
          simp only [List.length_map] at hb hb1 hb2 hk hv HNS
          have HB : Hid (wr.heap[b]? = some (.cells #[.int .u64 0, .slice ka m.length kcap, .slice va m.length vcap, .slice none 0 0] 44 (0, 0)) ∧ SlRow wr 9 (.slice ka m.length kcap) (m.map fun p => .string p.1) kf ∧ SlRow wr 9 (.slice va m.length vcap) (m.map fun p => .string p.2) vf ∧ SB wr sb (ptr rb) ∧ sb ∉ b :: (kf ++ (vf ++ [])) ∧ (b :: (kf ++ (vf ++ []))).Nodup ∧ Srt m ∧ found key m = false ∧ Wand sb (ptr rb) key value (PutFin sb fp M key value w) wr 0 b (b :: (kf ++ (vf ++ []))) m) := by
            subst hf0
            exact ⟨hb, hk, hv, hsbF, hsf, hnd, hsm, hf, hW⟩
          have HC : Hid (∀ wp : World, wp.heap = wr.heap → wp.cell? ⟨b, 3, none⟩ = some (.slice none 0 0)) := fun wp hh => by
            have g1 : wp.heap[b]? = _ := (by rw [hh] : wp.heap[b]? = wr.heap[b]?).trans hb
            exact cell_eq g1 rfl
          clear hW hk hv hnd hsm hse hf hsf hsbF hSB' hsbf0 hf0nd hb hf0
          obtain ⟨i, hi⟩ : ∃ i, pos key m = i := ⟨_, rfl⟩
          obtain ⟨n, hn⟩ : ∃ n, m.length = n := ⟨_, rfl⟩
          rw [hi] at HNS hpe
          rw [hn] at HNS hb1 hb2 hel hpe hl31 HB
          go_wp2_with (go_at_call 22; refine HNS.out.mono ?_; rintro r wp ⟨rfl, hh, hfr⟩; have p3 := HC.out wp hh; have HH : Hid (wp.heap = wr.heap ∧ Fr [] wr wp) := ⟨hh, hfr⟩; clear hh hfr)
          obtain ⟨hB1, hB2, hB3, hB4, hB5, hB6, hB7, hB8, hB9⟩ := HB.out
          obtain ⟨hh, hfr⟩ := HH.out
          have hb' : wp.heap[b]? = some (.cells #[.int .u64 0, .slice ka n kcap, .slice va n vcap, .slice none 0 0] 44 (0, 0)) := (by rw [hh] : wp.heap[b]? = wr.heap[b]?).trans hB1
          have hk1 : SlRow wp 9 (.slice ka n kcap) (m.map fun p => .string p.1) kf := hB2.keep (fun k _ => by rw [hh])
          have hv1 : SlRow wp 9 (.slice va n vcap) (m.map fun p => .string p.2) vf := hB3.keep (fun k _ => by rw [hh])
          have hnkl : ∀ x ∈ kf, x < wp.heap.size := hk1.lt
          have hnd3 : (b :: (kf ++ vf)).Nodup := by simpa using hB6
          have hdkv : ∀ x ∈ vf, x ∉ kf := fun x hx hk => by
            rw [List.nodup_cons, List.nodup_append] at hnd3
            exact hnd3.2.2.2 x hk x hx rfl
          have hnbS : b ∉ kf ++ vf := (List.nodup_cons.1 hnd3).1
          have K0 : Hid (∀ w', Fr (kf ++ vf) wp w' → w'.cell? ⟨b, 1, none⟩ = some (.slice ka n kcap) ∧ w'.cell? ⟨b, 2, none⟩ = some (.slice va n vcap)) :=
            fun w' h => ⟨cell_eq (h.at hb' hnbS) rfl, cell_eq (h.at hb' hnbS) rfl⟩
          have C1 : Hid _ := first_ins (X1 := .string key) (i := i) (n := n) hk1 (by simp [hn]) hpe (by omega) (by intro u hu; obtain ⟨p, _, rfl⟩ := List.mem_map.1 hu; rfl) rfl
          have C2 : Hid _ := second_ins (X2 := .string value) (i := i) (n := n) (nkf := kf) hv1 (by simp [hn]) hpe (by omega) hdkv (by intro u hu; obtain ⟨p, _, rfl⟩ := List.mem_map.1 hu; rfl) rfl
          have HN : Hid (∀ w', Fr (kf ++ vf) wp w' → w'.cell? ⟨b, 1, none⟩ = some (.slice ka n kcap) ∧ w'.cell? ⟨b, 2, none⟩ = some (.slice va n vcap) ∧ w'.frozen? ⟨b, 1, none⟩ = false ∧ w'.frozen? ⟨b, 2, none⟩ = false) := fun w' h => node_two hb' hnbS h
          have HE : Hid (wp.heap[b]? = some (.cells #[.int .u64 0, .slice ka n kcap, .slice va n vcap, .slice none 0 0] 44 (0, 0)) ∧ (b :: (kf ++ vf)).Nodup ∧ (∀ x ∈ vf, x < wp.heap.size) ∧ (∀ x ∈ vf, x ∉ kf) ∧ b ∉ kf ++ vf) := ⟨hb', hnd3, hv1.lt, hdkv, hnbS⟩
          have HIN : Hid (pos key m = i ∧ m.length = n) := ⟨hi, hn⟩
          clear hB1 hB2 hB3 hB4 hB5 hB6 hB7 hB8 hB9 hh hfr hb' hk1 hv1 hnd3 hdkv hnbS hi hn HNS HC q42 hb1 hb2 hb3
          go_cut [] (fun w' => ∃ g1 c1 g2 c2, w'.heap[b]? = some (.cells #[.int .u64 0, .slice (some ⟨g1, 0, none⟩) (n + 1) c1, .slice (some ⟨g2, 0, none⟩) (n + 1) c2, .slice none 0 0] 44 (0, 0)) ∧
            SlRow w' 9 (.slice (some ⟨g1, 0, none⟩) (n + 1) c1) (putIn (m.map fun p => .string p.1) i (.string key)) [g1] ∧ SlRow w' 9 (.slice (some ⟨g2, 0, none⟩) (n + 1) c2) (putIn (m.map fun p => .string p.2) i (.string value)) [g2] ∧
            (g1 ∈ kf ∨ wp.heap.size ≤ g1) ∧ (g2 ∈ vf ∨ wp.heap.size ≤ g2) ∧ g1 ≠ g2 ∧ g1 ≠ b ∧ g2 ≠ b ∧ Fr (b :: (kf ++ vf)) wp w')
          case first =>
            refine wp_region_noPanic ?_
            refine wp_region_X (fun w' => w'.cell? ⟨b, 1, none⟩ = some (.slice ka n kcap) ∧ w'.cell? ⟨b, 2, none⟩ = some (.slice va n vcap)) [20, 23] (by kernel_rfl) (K0.out _ (Fr.refl _ wp).drew) (fun hS0 => ?_)
            refine wpAnyX_take0 0 (v := ?v0) rfl (by kernel_rfl) (fun _ _ _ h => h) (fun _ => hS0) (Or.inl ⟨by rfl, ?y0⟩) ?_
            case y0 => (intro w; go_simp; (try with_reducible rfl))
            try simp only [Act.put, List.setIfInBounds_toArray, List.set_cons_zero, List.set_cons_succ]
            refine wpAnyX_take0 1 (v := ?v1) rfl (by kernel_rfl) (fun _ _ _ h => h) (fun _ => hS0) (Or.inl ⟨by rfl, ?y1⟩) ?_
            case y1 => (intro w; go_simp; (try with_reducible rfl))
            try simp only [Act.put, List.setIfInBounds_toArray, List.set_cons_zero, List.set_cons_succ]
            refine wpAnyX_take0 2 (v := ?v2) rfl (by kernel_rfl) (fun _ _ _ h => h) (fun _ => hS0) (Or.inl ⟨by rfl, ?y2⟩) ?_
            case y2 => (intro w; go_simp; (try with_reducible rfl))
            try simp only [Act.put, List.setIfInBounds_toArray, List.set_cons_zero, List.set_cons_succ]
            refine wpAnyX_take0 3 (v := ?v3) rfl (by kernel_rfl) (fun _ _ _ h => h) (fun _ => hS0) (Or.inl ⟨by rfl, ?y3⟩) ?_
            case y3 => (intro w; go_simp; (try with_reducible rfl))
            try simp only [Act.put, List.setIfInBounds_toArray, List.set_cons_zero, List.set_cons_succ]
            refine wpAnyX_take0 4 (v := ?v4) rfl (by kernel_rfl) (fun _ _ _ h => h) (fun _ => hS0) (Or.inl ⟨by rfl, ?y4⟩) ?_
            case y4 => (intro w; go_simp; (try with_reducible rfl))
            try simp only [Act.put, List.setIfInBounds_toArray, List.set_cons_zero, List.set_cons_succ]
            refine wpAnyX_take 5 (v := ?v5) rfl (by kernel_rfl) (fun _ _ _ h => h) hS0 (Or.inl ⟨by rfl, ?y5⟩) ?_
            case y5 => (intro w hSw; (try dsimp only at hSw); go_simp; (try with_reducible rfl))
            try simp only [Act.put, List.setIfInBounds_toArray, List.set_cons_zero, List.set_cons_succ]
            refine wpAnyX_take0 6 (v := ?v6) rfl (by kernel_rfl) (fun _ _ _ h => h) (fun _ => hS0) (Or.inl ⟨by rfl, ?y6⟩) ?_
            case y6 => (intro w; go_simp; (try with_reducible rfl))
            try simp only [Act.put, List.setIfInBounds_toArray, List.set_cons_zero, List.set_cons_succ]
            refine wpAnyX_take0 7 (v := ?v7) rfl (by kernel_rfl) (fun _ _ _ h => h) (fun _ => hS0) (Or.inl ⟨by rfl, ?y7⟩) ?_
            case y7 => (intro w; go_simp; (try with_reducible rfl))
            try simp only [Act.put, List.setIfInBounds_toArray, List.set_cons_zero, List.set_cons_succ]
            refine wpAnyX_take0 10 (v := ?v10) rfl (by kernel_rfl) (fun _ _ _ h => h) (fun _ => hS0) (Or.inl ⟨by rfl, ?y10⟩) ?_
            case y10 => (intro w; go_simp; (try with_reducible rfl))
            try simp only [Act.put, List.setIfInBounds_toArray, List.set_cons_zero, List.set_cons_succ]
            refine wpAnyX_take0 11 (v := ?v11) rfl (by kernel_rfl) (fun _ _ _ h => h) (fun _ => hS0) (Or.inl ⟨by rfl, ?y11⟩) ?_
            case y11 => (intro w; go_simp; (try with_reducible rfl))
            try simp only [Act.put, List.setIfInBounds_toArray, List.set_cons_zero, List.set_cons_succ]
            refine wpAnyX_take0 12 (v := ?v12) rfl (by kernel_rfl) (fun _ _ _ h => h) (fun _ => hS0) (Or.inl ⟨by rfl, ?y12⟩) ?_
            case y12 => (intro w; go_simp; (try with_reducible rfl))
            try simp only [Act.put, List.setIfInBounds_toArray, List.set_cons_zero, List.set_cons_succ]
            refine wpAnyX_take 13 (v := ?v13) rfl (by kernel_rfl) (fun _ _ _ h => h) hS0 (Or.inl ⟨by rfl, ?y13⟩) ?_
            case y13 => (intro w hSw; (try dsimp only at hSw); go_simp; (try with_reducible rfl))
            try simp only [Act.put, List.setIfInBounds_toArray, List.set_cons_zero, List.set_cons_succ]
            refine wpAnyX_take0 14 (v := ?v14) rfl (by kernel_rfl) (fun _ _ _ h => h) (fun _ => hS0) (Or.inl ⟨by rfl, ?y14⟩) ?_
            case y14 => (intro w; go_simp; (try with_reducible rfl))
            try simp only [Act.put, List.setIfInBounds_toArray, List.set_cons_zero, List.set_cons_succ]
            refine wpAnyX_take0 15 (v := ?v15) rfl (by kernel_rfl) (fun _ _ _ h => h) (fun _ => hS0) (Or.inl ⟨by rfl, ?y15⟩) ?_
            case y15 => (intro w; go_simp; (try with_reducible rfl))
            try simp only [Act.put, List.setIfInBounds_toArray, List.set_cons_zero, List.set_cons_succ]
            refine wpAnyX_either 8 16 rfl rfl (by kernel_rfl) (fun K hK => ?_) (fun K hK => ?_)
            · go_simp
              refine hK.out _ _ (fun _ => K0.out _ (fr_a1 _ _ _)) ?_
              clear hK K
              try simp only [Act.put, List.setIfInBounds_toArray, List.set_cons_zero, List.set_cons_succ]
              refine wpAnyX_either 9 16 rfl rfl (by kernel_rfl) (fun K hK => ?_) (fun K hK => ?_)
              · go_simp
                refine (C1.out _ wp.heap.size (fr_a1 _ _ _) (heap_alloc_new wp _) (Nat.le_refl _)).mono ?_
                rintro e w1 ⟨g1, cap1, rfl, hrow1, hg1, hF1, hfr1⟩
                refine hK.out _ _ (fun _ => K0.out _ (hF1.mono (fun x hx => List.mem_append_left _ hx))) ?_
                clear hK K
                try simp only [Act.put, List.setIfInBounds_toArray, List.set_cons_zero, List.set_cons_succ]
                refine wpAnyX_only 16 rfl (by kernel_rfl) (fun K hK => ?_)
                go_simp
                refine hK.out _ _ (fun _ => K0.out _ ((hF1.alloc _).mono (fun x hx => List.mem_append_left _ hx))) ?_
                clear hK K
                try simp only [Act.put, List.setIfInBounds_toArray, List.set_cons_zero, List.set_cons_succ]
                refine wpAnyX_only 17 rfl (by kernel_rfl) (fun K hK => ?_)
                go_simp
                refine (C2.out _ w1.heap.size (hF1.step ((Fr.refl kf w1).alloc _)) (heap_alloc_new w1 _) hF1.size).mono ?_
                rintro e w2 ⟨g2, cap2, rfl, hrow2, hg2, hF2, hfr2⟩
                refine hK.out _ _ (fun _ => K0.out _ hF2) ?_
                clear hK K
                try simp only [Act.put, List.setIfInBounds_toArray, List.set_cons_zero, List.set_cons_succ]
                obtain ⟨hq1, hq2, hq3, hq4⟩ := HN.out _ hF2
                refine wpAnyX_take0 18 (v := ?v18) rfl (by kernel_rfl) (fun _ _ _ h => h) (fun _ => K0.out _ hF2) (Or.inl ⟨by rfl, ?y18⟩) ?_
                case y18 => (intro w; go_simp; (try with_reducible rfl))
                try simp only [Act.put, List.setIfInBounds_toArray, List.set_cons_zero, List.set_cons_succ]
                refine wpAnyX_take0 19 (v := ?v19) rfl (by kernel_rfl) (fun _ _ _ h => h) (fun _ => K0.out _ hF2) (Or.inl ⟨by rfl, ?y19⟩) ?_
                case y19 => (intro w; go_simp; (try with_reducible rfl))
                try simp only [Act.put, List.setIfInBounds_toArray, List.set_cons_zero, List.set_cons_succ]
                refine wpAnyX_only 20 rfl (by kernel_rfl) (fun K hK => ?_)
                go_simp
                refine hK.out _ _ (fun h => by cases h) ?_
                clear hK K
                try simp only [Act.put, List.setIfInBounds_toArray, List.set_cons_zero, List.set_cons_succ]
                refine wpAnyX_take0 21 (v := ?v21) rfl (by kernel_rfl) (fun _ _ _ h => h) (fun h => by cases h) (Or.inl ⟨by rfl, ?y21⟩) ?_
                case y21 => (intro w; go_simp; (try with_reducible rfl))
                try simp only [Act.put, List.setIfInBounds_toArray, List.set_cons_zero, List.set_cons_succ]
                refine wpAnyX_take0 22 (v := ?v22) rfl (by kernel_rfl) (fun _ _ _ h => h) (fun h => by cases h) (Or.inl ⟨by rfl, ?y22⟩) ?_
                case y22 => (intro w; go_simp; (try with_reducible rfl))
                try simp only [Act.put, List.setIfInBounds_toArray, List.set_cons_zero, List.set_cons_succ]
                refine wpAnyX_only 23 rfl (by kernel_rfl) (fun K hK => ?_)
                go_simp
                refine hK.out _ _ (fun h => by cases h) ?_
                clear hK K
                try simp only [Act.put, List.setIfInBounds_toArray, List.set_cons_zero, List.set_cons_succ]
                refine wpAnyX_done (by kernel_rfl) ?_ _
                refine NoPanic.normal ?_
                go_wp2
                go_meet
                case rel =>
                  obtain ⟨hE1, hE2, hE3, hE4, hE5⟩ := HE.out
                  have hb21 := hfr2.block g1 (Nat.lt_of_lt_of_le (hrow1.lt g1 (by simp)) (by simp)) (fun hx => by rcases hg1 with h | h; exact hE4 g1 hx h; exact absurd (hE3 g1 hx) (by omega))
                  obtain ⟨q1, q2, q3, q4, q5, q6, q7⟩ := two_ins hE1 hrow1 hg1 (hb21.trans (Below.heap_alloc w1 _ g1 (hrow1.lt g1 (by simp)))) hF1.size (by simp) hrow2 hg2 hF2 hE2 hE3
                  exact ⟨g1, cap1, g2, cap2, q1, q2, q3, hg1, (by rcases hg2 with h | h; exact .inl h; exact .inr (by have := hF1.size; simp at h ⊢; omega)), q4, q5, q6, q7⟩
              · go_simp
                refine hK.out _ _ (fun _ => K0.out _ (fr_a2 _ _ _ _)) ?_
                clear hK K
                try simp only [Act.put, List.setIfInBounds_toArray, List.set_cons_zero, List.set_cons_succ]
                refine wpAnyX_only 9 rfl (by kernel_rfl) (fun K hK => ?_)
                go_simp
                refine (C1.out _ wp.heap.size (fr_a2 _ _ _ _) (heap_alloc2_old wp _ _) (Nat.le_refl _)).mono ?_
                rintro e w1 ⟨g1, cap1, rfl, hrow1, hg1, hF1, hfr1⟩
                refine hK.out _ _ (fun _ => K0.out _ (hF1.mono (fun x hx => List.mem_append_left _ hx))) ?_
                clear hK K
                try simp only [Act.put, List.setIfInBounds_toArray, List.set_cons_zero, List.set_cons_succ]
                refine wpAnyX_only 17 rfl (by kernel_rfl) (fun K hK => ?_)
                go_simp
                refine (C2.out _ (wp.heap.size + 1) (hF1.step (Fr.refl kf w1)) (hfr1.at (heap_alloc2_new wp _ _) (fun hx => absurd (hnkl _ hx) (by omega))) (by omega)).mono ?_
                rintro e w2 ⟨g2, cap2, rfl, hrow2, hg2, hF2, hfr2⟩
                refine hK.out _ _ (fun _ => K0.out _ hF2) ?_
                clear hK K
                try simp only [Act.put, List.setIfInBounds_toArray, List.set_cons_zero, List.set_cons_succ]
                obtain ⟨hq1, hq2, hq3, hq4⟩ := HN.out _ hF2
                refine wpAnyX_take0 18 (v := ?v18) rfl (by kernel_rfl) (fun _ _ _ h => h) (fun _ => K0.out _ hF2) (Or.inl ⟨by rfl, ?y18⟩) ?_
                case y18 => (intro w; go_simp; (try with_reducible rfl))
                try simp only [Act.put, List.setIfInBounds_toArray, List.set_cons_zero, List.set_cons_succ]
                refine wpAnyX_take0 19 (v := ?v19) rfl (by kernel_rfl) (fun _ _ _ h => h) (fun _ => K0.out _ hF2) (Or.inl ⟨by rfl, ?y19⟩) ?_
                case y19 => (intro w; go_simp; (try with_reducible rfl))
                try simp only [Act.put, List.setIfInBounds_toArray, List.set_cons_zero, List.set_cons_succ]
                refine wpAnyX_only 20 rfl (by kernel_rfl) (fun K hK => ?_)
                go_simp
                refine hK.out _ _ (fun h => by cases h) ?_
                clear hK K
                try simp only [Act.put, List.setIfInBounds_toArray, List.set_cons_zero, List.set_cons_succ]
                refine wpAnyX_take0 21 (v := ?v21) rfl (by kernel_rfl) (fun _ _ _ h => h) (fun h => by cases h) (Or.inl ⟨by rfl, ?y21⟩) ?_
                case y21 => (intro w; go_simp; (try with_reducible rfl))
                try simp only [Act.put, List.setIfInBounds_toArray, List.set_cons_zero, List.set_cons_succ]
                refine wpAnyX_take0 22 (v := ?v22) rfl (by kernel_rfl) (fun _ _ _ h => h) (fun h => by cases h) (Or.inl ⟨by rfl, ?y22⟩) ?_
                case y22 => (intro w; go_simp; (try with_reducible rfl))
                try simp only [Act.put, List.setIfInBounds_toArray, List.set_cons_zero, List.set_cons_succ]
                refine wpAnyX_only 23 rfl (by kernel_rfl) (fun K hK => ?_)
                go_simp
                refine hK.out _ _ (fun h => by cases h) ?_
                clear hK K
                try simp only [Act.put, List.setIfInBounds_toArray, List.set_cons_zero, List.set_cons_succ]
                refine wpAnyX_done (by kernel_rfl) ?_ _
                refine NoPanic.normal ?_
                go_wp2
                go_meet
                case rel =>
                  obtain ⟨hE1, hE2, hE3, hE4, hE5⟩ := HE.out
                  have hb21 := hfr2.block g1 (Nat.lt_of_lt_of_le (hrow1.lt g1 (by simp)) (Nat.le_refl _)) (fun hx => by rcases hg1 with h | h; exact hE4 g1 hx h; exact absurd (hE3 g1 hx) (by omega))
                  obtain ⟨q1, q2, q3, q4, q5, q6, q7⟩ := two_ins hE1 hrow1 hg1 (hb21.trans rfl) hF1.size (Nat.le_refl _) hrow2 hg2 hF2 hE2 hE3
                  exact ⟨g1, cap1, g2, cap2, q1, q2, q3, hg1, (by rcases hg2 with h | h; exact .inl h; exact .inr (by have := hF1.size; simp at h ⊢; omega)), q4, q5, q6, q7⟩
            · go_simp
              refine hK.out _ _ (fun _ => K0.out _ (fr_a1 _ _ _)) ?_
              clear hK K
              try simp only [Act.put, List.setIfInBounds_toArray, List.set_cons_zero, List.set_cons_succ]
              refine wpAnyX_only 8 rfl (by kernel_rfl) (fun K hK => ?_)
              go_simp
              refine hK.out _ _ (fun _ => K0.out _ (fr_a2 _ _ _ _)) ?_
              clear hK K
              try simp only [Act.put, List.setIfInBounds_toArray, List.set_cons_zero, List.set_cons_succ]
              refine wpAnyX_only 9 rfl (by kernel_rfl) (fun K hK => ?_)
              go_simp
              refine (C1.out _ (wp.heap.size + 1) (fr_a2 _ _ _ _) (heap_alloc2_new wp _ _) (by omega)).mono ?_
              rintro e w1 ⟨g1, cap1, rfl, hrow1, hg1, hF1, hfr1⟩
              refine hK.out _ _ (fun _ => K0.out _ (hF1.mono (fun x hx => List.mem_append_left _ hx))) ?_
              clear hK K
              try simp only [Act.put, List.setIfInBounds_toArray, List.set_cons_zero, List.set_cons_succ]
              refine wpAnyX_only 17 rfl (by kernel_rfl) (fun K hK => ?_)
              go_simp
              refine (C2.out _ wp.heap.size (hF1.step (Fr.refl kf w1)) (hfr1.at (heap_alloc2_old wp _ _) (fun hx => absurd (hnkl _ hx) (by omega))) (Nat.le_refl _)).mono ?_
              rintro e w2 ⟨g2, cap2, rfl, hrow2, hg2, hF2, hfr2⟩
              refine hK.out _ _ (fun _ => K0.out _ hF2) ?_
              clear hK K
              try simp only [Act.put, List.setIfInBounds_toArray, List.set_cons_zero, List.set_cons_succ]
              obtain ⟨hq1, hq2, hq3, hq4⟩ := HN.out _ hF2
              refine wpAnyX_take0 18 (v := ?v18) rfl (by kernel_rfl) (fun _ _ _ h => h) (fun _ => K0.out _ hF2) (Or.inl ⟨by rfl, ?y18⟩) ?_
              case y18 => (intro w; go_simp; (try with_reducible rfl))
              try simp only [Act.put, List.setIfInBounds_toArray, List.set_cons_zero, List.set_cons_succ]
              refine wpAnyX_take0 19 (v := ?v19) rfl (by kernel_rfl) (fun _ _ _ h => h) (fun _ => K0.out _ hF2) (Or.inl ⟨by rfl, ?y19⟩) ?_
              case y19 => (intro w; go_simp; (try with_reducible rfl))
              try simp only [Act.put, List.setIfInBounds_toArray, List.set_cons_zero, List.set_cons_succ]
              refine wpAnyX_only 20 rfl (by kernel_rfl) (fun K hK => ?_)
              go_simp
              refine hK.out _ _ (fun h => by cases h) ?_
              clear hK K
              try simp only [Act.put, List.setIfInBounds_toArray, List.set_cons_zero, List.set_cons_succ]
              refine wpAnyX_take0 21 (v := ?v21) rfl (by kernel_rfl) (fun _ _ _ h => h) (fun h => by cases h) (Or.inl ⟨by rfl, ?y21⟩) ?_
              case y21 => (intro w; go_simp; (try with_reducible rfl))
              try simp only [Act.put, List.setIfInBounds_toArray, List.set_cons_zero, List.set_cons_succ]
              refine wpAnyX_take0 22 (v := ?v22) rfl (by kernel_rfl) (fun _ _ _ h => h) (fun h => by cases h) (Or.inl ⟨by rfl, ?y22⟩) ?_
              case y22 => (intro w; go_simp; (try with_reducible rfl))
              try simp only [Act.put, List.setIfInBounds_toArray, List.set_cons_zero, List.set_cons_succ]
              refine wpAnyX_only 23 rfl (by kernel_rfl) (fun K hK => ?_)
              go_simp
              refine hK.out _ _ (fun h => by cases h) ?_
              clear hK K
              try simp only [Act.put, List.setIfInBounds_toArray, List.set_cons_zero, List.set_cons_succ]
              refine wpAnyX_done (by kernel_rfl) ?_ _
              refine NoPanic.normal ?_
              go_wp2
              go_meet
              case rel =>
                obtain ⟨hE1, hE2, hE3, hE4, hE5⟩ := HE.out
                have hb21 := hfr2.block g1 (Nat.lt_of_lt_of_le (hrow1.lt g1 (by simp)) (Nat.le_refl _)) (fun hx => by rcases hg1 with h | h; exact hE4 g1 hx h; exact absurd (hE3 g1 hx) (by omega))
                obtain ⟨q1, q2, q3, q4, q5, q6, q7⟩ := two_ins hE1 hrow1 hg1 (hb21.trans rfl) hF1.size (Nat.le_refl _) hrow2 hg2 hF2 hE2 hE3
                exact ⟨g1, cap1, g2, cap2, q1, q2, q3, hg1, (by rcases hg2 with h | h; exact .inl h; exact .inr (by have := hF1.size; simp at h ⊢; omega)), q4, q5, q6, q7⟩
          case rest =>
            clear K0 C1 C2 HN hnkl
            obtain ⟨g1, c1, g2, c2, h7, r1, r2, hg1, hg2, h12, h1n, h2n, hF7⟩ := hcut
            obtain ⟨w7, rfl⟩ : ∃ w7 : World, w7 = wc := ⟨_, rfl⟩
            obtain ⟨hB1, hB2, hB3, hB4, hB5, hB6, hB7, hB8, hB9⟩ := HB.out
            obtain ⟨hh, hfr⟩ := HH.out
            have hsb1 : SB wp sb (ptr rb) := hB4.same hh
            have hsb7 : SB w7 sb (ptr rb) := hsb1.fr hF7 (by simpa using hB5)
            obtain ⟨z7, hsb7⟩ := hsb7
            have s17 : w7.cell? ⟨sb, 1, none⟩ = some (.int .i64 z7) := cell_eq hsb7 rfl
            have f17 : w7.frozen? ⟨sb, 1, none⟩ = false := frozen_of_row w7 sb 1 _ _ hsb7
            obtain ⟨hpi, hmn⟩ := HIN.out
            have HFIN : Hid (∀ z', PutFin sb fp M key value w (w7.setCell ⟨sb, 1, none⟩ (.int .i64 z'))) := fun z' => by
              subst hpi
              exact leaf_done z' hsb1 hB5 (by omega) hB7 hB8 (hB9.same hh hfr) h7 r1 r2 hg1 hg2 h12 h1n h2n hF7
            clear h7 r1 r2 hg1 hg2 h12 h1n h2n hF7 hB1 hB2 hB3 hB4 hB5 hB6 hB7 hB8 hB9 hh hfr hsb1 hsb7 hpi hmn HE HB HH HIN
            go_wp2
            exact bodyPost_ret (v := .tuple #[]) (by simp [results, Try.results11, go_sem]) rfl ⟨rfl, HFIN.out _⟩
        · obtain ⟨hcne, hkr⟩ := hkid
          obtain ⟨A, c, B, rfl, hA⟩ : ∃ A c B, K = A ++ c :: B ∧ A.length = pos key e := by
            refine ⟨K.take (pos key e), K[pos key e]'(by omega), K.drop (pos key e + 1), ?_, by simp; omega⟩
            rw [← List.drop_eq_getElem_cons, List.take_append_drop]
          obtain ⟨n', hcr, hcase⟩ : ∃ n', Rep d' n' wr c.1 c.2.1 c.2.2 ∧ (n' ≤ 31 ∨ (n' = 32 ∧ e.length ≤ 31 ∧ 2 * (d' + 1) + 1 ≤ gk)) := by
            rcases hflag with ⟨h1, h2⟩ | ⟨_, h2⟩
            · obtain ⟨n', hn'⟩ := hKk c (by simp)
              have := hn'.le
              refine ⟨n', hn', ?_⟩
              by_cases h : n' ≤ 31
              · exact .inl h
              · exact .inr ⟨by omega, h1, h2⟩
            · obtain ⟨n', h3, hn'⟩ := h2 c (by rw [← hA]; simp)
              exact ⟨n', hn', .inl h3⟩
          have hgk : 2 * (d' + 1) ≤ gk := by rcases hflag with ⟨_, h⟩ | ⟨h, _⟩ <;> omega
          obtain ⟨xg, xcap, cur, hcv, hxg, -⟩ := hkr.form (by simp)
          have hcl : (List.map ptr (List.map (fun x : Kid => x.1) (A ++ c :: B))).length = e.length + 1 := by simpa using hKl
          rw [hcl] at hcv
          subst hcv
          have hcell : wr.cell? ⟨xg, pos key e, none⟩ = some (ptr c.1) := hkr.cell _ _ (by rw [← hA]; simp)
          obtain ⟨ca, ccap, hc0, hc1⟩ := hcr.cells
          have hc32 := hcr.le
          have HB : Hid (Node wr b e (some ((A ++ c :: B).map (·.1))) f0 ∧ (A ++ c :: B).length = e.length + 1 ∧ (∀ c' ∈ A ++ c :: B, ∃ n', Rep d' n' wr c'.1 c'.2.1 c'.2.2) ∧ Rep d' n' wr c.1 c.2.1 c.2.2 ∧ A.length = pos key e ∧ SB wr sb (ptr rb) ∧ sb ∉ f0 ++ (A ++ c :: B).flatMap (·.2.1) ∧ (f0 ++ (A ++ c :: B).flatMap (·.2.1)).Nodup ∧ Srt (cont e (A ++ c :: B)) ∧ found key e = false ∧ Wand sb (ptr rb) key value (PutFin sb fp M key value w) wr (d' + 1) b (f0 ++ (A ++ c :: B).flatMap (·.2.1)) (cont e (A ++ c :: B)) ∧ e.length ≤ 32) :=
            ⟨⟨kv, vv, _, kf, vf, cf, hb, hk, hv, ⟨hcne, hkr⟩, hf0⟩, hKl, hKk, hcr, hA, hsbF, hsf, hnd, hsm, hf, hW, hel⟩
          have HC : Hid (∀ w1 : World, w1.heap = wr.heap → w1.cell? ⟨b, 3, none⟩ = some (.slice (some ⟨xg, 0, none⟩) (e.length + 1) xcap) ∧ w1.cell? ⟨xg, pos key e, none⟩ = some (ptr c.1) ∧ w1.cell? ⟨c.1, 0, none⟩ = some (.int .u64 0) ∧ w1.cell? ⟨c.1, 1, none⟩ = some (.slice ca n' ccap) ∧ w1.cell? ⟨sb, 2, none⟩ = some (.int .u64 0)) := fun w1 hh => by
            have tr : ∀ (a : Addr) (v : Value), wr.cell? a = some v → w1.cell? a = some v := fun a v h => (World.cell?_of_block (w := wr) (w' := w1) (a := a) (by rw [hh])).trans h
            exact ⟨tr _ _ hb3, tr _ _ hcell, tr _ _ hc0, tr _ _ hc1, tr _ _ (cell_eq hSB' rfl)⟩
          clear hW hk hv hnd hsm hse hf hsf hsbF hSB' hsbf0 hf0nd hb hf0 hKl hKk hcr hflag hkr hcl hcell hc0 hc1 hcne hxg hb2 hb3
          obtain ⟨i, hi⟩ : ∃ i, pos key e = i := ⟨_, rfl⟩
          obtain ⟨len, hlen⟩ : ∃ len, e.length = len := ⟨_, rfl⟩
          rw [hi] at HNS hpe HC hA
          rw [hlen] at HC hel hpe hcase
          obtain ⟨cb, hcb⟩ : ∃ cb, c.1 = cb := ⟨_, rfl⟩
          rw [hcb] at HC
          have HIN : Hid (pos key e = i ∧ e.length = len ∧ c.1 = cb) := ⟨hi, hlen, hcb⟩
          clear hi hlen hcb hA
          have hpi : (i : Int) ≤ (len : Int) := by omega
          by_cases h32 : n' = 32
          · have hc31 : len ≤ 31 ∧ 2 * (d' + 1) + 1 ≤ gk := by rcases hcase with h | h; omega; exact h.2
            subst h32
            clear hcase hgk
            obtain ⟨hc31, hgk⟩ := hc31
            have CS : Hid (∀ w1 : World, w1.heap = wr.heap → Fr [] wr w1 → Calls Try.prog 20 #[ptr sb, ptr b, .int .i64 i] w1 fun r w2 => r = .returned (.tuple #[]) ∧ PutRel sb (ptr rb) key value (PutFin sb fp M key value w) (2 * (d' + 1)) (ptr b) w2) := fun w1 hh hfr => by
              obtain ⟨hB1, hB2, hB3, hB4, hB5, hB6, hB7, hB8, hB9, hB10, hB11, hB12⟩ := HB.out
              obtain ⟨hi, hlen, hcb⟩ := HIN.out
              subst hi
              have hsb1 : SB w1 sb (ptr rb) := hB6.same hh
              obtain ⟨z1, hz1⟩ := hsb1
              have kp : ∀ k : Nat, w1.heap[k]? = wr.heap[k]? := fun k => by rw [hh]
              refine (split_rep sb b (pos key e) d' w1 (ptr rb) z1 e A c B f0 hz1 (hB1.keep (fun k _ => kp k)) (by omega) hB2 (fun c' hc' => ?_) (hB4.keep (fun k _ => kp k)) hB5 hB8).mono ?_
              · obtain ⟨n'', hn''⟩ := hB3 c' hc'
                exact ⟨n'', hn''.keep (fun k _ => kp k)⟩
              · rintro r w2 ⟨rfl, kv', l, r', f0', a1, a2, a3, a4, a5, a6, a7, a8⟩
                exact ⟨rfl, put_split ⟨z1, hz1⟩ hB7 (by omega) hB2 hB5 hB10 hB9 (hB11.same hh hfr) a1 a2 a3 a4 a5 a6 a7 a8⟩
            go_wp2_with (first
              | (go_at_call 22; refine HNS.out.mono ?_; rintro r w1 ⟨rfl, hh, hfr⟩; obtain ⟨p1, p2, p3, p4, p5⟩ := HC.out w1 hh; have HH : Hid (w1.heap = wr.heap ∧ Fr [] wr w1) := ⟨hh, hfr⟩; clear hh hfr)
              | (go_at_call 20; refine (CS.out _ HH.out.1 HH.out.2).mono ?_; rintro r w2 ⟨rfl, hput⟩; have HPUT : Hid (PutRel sb (ptr rb) key value (PutFin sb fp M key value w) (2 * (d' + 1)) (ptr b) w2) := hput; clear hput))
            go_roundg (2 * (d' + 1))
            case measure => omega
            case rel => exact HPUT.out
          · have hn31 : n' ≤ 31 := by omega
            have hne : ((n' : Int) == 32) = false := by simp; omega
            clear hcase
            have CD : Hid (∀ w1 : World, w1.heap = wr.heap → Fr [] wr w1 → PutRel sb (ptr rb) key value (PutFin sb fp M key value w) (2 * d' + 1) (ptr cb) w1) := fun w1 hh hfr => by
              obtain ⟨hB1, hB2, hB3, hB4, hB5, hB6, hB7, hB8, hB9, hB10, hB11, hB12⟩ := HB.out
              obtain ⟨hi, hlen, hcb⟩ := HIN.out
              subst hcb
              have kp : ∀ k : Nat, w1.heap[k]? = wr.heap[k]? := fun k => by rw [hh]
              refine put_down (hB6.same hh) hB7 hB12 hB2 hB5 hB10 hB9 (hB11.same hh hfr) (hB1.keep (fun k _ => kp k)) (fun c' hc' => ?_) (hB4.keep (fun k _ => kp k)) hn31 hB8
              obtain ⟨n'', hn''⟩ := hB3 c' hc'
              exact ⟨n'', hn''.keep (fun k _ => kp k)⟩
            go_wp2_with (first
              | (go_at_call 22; refine HNS.out.mono ?_; rintro r w1 ⟨rfl, hh, hfr⟩; obtain ⟨p1, p2, p3, p4, p5⟩ := HC.out w1 hh; have HH : Hid (w1.heap = wr.heap ∧ Fr [] wr w1) := ⟨hh, hfr⟩; clear hh hfr)
              | (go_at_call 21; refine (own_any sb cb xg i _ p5 p2 p3).mono ?_; rintro r w2 ⟨rfl, q, rfl⟩))
            go_roundg (2 * d' + 1)
            case measure => omega
            case rel => exact (CD.out _ HH.out.1 HH.out.2).drewN q

end Go.Proofs.Qxb6600882a
