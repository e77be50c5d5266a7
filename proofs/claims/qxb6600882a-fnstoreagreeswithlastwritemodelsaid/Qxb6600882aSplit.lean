/-
  (*Store).split: the walk.
-/
import Derived.Test.Qxb6600882aSplitA
namespace Go.Proofs.Qxb6600882a
open Go.RowKit Go.Lib
attribute [local go_sem ↓] Go.wp_at_zero Go.wp_at_succ
set_option linter.unusedSimpArgs false
set_option linter.unusedVariables false

set_option maxHeartbeats 4000000 in
set_option maxRecDepth 100000 in
theorem split_walk (sb nb cb i n : Nat) (w : World) (root : Value) (z : Int) (na nva : Option Addr) (ncap nvcap ng nl nccap kg kcap vg vcap : Nat) (ccv : Value) (e ce : List KV) (cs : List Nat) (cco : Option (List Nat)) (nkf nvf xf : List Nat) (kv : KV)
    (hsb : w.heap[sb]? = some (.cells #[root, .int .i64 z, .int .u64 0] 30 (0, 0)))
    (hnb : w.heap[nb]? = some (.cells #[.int .u64 0, .slice na n ncap, .slice nva n nvcap, .slice (some ⟨ng, 0, none⟩) nl nccap] 44 (0, 0)))
    (hcb : w.heap[cb]? = some (.cells #[.int .u64 0, .slice (some ⟨kg, 0, none⟩) 32 kcap, .slice (some ⟨vg, 0, none⟩) 32 vcap, ccv] 44 (0, 0)))
    (hkn : SlRow w 9 (.slice na n ncap) (e.map fun p => .string p.1) nkf) (hvn : SlRow w 9 (.slice nva n nvcap) (e.map fun p => .string p.2) nvf) (hcn : SlRow w 27 (.slice (some ⟨ng, 0, none⟩) nl nccap) (cs.map ptr) [ng])
    (hkr : SlRow w 9 (.slice (some ⟨kg, 0, none⟩) 32 kcap) (ce.map fun p => .string p.1) [kg]) (hvr : SlRow w 9 (.slice (some ⟨vg, 0, none⟩) 32 vcap) (ce.map fun p => .string p.2) [vg]) (hxr : KidRow w ccv cco xf)
    (hen : e.length = n) (hnl : nl = n + 1) (hn31 : n ≤ 31) (hi : i < nl) (hchild : cs[i]? = some cb) (hce : ce.length = 32) (hcc : ∀ l, cco = some l → l.length = 33) (h16 : ce[16]? = some kv)
    (hnd : (nb :: (nkf ++ (nvf ++ [ng]))).Nodup) (hap : ∀ x ∈ nb :: (nkf ++ (nvf ++ [ng])), x ≠ cb ∧ x ≠ kg ∧ x ≠ vg ∧ x ∉ xf) :
    Calls Try.prog 20 #[ptr sb, ptr nb, .int .i64 i] w fun r w' => r = .returned (.tuple #[]) ∧ ∃ lb rb lf rf g1 c1 g2 c2 g3 c3,
      w'.heap[nb]? = some (.cells #[.int .u64 0, .slice (some ⟨g1, 0, none⟩) (n + 1) c1, .slice (some ⟨g2, 0, none⟩) (n + 1) c2, .slice (some ⟨g3, 0, none⟩) (nl + 1) c3] 44 (0, 0)) ∧
      SlRow w' 9 (.slice (some ⟨g1, 0, none⟩) (n + 1) c1) (putIn (e.map fun p => .string p.1) i (.string kv.1)) [g1] ∧ SlRow w' 9 (.slice (some ⟨g2, 0, none⟩) (n + 1) c2) (putIn (e.map fun p => .string p.2) i (.string kv.2)) [g2] ∧
      SlRow w' 27 (.slice (some ⟨g3, 0, none⟩) (nl + 1) c3) (putIn ((cs.map ptr).set i (ptr lb)) (i + 1) (ptr rb)) [g3] ∧
      (g1 ∈ nkf ∨ w.heap.size ≤ g1) ∧ (g2 ∈ nvf ∨ w.heap.size ≤ g2) ∧ (g3 = ng ∨ w.heap.size ≤ g3) ∧ (nb :: [g1, g2, g3] ++ (lf ++ rf)).Nodup ∧
      Node w' lb (ce.take 16) (cco.map (·.take 17)) lf ∧ Node w' rb (ce.drop 17) (cco.map (·.drop 17)) rf ∧ (∀ x ∈ lf ++ rf, w.heap.size ≤ x) ∧
      Fr (nb :: (nkf ++ (nvf ++ [ng]))) w w' := by
  have lsb := lt_of_block hsb
  have lnb := lt_of_block hnb
  have lcb := lt_of_block hcb
  have s2 : w.cell? ⟨sb, 2, none⟩ = some (.int .u64 0) := cell_eq hsb rfl
  have n3 : w.cell? ⟨nb, 3, none⟩ = some (.slice (some ⟨ng, 0, none⟩) nl nccap) := cell_eq hnb rfl
  have c1 : w.cell? ⟨cb, 1, none⟩ = some (.slice (some ⟨kg, 0, none⟩) 32 kcap) := cell_eq hcb rfl
  have c2 : w.cell? ⟨cb, 2, none⟩ = some (.slice (some ⟨vg, 0, none⟩) 32 vcap) := cell_eq hcb rfl
  have hch : w.cell? ⟨ng, i, none⟩ = some (ptr cb) := hcn.cell i _ (by rw [List.getElem?_map, hchild]; rfl)
  obtain ⟨-, hka, hkb⟩ := hkr.cap
  obtain ⟨-, hva, hvb⟩ := hvr.cap
  obtain ⟨-, hna, hnb'⟩ := hcn.cap
  have K0 : Hid (∀ w', Fr [] w w' → Fr [] w w' ∧ w'.cell? ⟨sb, 2, none⟩ = some (.int .u64 0) ∧ w'.cell? ⟨cb, 1, none⟩ = some (.slice (some ⟨kg, 0, none⟩) 32 kcap) ∧ w'.cell? ⟨cb, 2, none⟩ = some (.slice (some ⟨vg, 0, none⟩) 32 vcap)) :=
    fun w' h => ⟨h, cell_eq (h.at hsb (by simp)) rfl, cell_eq (h.at hcb (by simp)) rfl, cell_eq (h.at hcb (by simp)) rfl⟩
  have CK : Hid (∀ w' o n c, 0 < n → o + n ≤ 32 → Fr [] w w' → Calls Try.prog 25 #[.slice (some ⟨kg, o, none⟩) n c] w' fun e w1 => ∃ g cap, e = .returned (.slice (some ⟨g, 0, none⟩) n cap) ∧ SlRow w1 9 (.slice (some ⟨g, 0, none⟩) n cap) (((ce.drop o).take n).map fun p => .string p.1) [g] ∧ w'.heap.size ≤ g ∧ Fr [] w' w1) :=
    fun w' o n c h0 h1 h => clone_part (f := fun p => p.1) hkr (h.block kg (hkr.lt kg (by simp)) (by simp)) h0 (by omega) (by omega)
  have CV : Hid (∀ w' o n c, 0 < n → o + n ≤ 32 → Fr [] w w' → Calls Try.prog 25 #[.slice (some ⟨vg, o, none⟩) n c] w' fun e w1 => ∃ g cap, e = .returned (.slice (some ⟨g, 0, none⟩) n cap) ∧ SlRow w1 9 (.slice (some ⟨g, 0, none⟩) n cap) (((ce.drop o).take n).map fun p => .string p.2) [g] ∧ w'.heap.size ≤ g ∧ Fr [] w' w1) :=
    fun w' o n c h0 h1 h => clone_part (f := fun p => p.2) hvr (h.block vg (hvr.lt vg (by simp)) (by simp)) h0 (by omega) (by omega)
  have hk16 : (16 : Int) ≤ (kcap : Int) := by omega
  have hv16 : (16 : Int) ≤ (vcap : Int) := by omega
  have hk32 : (32 : Int) ≤ (kcap : Int) := by omega
  have hv32 : (32 : Int) ≤ (vcap : Int) := by omega
  have hw17 : IntKind.i64.wrap 17 = 17 := by decide
  have hk17 : ¬ (kcap = 17) := by omega
  have hv17 : ¬ (vcap = 17) := by omega
  have HRR : Hid (SlRow w 9 (.slice na n ncap) (e.map fun p => .string p.1) nkf ∧ SlRow w 9 (.slice nva n nvcap) (e.map fun p => .string p.2) nvf ∧ SlRow w 27 (.slice (some ⟨ng, 0, none⟩) nl nccap) (cs.map ptr) [ng] ∧ SlRow w 9 (.slice (some ⟨kg, 0, none⟩) 32 kcap) (ce.map fun p => .string p.1) [kg] ∧ SlRow w 9 (.slice (some ⟨vg, 0, none⟩) 32 vcap) (ce.map fun p => .string p.2) [vg]) := ⟨hkn, hvn, hcn, hkr, hvr⟩
  have HND : Hid ((nb :: (nkf ++ (nvf ++ [ng]))).Nodup ∧ (∀ x ∈ nb :: (nkf ++ (nvf ++ [ng])), x ≠ cb ∧ x ≠ kg ∧ x ≠ vg ∧ x ∉ xf)) := ⟨hnd, hap⟩
  have HEN : Hid (e.length = n ∧ ce[16]? = some kv ∧ cs[i]? = some cb ∧ ce.length = 32) := ⟨hen, h16, hchild, hce⟩
  have HNL : Hid (nl = n + 1) := hnl
  have hin : i ≤ n := by omega
  have hnl33 : nl ≤ 32 := by omega
  clear hkn hvn hcn hkr hvr hnd hap hen h16 hchild hnl hce
  go_enter Try.func20, Try.ntmps20
  go_wp2
  go_cut [8] (fun s8 w' => ∃ lb fp, s8 = ptr lb ∧ Node w' lb (ce.take 16) none fp ∧ fp.Nodup ∧ (∀ x ∈ fp, w.heap.size ≤ x) ∧ Fr [] w w')
  case first =>
    go_region_held3 (fun w' => Fr [] w w' ∧ w'.cell? ⟨sb, 2, none⟩ = some (.int .u64 0) ∧ w'.cell? ⟨cb, 1, none⟩ = some (.slice (some ⟨kg, 0, none⟩) 32 kcap) ∧ w'.cell? ⟨cb, 2, none⟩ = some (.slice (some ⟨vg, 0, none⟩) 32 vcap))
      (first | exact K0.out _ (Fr.refl [] w).drew | exact K0.out _ (Fr.step (And.left (by assumption : Fr [] w _ ∧ _ ∧ _ ∧ _)) (by assumption)) | exact K0.out _ (Fr.alloc (And.left (by assumption : Fr [] w _ ∧ _ ∧ _ ∧ _)) _))
      (first | (go_at_call_of 25 kg; refine (CK.out _ 0 16 _ (by omega) (by omega) (And.left (by assumption : Fr [] w _ ∧ _ ∧ _ ∧ _))).mono ?_; rintro e w1 ⟨g1, cap1, rfl, hrow1, hge1, hfr1⟩) | (go_at_call_of 25 vg; refine (CV.out _ 0 16 _ (by omega) (by omega) (And.left (by assumption : Fr [] w _ ∧ _ ∧ _ ∧ _))).mono ?_; rintro e w2 ⟨g2, cap2, rfl, hrow2, hge2, hfr2⟩))
    go_wp2
    go_meet
    case rel =>
      obtain ⟨q1, q2, q3⟩ := fresh_node (w := w.drew) w.heap.size (Nat.le_refl _) hrow1 hge1 hfr1 hrow2 hge2 hfr2
      exact ⟨_, _, rfl, q1, q2, q3, (((Fr.refl [] w).drew.step hfr1).step hfr2).alloc _⟩
  case rest =>
    clear K0
    obtain ⟨lb, lf, rfl, hlb, hlnd, hlge, hfl⟩ := hcut
    obtain ⟨wl, rfl⟩ : ∃ wl : World, wl = wc := ⟨_, rfl⟩
    have K0 : Hid (∀ w', Fr [] wl w' → Fr [] wl w' ∧ w'.cell? ⟨sb, 2, none⟩ = some (.int .u64 0) ∧ w'.cell? ⟨cb, 1, none⟩ = some (.slice (some ⟨kg, 0, none⟩) 32 kcap) ∧ w'.cell? ⟨cb, 2, none⟩ = some (.slice (some ⟨vg, 0, none⟩) 32 vcap)) :=
      fun w' h => ⟨h, cell_eq ((hfl.step h).at hsb (by simp)) rfl, cell_eq ((hfl.step h).at hcb (by simp)) rfl, cell_eq ((hfl.step h).at hcb (by simp)) rfl⟩
    go_wp2
    go_cut [9] (fun s9 w' => ∃ rb fp, s9 = ptr rb ∧ Node w' rb (ce.drop 17) none fp ∧ fp.Nodup ∧ (∀ x ∈ fp, wl.heap.size ≤ x) ∧ Fr [] wl w')
    case first =>
      go_region_held3 (fun w' => Fr [] wl w' ∧ w'.cell? ⟨sb, 2, none⟩ = some (.int .u64 0) ∧ w'.cell? ⟨cb, 1, none⟩ = some (.slice (some ⟨kg, 0, none⟩) 32 kcap) ∧ w'.cell? ⟨cb, 2, none⟩ = some (.slice (some ⟨vg, 0, none⟩) 32 vcap))
        (first | exact K0.out _ (Fr.refl [] wl).drew | exact K0.out _ (Fr.step (And.left (by assumption : Fr [] wl _ ∧ _ ∧ _ ∧ _)) (by assumption)) | exact K0.out _ (Fr.alloc (And.left (by assumption : Fr [] wl _ ∧ _ ∧ _ ∧ _)) _))
        (first | (go_at_call_of 25 kg; refine (CK.out _ 17 15 _ (by omega) (by omega) (hfl.step (And.left (by assumption : Fr [] wl _ ∧ _ ∧ _ ∧ _)))).mono ?_; rintro e w1 ⟨g1, cap1, rfl, hrow1, hge1, hfr1⟩) | (go_at_call_of 25 vg; refine (CV.out _ 17 15 _ (by omega) (by omega) (hfl.step (And.left (by assumption : Fr [] wl _ ∧ _ ∧ _ ∧ _)))).mono ?_; rintro e w2 ⟨g2, cap2, rfl, hrow2, hge2, hfr2⟩))
      go_wp2
      go_meet
      case rel =>
        have hd : (ce.drop 17).take 15 = ce.drop 17 := List.take_of_length_le (by have := HEN.out.2.2.2; simp; omega)
        rw [hd] at hrow1 hrow2
        obtain ⟨q1, q2, q3⟩ := fresh_node (w := wl.drew) wl.heap.size (Nat.le_refl _) hrow1 hge1 hfr1 hrow2 hge2 hfr2
        exact ⟨_, _, rfl, q1, q2, q3, (((Fr.refl [] wl).drew.step hfr1).step hfr2).alloc _⟩
    case rest =>
      clear K0 CK CV
      obtain ⟨rb, rf, rfl, hrb, hrnd, hrge, hfr⟩ := hcut
      obtain ⟨wr, rfl⟩ : ∃ wr : World, wr = wc := ⟨_, rfl⟩
      have hwr : Fr [] w wr := hfl.step hfr
      have hlb' : Node wr lb (ce.take 16) none lf := hlb.keep (fun k hk => hfr.block k (hlb.lt k hk) (by simp))
      have hlr : (lf ++ rf).Nodup := by
        rw [List.nodup_append]
        refine ⟨hlnd, hrnd, fun x hx y hy he => ?_⟩
        have h1 := hlb.lt x hx; have h2 := hrge y hy; omega
      have hge : ∀ x ∈ lf ++ rf, w.heap.size ≤ x := by
        intro x hx
        rcases List.mem_append.1 hx with h | h
        · exact hlge x h
        · have h1 := hrge x h; have h2 := hfl.size; omega
      clear hlb hlnd hlge hrge
      have q42 := run_neq42
      obtain ⟨xa, xn, xcap, hxv⟩ : ∃ xa xn xcap, ccv = .slice xa xn xcap := by
        cases cco with
        | none => exact ⟨none, 0, 0, hxr.1⟩
        | some l => obtain ⟨a, cap, h⟩ := hxr.2.shape; exact ⟨a, _, cap, h⟩
      subst hxv
      have c3 : wr.cell? ⟨cb, 3, none⟩ = some (.slice xa xn xcap) := cell_eq (hwr.at hcb (by simp)) rfl
      have hlbb := hlb'.block
      have hrbb := hrb.block
      have HLR : Hid (Node wr lb (ce.take 16) none lf ∧ Node wr rb (ce.drop 17) none rf ∧ (lf ++ rf).Nodup ∧ (∀ x ∈ lf ++ rf, w.heap.size ≤ x)) := ⟨hlb', hrb, hlr, hge⟩
      have HXR : Hid (KidRow w (.slice xa xn xcap) cco xf) := hxr
      have HCC : Hid (∀ l, cco = some l → l.length = 33) := hcc
      obtain ⟨lkv, lvv, hlbb, hlbm⟩ := hlbb
      obtain ⟨rkv, rvv, hrbb, hrbm⟩ := hrbb
      have glb : w.heap.size ≤ lb := hge lb (List.mem_append_left _ hlbm)
      have grb : w.heap.size ≤ rb := hge rb (List.mem_append_right _ hrbm)
      have hlrne : lb ≠ rb := by
        intro he
        have h := (List.nodup_append.1 hlr).2.2
        exact h lb hlbm rb hrbm he
      clear hlb' hrb hlr hge hxr hcc hlbm hrbm
      go_upto_if 69 with fail
      go_cut [] (fun w' => ∃ lf' rf', Node w' lb (ce.take 16) (cco.map (·.take 17)) lf' ∧ Node w' rb (ce.drop 17) (cco.map (·.drop 17)) rf' ∧ (lf' ++ rf').Nodup ∧ (∀ x ∈ lf' ++ rf', w.heap.size ≤ x) ∧ Fr [] w w')
      case first =>
        cases cco with
        | none =>
          obtain ⟨hx, -⟩ := HXR.out
          have hxa : xa = none := by simp at hx; exact hx.1
          subst hxa
          clear hx
          go_wp2
          go_meet
          case rel => exact ⟨lf, rf, HLR.out.1, HLR.out.2.1, HLR.out.2.2.1, HLR.out.2.2.2, hwr⟩
        | some l =>
          obtain ⟨hlne, hxrow⟩ := HXR.out
          have hll := HCC.out l rfl
          obtain ⟨xg, xcap', cur, hx, _, _, _, _, _, hxf⟩ := hxrow.form (by simpa using hlne)
          have hx' : xa = some ⟨xg, 0, none⟩ ∧ xn = 33 := by simp [hll] at hx; exact ⟨hx.1, hx.2.1⟩
          obtain ⟨rfl, rfl⟩ := hx'
          subst hxf
          obtain ⟨-, hxa, hxb⟩ := hxrow.cap
          have hx17 : (17 : Int) ≤ (xcap : Int) := by omega
          have hx33 : (33 : Int) ≤ (xcap : Int) := by omega
          have hxn17 : ¬ (xcap = 17) := by omega
          have lxg := hxrow.lt xg (by simp)
          have CX : Hid (∀ w' o n c, 0 < n → o + n ≤ 33 → Fr [lb, rb] wr w' → Calls Try.prog 26 #[.slice (some ⟨xg, o, none⟩) n c] w' fun e w1 => ∃ g cap, e = .returned (.slice (some ⟨g, 0, none⟩) n cap) ∧ SlRow w1 27 (.slice (some ⟨g, 0, none⟩) n cap) (((l.drop o).take n).map ptr) [g] ∧ w'.heap.size ≤ g ∧ Fr [] w' w1) :=
            fun w' o n c h0 h1 h => clone_kids hxrow ((h.block xg (by have := hwr.size; omega) (by simp; omega)).trans (hwr.block xg lxg (by simp))) h0 (by omega) (by omega)
          have hcbx : wr.heap[cb]? = some (.cells #[.int .u64 0, .slice (some ⟨kg, 0, none⟩) 32 kcap, .slice (some ⟨vg, 0, none⟩) 32 vcap, .slice (some ⟨xg, 0, none⟩) 33 xcap] 44 (0, 0)) := hwr.at hcb (by simp)
          have hcblr : cb ∉ [lb, rb] := by simp; omega
          have K5 : Hid (∀ w', Fr [lb, rb] wr w' → Fr [lb, rb] wr w' ∧ w'.cell? ⟨cb, 3, none⟩ = some (.slice (some ⟨xg, 0, none⟩) 33 xcap)) :=
            fun w' h => ⟨h, cell_eq (h.at hcbx hcblr) rfl⟩
          have HC5 : Hid (∀ w', Fr [] wr w' → w'.cell? ⟨lb, 3, none⟩ = some (.slice none 0 0) ∧ w'.frozen? ⟨lb, 3, none⟩ = false ∧ w'.cell? ⟨rb, 3, none⟩ = some (.slice none 0 0) ∧ w'.frozen? ⟨rb, 3, none⟩ = false ∧ (∀ v, (w'.setCell ⟨lb, 3, none⟩ v).cell? ⟨rb, 3, none⟩ = some (.slice none 0 0))) :=
            fun w' h => ⟨cell_eq (h.at hlbb (by simp)) rfl, frozen_of_row w' lb 3 _ _ (h.at hlbb (by simp)), cell_eq (h.at hrbb (by simp)) rfl, frozen_of_row w' rb 3 _ _ (h.at hrbb (by simp)), fun v => by
              rw [World.cell?_setCell_other _ _ _ _ (by simp [hlrne])]; exact cell_eq (h.at hrbb (by simp)) rfl⟩
          have HX : Hid (SlRow w 27 (.slice (some ⟨xg, 0, none⟩) 33 xcap) (l.map ptr) [xg] ∧ l.length = 33 ∧ l ≠ []) := ⟨hxrow, hll, hlne⟩
          clear hxrow hll hlne hx HXR HCC
          go_wp2
          go_region_held3 (fun w' => Fr [lb, rb] wr w' ∧ w'.cell? ⟨cb, 3, none⟩ = some (.slice (some ⟨xg, 0, none⟩) 33 xcap))
            (first | exact K5.out _ (Fr.refl [lb, rb] wr).drew | exact K5.out _ (Fr.step (And.left (by assumption : Fr [lb, rb] wr _ ∧ _)) ((by assumption : Fr [] _ _).mono (by simp))) | exact K5.out _ (Fr.setCell (And.left (by assumption : Fr [lb, rb] wr _ ∧ _)) (.inl (by simp)) _))
            (first | (go_at_call 26; have _t := hfr1; refine (CX.out _ 17 16 _ (by omega) (by omega) (And.left (by assumption : Fr [lb, rb] wr _ ∧ _))).mono ?_; rintro e w2 ⟨g2, cap2, rfl, hrow2, hge2, hfr2⟩; obtain ⟨hs1, hs2, hs3, hs4, hs5⟩ := HC5.out w2 (((Fr.refl [] wr).drew.step hfr1).step hfr2)) | (go_at_call 26; refine (CX.out _ 0 17 _ (by omega) (by omega) (And.left (by assumption : Fr [lb, rb] wr _ ∧ _))).mono ?_; rintro e w1 ⟨g1, cap1, rfl, hrow1, hge1, hfr1⟩))
          go_wp2
          go_meet
          case rel =>
            obtain ⟨hX1, hX2, hX3⟩ := HX.out
            have e1 : (l.drop 0).take 17 = l.take 17 := by rw [List.drop_zero]
            have e2 : (l.drop 17).take 16 = l.drop 17 := List.take_of_length_le (by simp; omega)
            rw [e1] at hrow1
            rw [e2] at hrow2
            exact give_kids hwr HLR.out.1 HLR.out.2.1 HLR.out.2.2.1 HLR.out.2.2.2 ((Fr.refl [] wr).drew.step hfr1) hrow1 hge1 hfr2 hrow2 hge2 (by intro h; have := congrArg List.length h; rw [List.length_take, hX2] at this; exact absurd this (by decide)) (by intro h; have := congrArg List.length h; rw [List.length_drop, hX2] at this; exact absurd this (by decide))
      case rest =>
        clear HXR HCC q42 c3 hlbb hrbb HLR hwr hfl hfr
        obtain ⟨lf', rf', hL, hR, hLR, hGE, hF⟩ := hcut
        obtain ⟨w6, rfl⟩ : ∃ w6 : World, w6 = wc := ⟨_, rfl⟩
        obtain ⟨hkn, hvn, hcn, hkr, hvr⟩ := HRR.out
        obtain ⟨hnd, hap⟩ := HND.out
        obtain ⟨hen, h16, hchild, hce⟩ := HEN.out
        have hnb6 : w6.heap[nb]? = _ := hF.at hnb (by simp)
        have hcb6 : w6.heap[cb]? = _ := hF.at hcb (by simp)
        have hkn6 := hkn.fr hF (by simp)
        have hvn6 := hvn.fr hF (by simp)
        have hkr6 := hkr.fr hF (by simp)
        have hvr6 := hvr.fr hF (by simp)
        have hnkl : ∀ x ∈ nkf, x < w6.heap.size := hkn6.lt
        have hnvl : ∀ x ∈ nvf, x < w6.heap.size := hvn6.lt
        have hnd3 : (nb :: (nkf ++ nvf)).Nodup := by
          rw [List.nodup_cons, List.nodup_append] at hnd ⊢
          obtain ⟨h1, h2, h3, h4⟩ := hnd
          refine ⟨fun h => h1 ?_, h2, (List.nodup_append.1 h3).1, fun a ha b hb => h4 a ha b (List.mem_append_left _ hb)⟩
          rcases List.mem_append.1 h with h | h
          · exact List.mem_append_left _ h
          · exact List.mem_append_right _ (List.mem_append_left _ h)
        have hdkv : ∀ x ∈ nvf, x ∉ nkf := fun x hx hk => by
          rw [List.nodup_cons, List.nodup_append] at hnd3
          exact hnd3.2.2.2 x hk x hx rfl
        have hnbS : nb ∉ nkf ++ nvf := (List.nodup_cons.1 hnd3).1
        have hapS : ∀ x ∈ nkf ++ nvf, x ≠ cb ∧ x ≠ kg ∧ x ≠ vg := fun x hx => by
          have h := hap x (List.mem_cons_of_mem _ (by rcases List.mem_append.1 hx with h | h; exact List.mem_append_left _ h; exact List.mem_append_right _ (List.mem_append_left _ h)))
          exact ⟨h.1, h.2.1, h.2.2.1⟩
        have hk16c : (ce.map fun p : KV => Value.string p.1)[16]? = some (.string kv.1) := by rw [List.getElem?_map, h16]; rfl
        have hv16c : (ce.map fun p : KV => Value.string p.2)[16]? = some (.string kv.2) := by rw [List.getElem?_map, h16]; rfl
        have K0 : Hid (∀ w', Fr (nkf ++ nvf) w6 w' → w'.cell? ⟨nb, 1, none⟩ = some (.slice na n ncap) ∧ w'.cell? ⟨nb, 2, none⟩ = some (.slice nva n nvcap) ∧ w'.cell? ⟨cb, 1, none⟩ = some (.slice (some ⟨kg, 0, none⟩) 32 kcap) ∧ w'.cell? ⟨cb, 2, none⟩ = some (.slice (some ⟨vg, 0, none⟩) 32 vcap) ∧ w'.cell? ⟨kg, 16, none⟩ = some (.string kv.1) ∧ w'.cell? ⟨vg, 16, none⟩ = some (.string kv.2)) :=
          fun w' h => ⟨cell_eq (h.at hnb6 hnbS) rfl, cell_eq (h.at hnb6 hnbS) rfl, cell_eq (h.at hcb6 (fun hx => (hapS _ hx).1 rfl)) rfl, cell_eq (h.at hcb6 (fun hx => (hapS _ hx).1 rfl)) rfl,
            (hkr6.fr h (by intro k hk hx; rw [List.mem_singleton.1 hk] at hx; exact (hapS _ hx).2.1 rfl)).cell 16 _ hk16c, (hvr6.fr h (by intro k hk hx; rw [List.mem_singleton.1 hk] at hx; exact (hapS _ hx).2.2 rfl)).cell 16 _ hv16c⟩
        have C1 : Hid _ := first_ins (X1 := .string kv.1) (i := i) (n := n) hkn6 (by simp [hen]) hin (by omega) (by intro u hu; obtain ⟨p, _, rfl⟩ := List.mem_map.1 hu; rfl) rfl
        have C2 : Hid _ := second_ins (X2 := .string kv.2) (i := i) (n := n) (nkf := nkf) hvn6 (by simp [hen]) hin (by omega) hdkv (by intro u hu; obtain ⟨p, _, rfl⟩ := List.mem_map.1 hu; rfl) rfl
        have HN : Hid (∀ w', Fr (nkf ++ nvf) w6 w' → w'.cell? ⟨nb, 1, none⟩ = some (.slice na n ncap) ∧ w'.cell? ⟨nb, 2, none⟩ = some (.slice nva n nvcap) ∧ w'.frozen? ⟨nb, 1, none⟩ = false ∧ w'.frozen? ⟨nb, 2, none⟩ = false) := fun w' h => node_two hnb6 hnbS h
        have HE : Hid (w6.heap[nb]? = some (.cells #[.int .u64 0, .slice na n ncap, .slice nva n nvcap, .slice (some ⟨ng, 0, none⟩) nl nccap] 44 (0, 0)) ∧ (nb :: (nkf ++ nvf)).Nodup ∧ (∀ x ∈ nvf, x < w6.heap.size) ∧ (∀ x ∈ nvf, x ∉ nkf) ∧ nb ∉ nkf ++ nvf) := ⟨hnb6, hnd3, hnvl, hdkv, hnbS⟩
        have HL6 : Hid (Node w6 lb (ce.take 16) (cco.map (·.take 17)) lf' ∧ Node w6 rb (ce.drop 17) (cco.map (·.drop 17)) rf' ∧ (lf' ++ rf').Nodup ∧ (∀ x ∈ lf' ++ rf', w.heap.size ≤ x) ∧ Fr [] w w6) := ⟨hL, hR, hLR, hGE, hF⟩
        clear hL hR hLR hGE hkn hvn hcn hkr hvr hnd hap hen h16 hchild hce hnb6 hcb6 hkn6 hvn6 hkr6 hvr6 hnvl hnd3 hdkv hnbS hapS hk16c hv16c hF hk16 hv16 hk32 hv32 hk17 hv17
        go_wp2
        go_cut [] (fun w' => ∃ g1 c1 g2 c2, w'.heap[nb]? = some (.cells #[.int .u64 0, .slice (some ⟨g1, 0, none⟩) (n + 1) c1, .slice (some ⟨g2, 0, none⟩) (n + 1) c2, .slice (some ⟨ng, 0, none⟩) nl nccap] 44 (0, 0)) ∧
          SlRow w' 9 (.slice (some ⟨g1, 0, none⟩) (n + 1) c1) (putIn (e.map fun p => .string p.1) i (.string kv.1)) [g1] ∧ SlRow w' 9 (.slice (some ⟨g2, 0, none⟩) (n + 1) c2) (putIn (e.map fun p => .string p.2) i (.string kv.2)) [g2] ∧
          (g1 ∈ nkf ∨ w6.heap.size ≤ g1) ∧ (g2 ∈ nvf ∨ w6.heap.size ≤ g2) ∧ g1 ≠ g2 ∧ g1 ≠ nb ∧ g2 ≠ nb ∧ Fr (nb :: (nkf ++ nvf)) w6 w')
        case first =>
          refine wp_region_noPanic ?_
          refine wp_region_X (fun w' => w'.cell? ⟨nb, 1, none⟩ = some (.slice na n ncap) ∧ w'.cell? ⟨nb, 2, none⟩ = some (.slice nva n nvcap) ∧ w'.cell? ⟨cb, 1, none⟩ = some (.slice (some ⟨kg, 0, none⟩) 32 kcap) ∧ w'.cell? ⟨cb, 2, none⟩ = some (.slice (some ⟨vg, 0, none⟩) 32 vcap) ∧ w'.cell? ⟨kg, 16, none⟩ = some (.string kv.1) ∧ w'.cell? ⟨vg, 16, none⟩ = some (.string kv.2)) [32, 35] (by kernel_rfl) (K0.out _ (Fr.refl _ w6).drew) (fun hS0 => ?_)
          refine wpAnyX_take0 0 (v := ?v0) rfl (by kernel_rfl) (fun _ _ _ h => h) (fun _ => hS0) (Or.inl ⟨by rfl, ?y0⟩) ?_
          case y0 => (intro w; go_simp; (try with_reducible rfl))
          try simp only [Act.put, List.setIfInBounds_toArray, List.set_cons_zero, List.set_cons_succ]
          refine wpAnyX_take0 1 (v := ?v1) rfl (by kernel_rfl) (fun _ _ _ h => h) (fun _ => hS0) (Or.inl ⟨by rfl, ?y1⟩) ?_
          case y1 => (intro w; go_simp; (try with_reducible rfl))
          try simp only [Act.put, List.setIfInBounds_toArray, List.set_cons_zero, List.set_cons_succ]
          refine wpAnyX_take0 2 (v := ?v2) rfl (by kernel_rfl) (fun _ _ _ h => h) (fun _ => hS0) (Or.inl ⟨by rfl, ?y2⟩) ?_
          case y2 => (intro w; go_simp; (try with_reducible rfl))
          try simp only [Act.put, List.setIfInBounds_toArray, List.set_cons_zero, List.set_cons_succ]
          refine wpAnyX_take0 3 (v := ?v3) rfl (by kernel_rfl) (fun _ _ _ h => h) (fun _ => hS0) (Or.inl ⟨by rfl, ?y3⟩) ?_
          case y3 => (intro w; go_simp; (try with_reducible rfl))
          try simp only [Act.put, List.setIfInBounds_toArray, List.set_cons_zero, List.set_cons_succ]
          refine wpAnyX_take0 4 (v := ?v4) rfl (by kernel_rfl) (fun _ _ _ h => h) (fun _ => hS0) (Or.inl ⟨by rfl, ?y4⟩) ?_
          case y4 => (intro w; go_simp; (try with_reducible rfl))
          try simp only [Act.put, List.setIfInBounds_toArray, List.set_cons_zero, List.set_cons_succ]
          refine wpAnyX_take 5 (v := ?v5) rfl (by kernel_rfl) (fun _ _ _ h => h) hS0 (Or.inl ⟨by rfl, ?y5⟩) ?_
          case y5 => (intro w hSw; (try dsimp only at hSw); go_simp; (try with_reducible rfl))
          try simp only [Act.put, List.setIfInBounds_toArray, List.set_cons_zero, List.set_cons_succ]
          refine wpAnyX_take0 6 (v := ?v6) rfl (by kernel_rfl) (fun _ _ _ h => h) (fun _ => hS0) (Or.inl ⟨by rfl, ?y6⟩) ?_
          case y6 => (intro w; go_simp; (try with_reducible rfl))
          try simp only [Act.put, List.setIfInBounds_toArray, List.set_cons_zero, List.set_cons_succ]
          refine wpAnyX_take0 7 (v := ?v7) rfl (by kernel_rfl) (fun _ _ _ h => h) (fun _ => hS0) (Or.inl ⟨by rfl, ?y7⟩) ?_
          case y7 => (intro w; go_simp; (try with_reducible rfl))
          try simp only [Act.put, List.setIfInBounds_toArray, List.set_cons_zero, List.set_cons_succ]
          refine wpAnyX_take0 8 (v := ?v8) rfl (by kernel_rfl) (fun _ _ _ h => h) (fun _ => hS0) (Or.inl ⟨by rfl, ?y8⟩) ?_
          case y8 => (intro w; go_simp; (try with_reducible rfl))
          try simp only [Act.put, List.setIfInBounds_toArray, List.set_cons_zero, List.set_cons_succ]
          refine wpAnyX_take0 9 (v := ?v9) rfl (by kernel_rfl) (fun _ _ _ h => h) (fun _ => hS0) (Or.inl ⟨by rfl, ?y9⟩) ?_
          case y9 => (intro w; go_simp; (try with_reducible rfl))
          try simp only [Act.put, List.setIfInBounds_toArray, List.set_cons_zero, List.set_cons_succ]
          refine wpAnyX_take 10 (v := ?v10) rfl (by kernel_rfl) (fun _ _ _ h => h) hS0 (Or.inl ⟨by rfl, ?y10⟩) ?_
          case y10 => (intro w hSw; (try dsimp only at hSw); go_simp; (try with_reducible rfl))
          try simp only [Act.put, List.setIfInBounds_toArray, List.set_cons_zero, List.set_cons_succ]
          refine wpAnyX_take0 11 (v := ?v11) rfl (by kernel_rfl) (fun _ _ _ h => h) (fun _ => hS0) (Or.inl ⟨by rfl, ?y11⟩) ?_
          case y11 => (intro w; go_simp; (try with_reducible rfl))
          try simp only [Act.put, List.setIfInBounds_toArray, List.set_cons_zero, List.set_cons_succ]
          refine wpAnyX_take0 12 (v := ?v12) rfl (by kernel_rfl) (fun _ _ _ h => h) (fun _ => hS0) (Or.inl ⟨by rfl, ?y12⟩) ?_
          case y12 => (intro w; go_simp; (try with_reducible rfl))
          try simp only [Act.put, List.setIfInBounds_toArray, List.set_cons_zero, List.set_cons_succ]
          refine wpAnyX_take 13 (v := ?v13) rfl (by kernel_rfl) (fun _ _ _ h => h) hS0 (Or.inl ⟨by rfl, ?y13⟩) ?_
          case y13 => (intro w hSw; (try dsimp only at hSw); go_simp; (try with_reducible rfl))
          try simp only [Act.put, List.setIfInBounds_toArray, List.set_cons_zero, List.set_cons_succ]
          refine wpAnyX_take0 16 (v := ?v16) rfl (by kernel_rfl) (fun _ _ _ h => h) (fun _ => hS0) (Or.inl ⟨by rfl, ?y16⟩) ?_
          case y16 => (intro w; go_simp; (try with_reducible rfl))
          try simp only [Act.put, List.setIfInBounds_toArray, List.set_cons_zero, List.set_cons_succ]
          refine wpAnyX_take0 17 (v := ?v17) rfl (by kernel_rfl) (fun _ _ _ h => h) (fun _ => hS0) (Or.inl ⟨by rfl, ?y17⟩) ?_
          case y17 => (intro w; go_simp; (try with_reducible rfl))
          try simp only [Act.put, List.setIfInBounds_toArray, List.set_cons_zero, List.set_cons_succ]
          refine wpAnyX_take0 18 (v := ?v18) rfl (by kernel_rfl) (fun _ _ _ h => h) (fun _ => hS0) (Or.inl ⟨by rfl, ?y18⟩) ?_
          case y18 => (intro w; go_simp; (try with_reducible rfl))
          try simp only [Act.put, List.setIfInBounds_toArray, List.set_cons_zero, List.set_cons_succ]
          refine wpAnyX_take 19 (v := ?v19) rfl (by kernel_rfl) (fun _ _ _ h => h) hS0 (Or.inl ⟨by rfl, ?y19⟩) ?_
          case y19 => (intro w hSw; (try dsimp only at hSw); go_simp; (try with_reducible rfl))
          try simp only [Act.put, List.setIfInBounds_toArray, List.set_cons_zero, List.set_cons_succ]
          refine wpAnyX_take0 20 (v := ?v20) rfl (by kernel_rfl) (fun _ _ _ h => h) (fun _ => hS0) (Or.inl ⟨by rfl, ?y20⟩) ?_
          case y20 => (intro w; go_simp; (try with_reducible rfl))
          try simp only [Act.put, List.setIfInBounds_toArray, List.set_cons_zero, List.set_cons_succ]
          refine wpAnyX_take0 21 (v := ?v21) rfl (by kernel_rfl) (fun _ _ _ h => h) (fun _ => hS0) (Or.inl ⟨by rfl, ?y21⟩) ?_
          case y21 => (intro w; go_simp; (try with_reducible rfl))
          try simp only [Act.put, List.setIfInBounds_toArray, List.set_cons_zero, List.set_cons_succ]
          refine wpAnyX_take0 22 (v := ?v22) rfl (by kernel_rfl) (fun _ _ _ h => h) (fun _ => hS0) (Or.inl ⟨by rfl, ?y22⟩) ?_
          case y22 => (intro w; go_simp; (try with_reducible rfl))
          try simp only [Act.put, List.setIfInBounds_toArray, List.set_cons_zero, List.set_cons_succ]
          refine wpAnyX_take0 23 (v := ?v23) rfl (by kernel_rfl) (fun _ _ _ h => h) (fun _ => hS0) (Or.inl ⟨by rfl, ?y23⟩) ?_
          case y23 => (intro w; go_simp; (try with_reducible rfl))
          try simp only [Act.put, List.setIfInBounds_toArray, List.set_cons_zero, List.set_cons_succ]
          refine wpAnyX_take 24 (v := ?v24) rfl (by kernel_rfl) (fun _ _ _ h => h) hS0 (Or.inl ⟨by rfl, ?y24⟩) ?_
          case y24 => (intro w hSw; (try dsimp only at hSw); go_simp; (try with_reducible rfl))
          try simp only [Act.put, List.setIfInBounds_toArray, List.set_cons_zero, List.set_cons_succ]
          refine wpAnyX_take0 25 (v := ?v25) rfl (by kernel_rfl) (fun _ _ _ h => h) (fun _ => hS0) (Or.inl ⟨by rfl, ?y25⟩) ?_
          case y25 => (intro w; go_simp; (try with_reducible rfl))
          try simp only [Act.put, List.setIfInBounds_toArray, List.set_cons_zero, List.set_cons_succ]
          refine wpAnyX_take0 26 (v := ?v26) rfl (by kernel_rfl) (fun _ _ _ h => h) (fun _ => hS0) (Or.inl ⟨by rfl, ?y26⟩) ?_
          case y26 => (intro w; go_simp; (try with_reducible rfl))
          try simp only [Act.put, List.setIfInBounds_toArray, List.set_cons_zero, List.set_cons_succ]
          refine wpAnyX_take 27 (v := ?v27) rfl (by kernel_rfl) (fun _ _ _ h => h) hS0 (Or.inl ⟨by rfl, ?y27⟩) ?_
          case y27 => (intro w hSw; (try dsimp only at hSw); go_simp; (try with_reducible rfl))
          try simp only [Act.put, List.setIfInBounds_toArray, List.set_cons_zero, List.set_cons_succ]
          refine wpAnyX_either 14 28 rfl rfl (by kernel_rfl) (fun K hK => ?_) (fun K hK => ?_)
          · go_simp
            refine hK.out _ _ (fun _ => K0.out _ (fr_a1 _ _ _)) ?_
            clear hK K
            try simp only [Act.put, List.setIfInBounds_toArray, List.set_cons_zero, List.set_cons_succ]
            refine wpAnyX_either 15 28 rfl rfl (by kernel_rfl) (fun K hK => ?_) (fun K hK => ?_)
            · go_simp
              refine (C1.out _ w6.heap.size (fr_a1 _ _ _) (heap_alloc_new w6 _) (Nat.le_refl _)).mono ?_
              rintro e w1 ⟨g1, cap1, rfl, hrow1, hg1, hF1, hfr1⟩
              refine hK.out _ _ (fun _ => K0.out _ (hF1.mono (fun x hx => List.mem_append_left _ hx))) ?_
              clear hK K
              try simp only [Act.put, List.setIfInBounds_toArray, List.set_cons_zero, List.set_cons_succ]
              refine wpAnyX_only 28 rfl (by kernel_rfl) (fun K hK => ?_)
              go_simp
              refine hK.out _ _ (fun _ => K0.out _ ((hF1.alloc _).mono (fun x hx => List.mem_append_left _ hx))) ?_
              clear hK K
              try simp only [Act.put, List.setIfInBounds_toArray, List.set_cons_zero, List.set_cons_succ]
              refine wpAnyX_only 29 rfl (by kernel_rfl) (fun K hK => ?_)
              go_simp
              refine (C2.out _ w1.heap.size (hF1.step ((Fr.refl nkf w1).alloc _)) (heap_alloc_new w1 _) hF1.size).mono ?_
              rintro e w2 ⟨g2, cap2, rfl, hrow2, hg2, hF2, hfr2⟩
              refine hK.out _ _ (fun _ => K0.out _ hF2) ?_
              clear hK K
              try simp only [Act.put, List.setIfInBounds_toArray, List.set_cons_zero, List.set_cons_succ]
              obtain ⟨hq1, hq2, hq3, hq4⟩ := HN.out _ hF2
              refine wpAnyX_take0 30 (v := ?v30) rfl (by kernel_rfl) (fun _ _ _ h => h) (fun _ => K0.out _ hF2) (Or.inl ⟨by rfl, ?y30⟩) ?_
              case y30 => (intro w; go_simp; (try with_reducible rfl))
              try simp only [Act.put, List.setIfInBounds_toArray, List.set_cons_zero, List.set_cons_succ]
              refine wpAnyX_take0 31 (v := ?v31) rfl (by kernel_rfl) (fun _ _ _ h => h) (fun _ => K0.out _ hF2) (Or.inl ⟨by rfl, ?y31⟩) ?_
              case y31 => (intro w; go_simp; (try with_reducible rfl))
              try simp only [Act.put, List.setIfInBounds_toArray, List.set_cons_zero, List.set_cons_succ]
              refine wpAnyX_only 32 rfl (by kernel_rfl) (fun K hK => ?_)
              go_simp
              refine hK.out _ _ (fun h => by cases h) ?_
              clear hK K
              try simp only [Act.put, List.setIfInBounds_toArray, List.set_cons_zero, List.set_cons_succ]
              refine wpAnyX_take0 33 (v := ?v33) rfl (by kernel_rfl) (fun _ _ _ h => h) (fun h => by cases h) (Or.inl ⟨by rfl, ?y33⟩) ?_
              case y33 => (intro w; go_simp; (try with_reducible rfl))
              try simp only [Act.put, List.setIfInBounds_toArray, List.set_cons_zero, List.set_cons_succ]
              refine wpAnyX_take0 34 (v := ?v34) rfl (by kernel_rfl) (fun _ _ _ h => h) (fun h => by cases h) (Or.inl ⟨by rfl, ?y34⟩) ?_
              case y34 => (intro w; go_simp; (try with_reducible rfl))
              try simp only [Act.put, List.setIfInBounds_toArray, List.set_cons_zero, List.set_cons_succ]
              refine wpAnyX_only 35 rfl (by kernel_rfl) (fun K hK => ?_)
              go_simp
              refine hK.out _ _ (fun h => by cases h) ?_
              clear hK K
              try simp only [Act.put, List.setIfInBounds_toArray, List.set_cons_zero, List.set_cons_succ]
              refine wpAnyX_done (by kernel_rfl) ?_ _
              refine NoPanic.normal ?_
              go_wp2
              go_meet
              case rel =>
                obtain ⟨hE1, hE2, hE3, hE4, hE5⟩ := HE.out
                have hb21 := hfr2.block g1 (Nat.lt_of_lt_of_le (hrow1.lt g1 (by simp)) (by simp)) (fun hx => by rcases hg1 with h | h; exact hE4 g1 hx h; exact absurd (hE3 g1 hx) (by omega))
                obtain ⟨q1, q2, q3, q4, q5, q6, q7⟩ := two_ins hE1 hrow1 hg1 (hb21.trans (Below.heap_alloc w1 _ g1 (hrow1.lt g1 (by simp)))) hF1.size (by simp) hrow2 hg2 hF2 hE2 hE3
                exact ⟨g1, cap1, g2, cap2, q1, q2, q3, hg1, (by rcases hg2 with h | h; exact .inl h; exact .inr (by have := hF1.size; simp at h ⊢; omega)), q4, q5, q6, q7⟩
            · go_simp
              refine hK.out _ _ (fun _ => K0.out _ (fr_a2 _ _ _ _)) ?_
              clear hK K
              try simp only [Act.put, List.setIfInBounds_toArray, List.set_cons_zero, List.set_cons_succ]
              refine wpAnyX_only 15 rfl (by kernel_rfl) (fun K hK => ?_)
              go_simp
              refine (C1.out _ w6.heap.size (fr_a2 _ _ _ _) (heap_alloc2_old w6 _ _) (Nat.le_refl _)).mono ?_
              rintro e w1 ⟨g1, cap1, rfl, hrow1, hg1, hF1, hfr1⟩
              refine hK.out _ _ (fun _ => K0.out _ (hF1.mono (fun x hx => List.mem_append_left _ hx))) ?_
              clear hK K
              try simp only [Act.put, List.setIfInBounds_toArray, List.set_cons_zero, List.set_cons_succ]
              refine wpAnyX_only 29 rfl (by kernel_rfl) (fun K hK => ?_)
              go_simp
              refine (C2.out _ (w6.heap.size + 1) (hF1.step (Fr.refl nkf w1)) (hfr1.at (heap_alloc2_new w6 _ _) (fun hx => absurd (hnkl _ hx) (by omega))) (by omega)).mono ?_
              rintro e w2 ⟨g2, cap2, rfl, hrow2, hg2, hF2, hfr2⟩
              refine hK.out _ _ (fun _ => K0.out _ hF2) ?_
              clear hK K
              try simp only [Act.put, List.setIfInBounds_toArray, List.set_cons_zero, List.set_cons_succ]
              obtain ⟨hq1, hq2, hq3, hq4⟩ := HN.out _ hF2
              refine wpAnyX_take0 30 (v := ?v30) rfl (by kernel_rfl) (fun _ _ _ h => h) (fun _ => K0.out _ hF2) (Or.inl ⟨by rfl, ?y30⟩) ?_
              case y30 => (intro w; go_simp; (try with_reducible rfl))
              try simp only [Act.put, List.setIfInBounds_toArray, List.set_cons_zero, List.set_cons_succ]
              refine wpAnyX_take0 31 (v := ?v31) rfl (by kernel_rfl) (fun _ _ _ h => h) (fun _ => K0.out _ hF2) (Or.inl ⟨by rfl, ?y31⟩) ?_
              case y31 => (intro w; go_simp; (try with_reducible rfl))
              try simp only [Act.put, List.setIfInBounds_toArray, List.set_cons_zero, List.set_cons_succ]
              refine wpAnyX_only 32 rfl (by kernel_rfl) (fun K hK => ?_)
              go_simp
              refine hK.out _ _ (fun h => by cases h) ?_
              clear hK K
              try simp only [Act.put, List.setIfInBounds_toArray, List.set_cons_zero, List.set_cons_succ]
              refine wpAnyX_take0 33 (v := ?v33) rfl (by kernel_rfl) (fun _ _ _ h => h) (fun h => by cases h) (Or.inl ⟨by rfl, ?y33⟩) ?_
              case y33 => (intro w; go_simp; (try with_reducible rfl))
              try simp only [Act.put, List.setIfInBounds_toArray, List.set_cons_zero, List.set_cons_succ]
              refine wpAnyX_take0 34 (v := ?v34) rfl (by kernel_rfl) (fun _ _ _ h => h) (fun h => by cases h) (Or.inl ⟨by rfl, ?y34⟩) ?_
              case y34 => (intro w; go_simp; (try with_reducible rfl))
              try simp only [Act.put, List.setIfInBounds_toArray, List.set_cons_zero, List.set_cons_succ]
              refine wpAnyX_only 35 rfl (by kernel_rfl) (fun K hK => ?_)
              go_simp
              refine hK.out _ _ (fun h => by cases h) ?_
              clear hK K
              try simp only [Act.put, List.setIfInBounds_toArray, List.set_cons_zero, List.set_cons_succ]
              refine wpAnyX_done (by kernel_rfl) ?_ _
              refine NoPanic.normal ?_
              go_wp2
              go_meet
              case rel =>
                obtain ⟨hE1, hE2, hE3, hE4, hE5⟩ := HE.out
                have hb21 := hfr2.block g1 (Nat.lt_of_lt_of_le (hrow1.lt g1 (by simp)) (Nat.le_refl _)) (fun hx => by rcases hg1 with h | h; exact hE4 g1 hx h; exact absurd (hE3 g1 hx) (by omega))
                obtain ⟨q1, q2, q3, q4, q5, q6, q7⟩ := two_ins hE1 hrow1 hg1 (hb21.trans rfl) hF1.size (Nat.le_refl _) hrow2 hg2 hF2 hE2 hE3
                exact ⟨g1, cap1, g2, cap2, q1, q2, q3, hg1, (by rcases hg2 with h | h; exact .inl h; exact .inr (by have := hF1.size; simp at h ⊢; omega)), q4, q5, q6, q7⟩
          · go_simp
            refine hK.out _ _ (fun _ => K0.out _ (fr_a1 _ _ _)) ?_
            clear hK K
            try simp only [Act.put, List.setIfInBounds_toArray, List.set_cons_zero, List.set_cons_succ]
            refine wpAnyX_only 14 rfl (by kernel_rfl) (fun K hK => ?_)
            go_simp
            refine hK.out _ _ (fun _ => K0.out _ (fr_a2 _ _ _ _)) ?_
            clear hK K
            try simp only [Act.put, List.setIfInBounds_toArray, List.set_cons_zero, List.set_cons_succ]
            refine wpAnyX_only 15 rfl (by kernel_rfl) (fun K hK => ?_)
            go_simp
            refine (C1.out _ (w6.heap.size + 1) (fr_a2 _ _ _ _) (heap_alloc2_new w6 _ _) (by omega)).mono ?_
            rintro e w1 ⟨g1, cap1, rfl, hrow1, hg1, hF1, hfr1⟩
            refine hK.out _ _ (fun _ => K0.out _ (hF1.mono (fun x hx => List.mem_append_left _ hx))) ?_
            clear hK K
            try simp only [Act.put, List.setIfInBounds_toArray, List.set_cons_zero, List.set_cons_succ]
            refine wpAnyX_only 29 rfl (by kernel_rfl) (fun K hK => ?_)
            go_simp
            refine (C2.out _ w6.heap.size (hF1.step (Fr.refl nkf w1)) (hfr1.at (heap_alloc2_old w6 _ _) (fun hx => absurd (hnkl _ hx) (by omega))) (Nat.le_refl _)).mono ?_
            rintro e w2 ⟨g2, cap2, rfl, hrow2, hg2, hF2, hfr2⟩
            refine hK.out _ _ (fun _ => K0.out _ hF2) ?_
            clear hK K
            try simp only [Act.put, List.setIfInBounds_toArray, List.set_cons_zero, List.set_cons_succ]
            obtain ⟨hq1, hq2, hq3, hq4⟩ := HN.out _ hF2
            refine wpAnyX_take0 30 (v := ?v30) rfl (by kernel_rfl) (fun _ _ _ h => h) (fun _ => K0.out _ hF2) (Or.inl ⟨by rfl, ?y30⟩) ?_
            case y30 => (intro w; go_simp; (try with_reducible rfl))
            try simp only [Act.put, List.setIfInBounds_toArray, List.set_cons_zero, List.set_cons_succ]
            refine wpAnyX_take0 31 (v := ?v31) rfl (by kernel_rfl) (fun _ _ _ h => h) (fun _ => K0.out _ hF2) (Or.inl ⟨by rfl, ?y31⟩) ?_
            case y31 => (intro w; go_simp; (try with_reducible rfl))
            try simp only [Act.put, List.setIfInBounds_toArray, List.set_cons_zero, List.set_cons_succ]
            refine wpAnyX_only 32 rfl (by kernel_rfl) (fun K hK => ?_)
            go_simp
            refine hK.out _ _ (fun h => by cases h) ?_
            clear hK K
            try simp only [Act.put, List.setIfInBounds_toArray, List.set_cons_zero, List.set_cons_succ]
            refine wpAnyX_take0 33 (v := ?v33) rfl (by kernel_rfl) (fun _ _ _ h => h) (fun h => by cases h) (Or.inl ⟨by rfl, ?y33⟩) ?_
            case y33 => (intro w; go_simp; (try with_reducible rfl))
            try simp only [Act.put, List.setIfInBounds_toArray, List.set_cons_zero, List.set_cons_succ]
            refine wpAnyX_take0 34 (v := ?v34) rfl (by kernel_rfl) (fun _ _ _ h => h) (fun h => by cases h) (Or.inl ⟨by rfl, ?y34⟩) ?_
            case y34 => (intro w; go_simp; (try with_reducible rfl))
            try simp only [Act.put, List.setIfInBounds_toArray, List.set_cons_zero, List.set_cons_succ]
            refine wpAnyX_only 35 rfl (by kernel_rfl) (fun K hK => ?_)
            go_simp
            refine hK.out _ _ (fun h => by cases h) ?_
            clear hK K
            try simp only [Act.put, List.setIfInBounds_toArray, List.set_cons_zero, List.set_cons_succ]
            refine wpAnyX_done (by kernel_rfl) ?_ _
            refine NoPanic.normal ?_
            go_wp2
            go_meet
            case rel =>
              obtain ⟨hE1, hE2, hE3, hE4, hE5⟩ := HE.out
              have hb21 := hfr2.block g1 (Nat.lt_of_lt_of_le (hrow1.lt g1 (by simp)) (Nat.le_refl _)) (fun hx => by rcases hg1 with h | h; exact hE4 g1 hx h; exact absurd (hE3 g1 hx) (by omega))
              obtain ⟨q1, q2, q3, q4, q5, q6, q7⟩ := two_ins hE1 hrow1 hg1 (hb21.trans rfl) hF1.size (Nat.le_refl _) hrow2 hg2 hF2 hE2 hE3
              exact ⟨g1, cap1, g2, cap2, q1, q2, q3, hg1, (by rcases hg2 with h | h; exact .inl h; exact .inr (by have := hF1.size; simp at h ⊢; omega)), q4, q5, q6, q7⟩
        case rest =>
          clear K0 C1 C2 HN
          obtain ⟨g1, cp1, g2, cp2, h7, hr1, hr2, hg1, hg2, h12, h1n, h2n, hF7⟩ := hcut
          obtain ⟨w7, rfl⟩ : ∃ w7 : World, w7 = wc := ⟨_, rfl⟩
          obtain ⟨-, -, hcn, -, -⟩ := HRR.out
          obtain ⟨hnd, -⟩ := HND.out
          obtain ⟨hL, hR, hLR, hGE, hF⟩ := HL6.out
          have hngS : ng ∉ nb :: (nkf ++ nvf) := fun hx => by
            rw [List.nodup_cons, List.nodup_append, List.nodup_append] at hnd
            rcases List.mem_cons.1 hx with h | h
            · exact hnd.1 (by rw [← h]; simp)
            · rcases List.mem_append.1 h with h | h
              · exact hnd.2.2.2 ng h ng (by simp) rfl
              · exact hnd.2.2.1.2.2 ng h ng (by simp) rfl
          have hngnb : ng ≠ nb := fun e => hngS (by simp [e])
          have hold : ∀ x ∈ nb :: (nkf ++ (nvf ++ [ng])), x < w.heap.size := fun x hx => by
            obtain ⟨q1, q2, -, -, -⟩ := HRR.out
            simp only [List.mem_cons, List.mem_append, List.mem_singleton, List.not_mem_nil, or_false] at hx
            rcases hx with rfl | h | h | rfl
            · exact lnb
            · exact q1.lt x h
            · exact q2.lt x h
            · exact hcn.lt x (by simp)
          have hcn7 : SlRow w7 27 (.slice (some ⟨ng, 0, none⟩) nl nccap) (cs.map ptr) [ng] := (hcn.fr hF (by simp)).fr hF7 (by intro k hk; rw [List.mem_singleton.1 hk]; exact hngS)
          have hcl : (cs.map ptr).length = nl := hcn.cap.1.symm
          have c7 : w7.cell? ⟨nb, 3, none⟩ = some (.slice (some ⟨ng, 0, none⟩) nl nccap) := cell_eq h7 rfl
          have x7 : w7.cell? ⟨ng, i, none⟩ = some (ptr cb) := hcn7.cell i _ (by rw [List.getElem?_map, HEN.out.2.2.1]; rfl)
          obtain ⟨cur7, hb7⟩ : ∃ cur, w7.heap[ng]? = some (.cells cur 27 (0, 0)) := by
            rcases hcn7 with ⟨h, _, _⟩ | ⟨g', cap', cur, h1, h2, _⟩
            · cases h
            · obtain ⟨rfl, _⟩ : ng = g' ∧ _ := by simpa using h1
              exact ⟨cur, h2⟩
          have fx7 : w7.frozen? ⟨ng, i, none⟩ = false := frozen_of_row w7 ng i _ _ hb7
          have c8 : ∀ v, (w7.setCell ⟨ng, i, none⟩ v).cell? ⟨nb, 3, none⟩ = some (.slice (some ⟨ng, 0, none⟩) nl nccap) := fun v => by
            rw [World.cell?_setCell_other _ _ _ _ (by simp [hngnb])]; exact c7
          have hrow8 : SlRow ((w7.setCell ⟨ng, i, none⟩ (ptr lb)).alloc (.cells #[ptr rb] 27)) 27 (.slice (some ⟨ng, 0, none⟩) nl nccap) ((cs.map ptr).set i (ptr lb)) [ng] := by
            refine (hcn7.set i (ptr lb)).keep (fun k hk => ?_)
            rw [List.mem_singleton.1 hk]
            exact Below.heap_alloc _ _ _ (by simpa using lt_of_block hb7)
          have CI : Hid (Calls Try.prog 27 #[.slice (some ⟨ng, 0, none⟩) nl nccap, .int .i64 ((i : Int) + 1), .slice (some ⟨w7.heap.size, 0, none⟩) 1 1] ((w7.setCell ⟨ng, i, none⟩ (ptr lb)).alloc (.cells #[ptr rb] 27)) fun r w9 =>
              ∃ g cap, r = .returned (.slice (some ⟨g, 0, none⟩) (nl + 1) cap) ∧ SlRow w9 27 (.slice (some ⟨g, 0, none⟩) (nl + 1) cap) (putIn ((cs.map ptr).set i (ptr lb)) (i + 1) (ptr rb)) [g] ∧ (g ∈ [ng] ∨ w7.heap.size + 1 ≤ g) ∧ Fr [ng] ((w7.setCell ⟨ng, i, none⟩ (ptr lb)).alloc (.cells #[ptr rb] 27)) w9) := by
            have hsl : ((cs.map ptr).set i (ptr lb)).length = nl := by rw [List.length_set, hcl]
            have hc := insN (.slice (some ⟨ng, 0, none⟩) nl nccap) (i + 1) w7.heap.size 1 ((cs.map ptr).set i (ptr lb)) (ptr rb) [ng] ((w7.setCell ⟨ng, i, none⟩ (ptr lb)).alloc (.cells #[ptr rb] 27)) hrow8 (by omega) (by omega)
              (by have h := heap_alloc_new (w7.setCell ⟨ng, i, none⟩ (ptr lb)) (.cells #[ptr rb] 27); rw [World.size_setCell] at h; exact h) (by have := lt_of_block hb7; simp; omega) (by intro u hu; rcases List.mem_or_eq_of_mem_set hu with h | h; (obtain ⟨p, _, rfl⟩ := List.mem_map.1 h; rfl); (rw [h]; rfl)) rfl
            rw [hsl] at hc
            rw [show ((i : Int) + 1) = ((i + 1 : Nat) : Int) by omega]
            refine hc.mono ?_
            rintro r w9 ⟨g, cap, q1, q2, q3, q4⟩
            refine ⟨g, cap, q1, q2, ?_, q4⟩
            rcases q3 with h | h
            · exact .inl h
            · exact .inr (by simpa using h)
          have HC9 : Hid (∀ w9, Fr [ng] ((w7.setCell ⟨ng, i, none⟩ (ptr lb)).alloc (.cells #[ptr rb] 27)) w9 → w9.cell? ⟨nb, 3, none⟩ = some (.slice (some ⟨ng, 0, none⟩) nl nccap) ∧ w9.frozen? ⟨nb, 3, none⟩ = false) := fun w9 h => by
            have h0 : ((w7.setCell ⟨ng, i, none⟩ (ptr lb)).alloc (.cells #[ptr rb] 27)).heap[nb]? = some (.cells #[.int .u64 0, .slice (some ⟨g1, 0, none⟩) (n + 1) cp1, .slice (some ⟨g2, 0, none⟩) (n + 1) cp2, .slice (some ⟨ng, 0, none⟩) nl nccap] 44 (0, 0)) := by
              rw [Below.heap_alloc _ _ _ (by simpa using lt_of_block h7), heap_setCell_other _ _ _ _ (Ne.symm hngnb)]; exact h7
            have h9 := h.at h0 (by simpa using Ne.symm hngnb)
            exact ⟨cell_eq h9 rfl, frozen_of_row w9 nb 3 _ _ h9⟩
          have HEND : Hid (∀ w9 g3 c3, SlRow w9 27 (.slice (some ⟨g3, 0, none⟩) (nl + 1) c3) (putIn ((cs.map ptr).set i (ptr lb)) (i + 1) (ptr rb)) [g3] → (g3 ∈ [ng] ∨ w7.heap.size + 1 ≤ g3) → Fr [ng] ((w7.setCell ⟨ng, i, none⟩ (ptr lb)).alloc (.cells #[ptr rb] 27)) w9 → _) :=
            fun w9 g3 c3 q1 q2 q3 => split_end hF hL hR hLR hGE hnd hold h7 hr1 hr2 hg1 hg2 h12 h1n h2n hF7 q1 q2 q3
          clear hL hR hLR hGE hnd hold h7 hr1 hr2 hg1 hg2 h12 h1n h2n hF7 hrow8 hb7 hcn7 hcn hngS hcl HE HL6 hF
          go_wp2_with (go_at_call 27; refine CI.out.mono ?_; rintro r w9 ⟨g3, cap3, rfl, hrow3, hg3, hfr3⟩; obtain ⟨c9, f9⟩ := HC9.out w9 hfr3)
          go_end0
          obtain ⟨lb', rb', lf2, rf2, a1, b1, a2, b2, a3, b3, rfl, rfl, q⟩ := HEND.out w9 g3 cap3 hrow3 hg3 hfr3
          exact ⟨rfl, lb', rb', lf2, rf2, a1, b1, a2, b2, a3, b3, q⟩

end Go.Proofs.Qxb6600882a
