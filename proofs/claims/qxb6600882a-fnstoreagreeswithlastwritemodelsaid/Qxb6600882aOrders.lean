/-
  A LAW ON REGIONS THAT DRAW THEIR ORDER: as the guide's 'wpAnyH' (Derived/OrdersHeld), but that the condition S need not be shown behind the operations xs (the closing stores), nor behind what comes after one of them: every load that is taken first is one for which each of xs waits.
-/
import Derived.OrdersHeld
import Derived.StillTail
import Derived.Deep.RegionHeld3
namespace Go.Proofs.Qxb6600882a

section
variable {P : Program} {ops : Array Oper} {Q : Exit → Act → World → Prop} {md : Region.Mode} {S : World → Prop} {xs : List Nat}

/-- One of xs has come up. -/
def over (xs : List Nat) (listed : Array Bool) : Bool := xs.any fun x => listed.getD x false

def wpAnyX (P : Program) (md : Region.Mode) (ops : Array Oper) (Q : Exit → Act → World → Prop) (S : World → Prop) (xs : List Nat) : Nat → Array Bool → Act → World → Prop
  | 0, listed, a, w => Region.ready md ops listed = [] ∧ Q .normal a w
  | fuel + 1, listed, a, w =>
    (Region.ready md ops listed = [] → Q .normal a w) ∧
    ∀ i ∈ Region.ready md ops listed, wpOp P ops Q i (fun a' w' => (over xs (listed.setIfInBounds i true) = false → S w') ∧ wpAnyX P md ops Q S xs fuel (listed.setIfInBounds i true) a' w') a w

theorem wpAny_of_X : ∀ (fuel : Nat) (listed : Array Bool) (a : Act) (w : World), wpAnyX P md ops Q S xs fuel listed a w → wpAny P md ops Q fuel listed a w
  | 0, _, _, _, h => h
  | fuel + 1, _, _, _, h => ⟨h.1, fun i hi => wpOp_mono (fun a' w' h' => wpAny_of_X fuel _ a' w' h'.2) (h.2 i hi)⟩

theorem over_set {listed : Array Bool} {j : Nat} (hj : j ∉ xs) (h : over xs listed = false) : over xs (listed.setIfInBounds j true) = false := by
  unfold over at *
  rw [List.any_eq_false] at *
  intro x hx
  have hne : j ≠ x := fun e => hj (by rw [e]; exact hx)
  rw [getD_set_ne false hne]
  exact h x hx

theorem waits_not_ready {listed : Array Bool} {i j : Nat} (hw : Region.waitsFor md ops j i = true) (hi : listed.getD i true = false) (hj : j ∈ Region.ready md ops listed) : False := by
  obtain ⟨oj, hoj, e, he, hb, heq⟩ := Region.waitsFor_spec hw
  obtain ⟨_, o, ho, hall⟩ := mem_ready.1 hj
  have : oj = o := Option.some.inj (hoj.symm.trans ho)
  subst this
  have h1 := hall e he hb
  rw [heq] at h1
  rw [getD_both hi] at h1
  cases h1

theorem wpAnyX_first {i : Nat} {oi : Oper} {v : Value} (hi : ops[i]? = some oi) (hsel : ∀ (j : Nat) (o : Oper) cs b, ops[j]? = some o → o.op ≠ .select cs b)
    (hQ : ∀ c a w, Q (.panic c) (a.put oi.dst v) w → Q (.panic c) a w) (hwait : ∀ x ∈ xs, Region.waitsFor md ops x i = true) :
    ∀ (fuel : Nat) (listed : Array Bool) (a : Act) (w : World), over xs listed = false →
      (∀ j oj, ops[j]? = some oj → j ≠ i → listed.getD j true = false → (∀ e ∈ oj.after, Region.binds md e = true → e.on ≠ i) → oi.apart ops oj = true) →
      i ∈ Region.ready md ops listed → YieldsIf P ops S oi v a → S w →
      wpAnyX P md ops Q S xs fuel (listed.setIfInBounds i true) (a.put oi.dst v) w → wpAnyX P md ops Q S xs (fuel + 1) listed a w := by
  intro fuel
  induction fuel with
  | zero =>
    intro listed a w _ _ hr hy hS H
    refine ⟨fun h => (by rw [h] at hr; cases hr), fun j hj => ?_⟩
    by_cases hji : j = i
    · subst hji; exact hy.wpOp hi hS ⟨fun _ => hS, H⟩
    · have := ready_mono hj hji
      rw [H.1] at this
      cases this
  | succ fuel ih =>
    intro listed a w hov hfree hr hy hS H
    have hiu : listed.getD i true = false := (mem_ready.1 hr).1
    have hix : i ∉ xs := fun hx => waits_not_ready (hwait i hx) hiu hr
    refine ⟨fun h => (by rw [h] at hr; cases hr), fun j hj => ?_⟩
    by_cases hji : j = i
    · subst hji; exact hy.wpOp hi hS ⟨fun _ => hS, H⟩
    · have hjx : j ∉ xs := fun hx => waits_not_ready (hwait j hx) hiu hj
      have h1 := H.2 j (ready_mono hj hji)
      obtain ⟨hjun, oj, hoj, hall⟩ := mem_ready.1 hj
      have hnot : ∀ e ∈ oj.after, Region.binds md e = true → e.on ≠ i := fun e he hb heq => by
        have h1 := hall e he hb
        rw [heq, getD_both hiu] at h1
        cases h1
      have h2 := wpOp_putIf hoj (hfree j oj hoj hji hjun hnot) (fun cs b => hsel i oi cs b hi) (fun cs b => hsel j oj cs b hoj) hQ hy h1
      have hfree' : ∀ k ok, ops[k]? = some ok → k ≠ i → (listed.setIfInBounds j true).getD k true = false →
          (∀ e ∈ ok.after, Region.binds md e = true → e.on ≠ i) → oi.apart ops ok = true := fun k ok hk hki hun hno => by
        refine hfree k ok hk hki ?_ hno
        by_cases hjk : j = k
        · subst hjk; exact hjun
        · rw [getD_set_ne true hjk] at hun; exact hun
      have hov1 := over_set hjx hov
      refine wpOp_mono (fun a' w' h3 => ?_) h2
      have hS' : S w' := h3.2.1 (over_set hjx (over_set hix hov))
      refine ⟨fun _ => hS', ih (listed.setIfInBounds j true) a' w' hov1 hfree' (ready_mono hr (Ne.symm hji)) h3.1 hS' ?_⟩
      rw [Array.setIfInBounds_comm _ _ hji]
      exact h3.2.2

/-- Take number i first: it yields v in every world that meets S; each of xs waits for it; none of xs has come up. -/
theorem wpAnyX_take (i : Nat) {oi : Oper} {v : Value} {fuel : Nat} {listed : Array Bool} {a : Act} {w : World} (hi : ops[i]? = some oi)
    (hs : (Region.noSelect ops && (Region.free md ops listed i && ((Region.ready md ops listed).contains i && (xs.all (fun x => Region.waitsFor md ops x i) && !over xs listed)))) = true)
    (hQ : ∀ c a w, Q (.panic c) (a.put oi.dst v) w → Q (.panic c) a w) (hS : S w) (hy : YieldsIf P ops S oi v a)
    (h : wpAnyX P md ops Q S xs fuel (listed.setIfInBounds i true) (a.put oi.dst v) w) : wpAnyX P md ops Q S xs (fuel + 1) listed a w := by
  simp only [Bool.and_eq_true, Bool.not_eq_true'] at hs
  obtain ⟨h1, h2, h3, h4, h5⟩ := hs
  exact wpAnyX_first hi (Region.noSelect_spec h1) hQ (fun x hx => by rw [List.all_eq_true] at h4; exact h4 x hx) fuel listed a w h5 (Region.free_spec hi h2) (by simpa using h3) hy hS h

theorem wpAnyX_first0 {i : Nat} {oi : Oper} {v : Value} (hi : ops[i]? = some oi) (hsel : ∀ (j : Nat) (o : Oper) cs b, ops[j]? = some o → o.op ≠ .select cs b)
    (hQ : ∀ c a w, Q (.panic c) (a.put oi.dst v) w → Q (.panic c) a w) (hix : i ∉ xs) :
    ∀ (fuel : Nat) (listed : Array Bool) (a : Act) (w : World),
      (∀ j oj, ops[j]? = some oj → j ≠ i → listed.getD j true = false → (∀ e ∈ oj.after, Region.binds md e = true → e.on ≠ i) → oi.apart ops oj = true) →
      i ∈ Region.ready md ops listed → Yields P ops oi v a → (over xs listed = false → S w) →
      wpAnyX P md ops Q S xs fuel (listed.setIfInBounds i true) (a.put oi.dst v) w → wpAnyX P md ops Q S xs (fuel + 1) listed a w := by
  have hov : ∀ listed : Array Bool, over xs (listed.setIfInBounds i true) = over xs listed := fun listed => by
    unfold over
    rw [Bool.eq_iff_iff, List.any_eq_true, List.any_eq_true]
    have hg : ∀ x ∈ xs, (listed.setIfInBounds i true).getD x false = listed.getD x false := fun x hx => getD_set_ne false (fun e => hix (by rw [e]; exact hx))
    exact ⟨fun ⟨x, hx, h⟩ => ⟨x, hx, by rw [hg x hx] at h; exact h⟩, fun ⟨x, hx, h⟩ => ⟨x, hx, by rw [hg x hx]; exact h⟩⟩
  intro fuel
  induction fuel with
  | zero =>
    intro listed a w _ hr hy hS H
    refine ⟨fun h => (by rw [h] at hr; cases hr), fun j hj => ?_⟩
    by_cases hji : j = i
    · subst hji; exact hy.wpOp hi ⟨fun h => hS (by rw [hov] at h; exact h), H⟩
    · have := ready_mono hj hji
      rw [H.1] at this
      cases this
  | succ fuel ih =>
    intro listed a w hfree hr hy hS H
    have hiu : listed.getD i true = false := (mem_ready.1 hr).1
    refine ⟨fun h => (by rw [h] at hr; cases hr), fun j hj => ?_⟩
    by_cases hji : j = i
    · subst hji; exact hy.wpOp hi ⟨fun h => hS (by rw [hov] at h; exact h), H⟩
    · have h1 := H.2 j (ready_mono hj hji)
      obtain ⟨hjun, oj, hoj, hall⟩ := mem_ready.1 hj
      have hnot : ∀ e ∈ oj.after, Region.binds md e = true → e.on ≠ i := fun e he hb heq => by
        have h1 := hall e he hb
        rw [heq, getD_both hiu] at h1
        cases h1
      have h2 := wpOp_put hoj (hfree j oj hoj hji hjun hnot) (fun cs b => hsel i oi cs b hi) (fun cs b => hsel j oj cs b hoj) hQ hy h1
      have hfree' : ∀ k ok, ops[k]? = some ok → k ≠ i → (listed.setIfInBounds j true).getD k true = false →
          (∀ e ∈ ok.after, Region.binds md e = true → e.on ≠ i) → oi.apart ops ok = true := fun k ok hk hki hun hno => by
        refine hfree k ok hk hki ?_ hno
        by_cases hjk : j = k
        · subst hjk; exact hjun
        · rw [getD_set_ne true hjk] at hun; exact hun
      refine wpOp_mono (fun a' w' h3 => ?_) h2
      have hS' : over xs (listed.setIfInBounds j true) = false → S w' := fun h => h3.2.1 (by rw [Array.setIfInBounds_comm _ _ (Ne.symm hji), hov]; exact h)
      refine ⟨hS', ih (listed.setIfInBounds j true) a' w' hfree' (ready_mono hr (Ne.symm hji)) h3.1 hS' ?_⟩
      rw [Array.setIfInBounds_comm _ _ hji]
      exact h3.2.2

/-- Take number i first: it yields v in whatever world. -/
theorem wpAnyX_take0 (i : Nat) {oi : Oper} {v : Value} {fuel : Nat} {listed : Array Bool} {a : Act} {w : World} (hi : ops[i]? = some oi)
    (hs : (Region.noSelect ops && (Region.free md ops listed i && ((Region.ready md ops listed).contains i && !xs.contains i))) = true)
    (hQ : ∀ c a w, Q (.panic c) (a.put oi.dst v) w → Q (.panic c) a w) (hS : over xs listed = false → S w) (hy : Yields P ops oi v a)
    (h : wpAnyX P md ops Q S xs fuel (listed.setIfInBounds i true) (a.put oi.dst v) w) : wpAnyX P md ops Q S xs (fuel + 1) listed a w := by
  simp only [Bool.and_eq_true, Bool.not_eq_true'] at hs
  obtain ⟨h1, h2, h3, h4⟩ := hs
  exact wpAnyX_first0 hi (Region.noSelect_spec h1) hQ (by simpa using h4) fuel listed a w (Region.free_spec hi h2) (by simpa using h3) hy hS h

/-- One operation alone may come up. -/
theorem wpAnyX_only (i : Nat) {o : Oper} {fuel : Nat} {listed : Array Bool} {a : Act} {w : World} (ho : ops[i]? = some o) (hr : Region.ready md ops listed = [i])
    (h : ∀ K' : Act → World → Prop, Shut (∀ a' w', (over xs (listed.setIfInBounds i true) = false → S w') → wpAnyX P md ops Q S xs fuel (listed.setIfInBounds i true) a' w' → K' a' w') → if Region.wanted o (yielded ops a.tmps) = true then Oper.wp P o a w K' Q else K' (a.put o.dst undef) w) :
    wpAnyX P md ops Q S xs (fuel + 1) listed a w := by
  refine ⟨fun h0 => (by rw [hr] at h0; cases h0), fun j hj => ?_⟩
  rw [hr] at hj
  rw [List.mem_singleton.1 hj]
  exact wpOp_step ho (fun K' hK => h K' (fun a' w' h1 h2 => hK a' w' ⟨h1, h2⟩))

/-- Two operations may come up. -/
theorem wpAnyX_either (i j : Nat) {o o' : Oper} {fuel : Nat} {listed : Array Bool} {a : Act} {w : World} (ho : ops[i]? = some o) (ho' : ops[j]? = some o') (hr : Region.ready md ops listed = [i, j])
    (h : ∀ K' : Act → World → Prop, Shut (∀ a' w', (over xs (listed.setIfInBounds i true) = false → S w') → wpAnyX P md ops Q S xs fuel (listed.setIfInBounds i true) a' w' → K' a' w') → if Region.wanted o (yielded ops a.tmps) = true then Oper.wp P o a w K' Q else K' (a.put o.dst undef) w)
    (h' : ∀ K' : Act → World → Prop, Shut (∀ a' w', (over xs (listed.setIfInBounds j true) = false → S w') → wpAnyX P md ops Q S xs fuel (listed.setIfInBounds j true) a' w' → K' a' w') → if Region.wanted o' (yielded ops a.tmps) = true then Oper.wp P o' a w K' Q else K' (a.put o'.dst undef) w) :
    wpAnyX P md ops Q S xs (fuel + 1) listed a w := by
  refine ⟨fun h0 => (by rw [hr] at h0; cases h0), fun k hk => ?_⟩
  rw [hr] at hk
  rcases List.mem_cons.1 hk with rfl | hk
  · exact wpOp_step ho (fun K' hK => h K' (fun a' w' h1 h2 => hK a' w' ⟨h1, h2⟩))
  · rw [List.mem_singleton.1 hk]
    exact wpOp_step ho' (fun K' hK => h' K' (fun a' w' h1 h2 => hK a' w' ⟨h1, h2⟩))

theorem wpAnyX_done {listed : Array Bool} {a : Act} {w : World} (hr : Region.ready md ops listed = []) (h : Q .normal a w) : ∀ fuel, wpAnyX P md ops Q S xs fuel listed a w
  | 0 => ⟨hr, h⟩
  | _ + 1 => ⟨fun _ => h, by rw [hr]; simp⟩

/-- The beginning. -/
theorem wp_region_X (S : World → Prop) (xs : List Nat) {id : Nat} {a : Act} {w : World} (hm : P.follows .mixedOrders = true) (hS : S w.drew)
    (h : S w.drew → wpAnyX P .any ops Q S xs ops.size (Array.replicate ops.size false) a w.drew) : (Code.region id ops true).wp P Q a w :=
  wp_region_any hm (wpAny_of_X _ _ _ _ (h hS))
end

end Go.Proofs.Qxb6600882a
