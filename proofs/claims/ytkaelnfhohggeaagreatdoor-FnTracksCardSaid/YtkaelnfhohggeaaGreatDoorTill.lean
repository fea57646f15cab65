/- A region that draws its order: loads that yield the same in every world met till the last operation, a store, has come up. -/
import Derived.Test.YtkaelnfhohggeaaGreatDoorBase
import Derived.OrdersHeld
import Derived.StillTail
import Derived.RegionTactic
namespace Go.Proofs.YtkaelnfhohggeaaGreatDoor
open Go.RowKit

section
variable {P : Program} {md : Region.Mode} {ops : Array Oper} {Q : Exit → Act → World → Prop} {S : World → Prop} {n : Nat}

/-- In whatever order; behind every operation but number n the world meets S. -/
def wpTill (P : Program) (md : Region.Mode) (ops : Array Oper) (Q : Exit → Act → World → Prop) (S : World → Prop) (n : Nat) : Nat → Array Bool → Act → World → Prop
  | 0, listed, a, w => Region.ready md ops listed = [] ∧ Q .normal a w
  | f + 1, listed, a, w => (Region.ready md ops listed = [] → Q .normal a w) ∧
      ∀ i ∈ Region.ready md ops listed, wpOp P ops Q i (fun a' w' => (i ≠ n → S w') ∧ wpTill P md ops Q S n f (listed.setIfInBounds i true) a' w') a w

theorem wpAny_of_till : ∀ (f : Nat) (listed : Array Bool) (a : Act) (w : World), wpTill P md ops Q S n f listed a w → wpAny P md ops Q f listed a w
  | 0, _, _, _, h => h
  | f + 1, _, _, _, h => ⟨h.1, fun i hi => wpOp_mono (fun a' w' q => wpAny_of_till f _ a' w' q.2) (h.2 i hi)⟩

theorem last_waits {i : Nat} (hw : Region.waitsFor md ops n i = true) {listed : Array Bool} (hu : listed.getD i true = false) : n ∉ Region.ready md ops listed := fun hr => by
  obtain ⟨oj, hj, e, he, hb, rfl⟩ := Region.waitsFor_spec hw
  obtain ⟨_, o, ho, hall⟩ := mem_ready.1 hr
  have : oj = o := Option.some.inj (hj.symm.trans ho)
  subst this
  have h1 := hall e he hb
  rw [getD_both hu] at h1
  cases h1

/-- An operation that yields its value in every world that meets S, and for which the last one waits, may be taken first. -/
theorem wpTill_first {i : Nat} {oi : Oper} {v : Value} (hi : ops[i]? = some oi) (hsel : ∀ (j : Nat) (o : Oper) cs b, ops[j]? = some o → o.op ≠ .select cs b)
    (hQ : ∀ c a w, Q (.panic c) (a.put oi.dst v) w → Q (.panic c) a w) (hw : Region.waitsFor md ops n i = true) :
    ∀ (f : Nat) (listed : Array Bool) (a : Act) (w : World),
      (∀ j oj, ops[j]? = some oj → j ≠ i → listed.getD j true = false → (∀ e ∈ oj.after, Region.binds md e = true → e.on ≠ i) → oi.apart ops oj = true) →
      i ∈ Region.ready md ops listed → YieldsIf P ops S oi v a → S w →
      wpTill P md ops Q S n f (listed.setIfInBounds i true) (a.put oi.dst v) w → wpTill P md ops Q S n (f + 1) listed a w := by
  intro f
  induction f with
  | zero =>
    intro listed a w _ hr hy hS H
    refine ⟨fun e => (by rw [e] at hr; cases hr), fun j hj => ?_⟩
    by_cases e : j = i
    · subst e
      exact hy.wpOp hi hS ⟨fun _ => hS, H⟩
    · have h1 := ready_mono hj e
      rw [H.1] at h1
      cases h1
  | succ f ih =>
    intro listed a w hfree hr hy hS H
    have hun := (mem_ready.1 hr).1
    refine ⟨fun e => (by rw [e] at hr; cases hr), fun j hj => ?_⟩
    by_cases e : j = i
    · subst e
      exact hy.wpOp hi hS ⟨fun _ => hS, H⟩
    · have hjn : j ≠ n := fun e1 => last_waits hw hun (e1 ▸ hj)
      obtain ⟨hju, oj, hoj, hall⟩ := mem_ready.1 hj
      have hno : ∀ x ∈ oj.after, Region.binds md x = true → x.on ≠ i := fun x hx hb e1 => by
        have h1 := hall x hx hb
        rw [e1, getD_both hun] at h1
        cases h1
      have hput := wpOp_putIf hoj (hfree j oj hoj e hju hno) (fun cs b => hsel i oi cs b hi) (fun cs b => hsel j oj cs b hoj) hQ hy (H.2 j (ready_mono hj e))
      refine wpOp_mono (fun a' w' q => ⟨fun _ => q.2.1 hjn, ?_⟩) hput
      refine ih (listed.setIfInBounds j true) a' w' (fun k ok hk hki hku hkn => ?_) (ready_mono hr (Ne.symm e)) q.1 (q.2.1 hjn) ?_
      · refine hfree k ok hk hki ?_ hkn
        by_cases e2 : j = k
        · subst e2; exact hju
        · rw [getD_set_ne true e2] at hku; exact hku
      · rw [Array.setIfInBounds_comm _ _ e]
        exact q.2.2

theorem wpTill_take {i : Nat} {oi : Oper} {v : Value} {f : Nat} {listed : Array Bool} {a : Act} {w : World} (hi : ops[i]? = some oi)
    (hs : Region.noSelect ops = true) (hf : Region.free md ops listed i = true) (hr : (Region.ready md ops listed).contains i = true) (hw : Region.waitsFor md ops n i = true)
    (hQ : ∀ c a w, Q (.panic c) (a.put oi.dst v) w → Q (.panic c) a w) (hS : S w) (hy : YieldsIf P ops S oi v a)
    (h : wpTill P md ops Q S n f (listed.setIfInBounds i true) (a.put oi.dst v) w) : wpTill P md ops Q S n (f + 1) listed a w :=
  wpTill_first hi (Region.noSelect_spec hs) hQ hw f listed a w (Region.free_spec hi hf) (by simpa using hr) hy hS h

/-- One operation alone may come up. -/
theorem wpTill_one {i : Nat} {oi : Oper} {f : Nat} {listed : Array Bool} {a : Act} {w : World} (hr : Region.ready md ops listed = [i]) (hi : ops[i]? = some oi)
    (h : ∀ K' : Act → World → Prop, (∀ a w, (i ≠ n → S w) → wpTill P md ops Q S n f (listed.setIfInBounds i true) a w → K' a w) → if Region.wanted oi (yielded ops a.tmps) = true then Oper.wp P oi a w K' Q else K' (a.put oi.dst undef) w) :
    wpTill P md ops Q S n (f + 1) listed a w :=
  ⟨fun e => (by rw [hr] at e; cases e), fun j hj => by
    rw [hr] at hj
    obtain rfl := List.mem_singleton.1 hj
    exact wpOp_step hi fun K' hK => h K' fun a w h1 h2 => hK a w ⟨h1, h2⟩⟩
/-- Two may. -/
theorem wpTill_two {i j : Nat} {oi oj : Oper} {f : Nat} {listed : Array Bool} {a : Act} {w : World} (hr : Region.ready md ops listed = [i, j]) (hi : ops[i]? = some oi) (hj : ops[j]? = some oj)
    (h : ∀ K' : Act → World → Prop, (∀ a w, (i ≠ n → S w) → wpTill P md ops Q S n f (listed.setIfInBounds i true) a w → K' a w) → if Region.wanted oi (yielded ops a.tmps) = true then Oper.wp P oi a w K' Q else K' (a.put oi.dst undef) w)
    (h' : ∀ K' : Act → World → Prop, (∀ a w, (j ≠ n → S w) → wpTill P md ops Q S n f (listed.setIfInBounds j true) a w → K' a w) → if Region.wanted oj (yielded ops a.tmps) = true then Oper.wp P oj a w K' Q else K' (a.put oj.dst undef) w) :
    wpTill P md ops Q S n (f + 1) listed a w :=
  ⟨fun e => (by rw [hr] at e; cases e), fun k hk => by
    rw [hr] at hk
    rcases List.mem_cons.1 hk with rfl | hk
    · exact wpOp_step hi fun K' hK => h K' fun a w h1 h2 => hK a w ⟨h1, h2⟩
    · obtain rfl := List.mem_singleton.1 hk
      exact wpOp_step hj fun K' hK => h' K' fun a w h1 h2 => hK a w ⟨h1, h2⟩⟩
theorem wpTill_done {listed : Array Bool} {a : Act} {w : World} (hr : Region.ready md ops listed = []) (h : Q .normal a w) : ∀ f, wpTill P md ops Q S n f listed a w
  | 0 => ⟨hr, h⟩
  | _ + 1 => ⟨fun _ => h, by rw [hr]; simp⟩
theorem wp_region_till {id : Nat} {a : Act} {w : World} (hm : P.follows .mixedOrders = true)
    (h : wpTill P .any ops Q S n ops.size (Array.replicate ops.size false) a w.drew) : (Code.region id ops true).wp P Q a w :=
  wp_region_any hm (wpAny_of_till _ _ _ _ h)
end
end Go.Proofs.YtkaelnfhohggeaaGreatDoor
