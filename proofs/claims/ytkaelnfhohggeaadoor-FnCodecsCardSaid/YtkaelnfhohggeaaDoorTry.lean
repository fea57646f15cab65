/- The thin package's 'try': it hands back what the function that it is given hands back; its own variable alone is new besides. -/
import Derived.Test.YtkaelnfhohggeaaDoorBase
import Derived.Defers
import Derived.Recover
namespace Go.Proofs.YtkaelnfhohggeaaDoor
open Go.RowKit

theorem catch_idle (p : Addr) (w : World) :
    CallsD Tryd.prog 22 #[.pointer (some p)] .returning w fun e u' w' => e = .returned (.tuple #[]) ∧ u' = .returning ∧ w' = w := by
  refine callsD_of_wpS Tryd.func22 rfl fun c₀ cs hu => ?_
  apply wpS_seq
  apply wpS_region
  simp [wpOpsS, go_sem, recoverD, hu, Tryd.ntmps22, Exit.thenS]
  refine wpS_cond (t := false) (by simp [Act.eval, Array.replicate]) ?_
  simp only [Bool.false_eq_true, if_false]
  refine wpS_of_wp (wp_skip ?_)
  cases c₀
  simp_all [bodyPostS, results, Tryd.results22]

/-- What 'try' leaves: the answer, and a world that the function left, but for try's own cell. -/
def TryPost (w : World) (R : Bool → World → Prop) (e : Ending) (w' : World) : Prop :=
  ∃ b w1, e = .returned (.bool b) ∧ R b w1 ∧ w' = w1.setCell ⟨w.heap.size, 0, none⟩ (.bool b)

set_option maxHeartbeats 400000 in
theorem try_any (g : Nat) (cap : Array Value) (R : Bool → World → Prop) (w : World) (hcf : ∀ w, Sem.run Tryd.prog (callFunc g cap) w = .ok (.enter g cap) w)
    (hg : Hid (Calls Tryd.prog g cap (w.alloc (.cells #[.bool false] 4)) fun e w' => ∃ b, e = .returned (.bool b) ∧ R b w' ∧ w'.cell? ⟨w.heap.size, 0, none⟩ = some (.bool false) ∧ w'.frozen? ⟨w.heap.size, 0, none⟩ = false)) :
    Calls Tryd.prog 15 #[.func (.func g) #[] cap] w (TryPost w R) := by
  have hmf : ∀ (fn : Fn) (first cap : Array Value) (w : World), (Instr.makeFunc fn first cap).run Tryd.prog w = .ok (.func fn first cap) w := fun _ _ _ _ => rfl
  go_enter_defers Tryd.func15, Tryd.ntmps15
  go_wp2_with fail
  refine hg.out.mono ?_
  rintro e w1 ⟨b, rfl, hR, hc, hf⟩
  go_wp2
  refine leaves_cons (f := 22) (args := #[.pointer (some ⟨w.heap.size, 0, none⟩)]) (by simp) (by simp [go_sem]) ?_
  refine (catch_idle ⟨w.heap.size, 0, none⟩ _).mono ?_
  rintro e u' w'' ⟨rfl, rfl, rfl⟩
  have hc2 : (w1.setCell ⟨w.heap.size, 0, none⟩ (.bool b)).cell? ⟨w.heap.size, 0, none⟩ = some (.bool b) := World.cell?_setCell_same _ _ _ hc
  have hp : TryPost w R (.returned (.bool b)) (w1.setCell ⟨w.heap.size, 0, none⟩ (.bool b)) := ⟨b, w1, rfl, hR, rfl⟩
  simpa [Leaves, settle, results, Tryd.results15, go_sem, hc2] using hp
end Go.Proofs.YtkaelnfhohggeaaDoor
