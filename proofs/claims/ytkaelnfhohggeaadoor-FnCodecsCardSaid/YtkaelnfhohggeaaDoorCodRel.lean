/- What the map of codecs holds while the attributes are read. -/
import Derived.Test.YtkaelnfhohggeaaDoorCodSteps
namespace Go.Proofs.YtkaelnfhohggeaaDoor
open Go.RowKit Go.Maps

/-- Block m is the map; f what it holds, V the rows of feedback: each a row of its own. -/
structure Rel (w : World) (m B n : Nat) (F : Nat → Option CodA) (f : Nat → Option Value) (V : Nat → Value) : Prop where
  map : CodMap w m n f
  lt : m < B
  le : B ≤ w.heap.size
  some_ : ∀ k a, F k = some a → f k = some (codV k a.name a.rate a.enc a.line (V k)) ∧ w.ownsRow B 9 1 (V k) a.fbs.length (a.fbs.map Value.string) ∧ (a.fbs = [] → V k = .slice none 0 0)
  none_ : ∀ k, 96 ≤ k → F k = none → f k = none
  shape : ∀ k v, f k = some v → ∃ (p r : Nat) (nm e l : ByteArray) (A : Option Addr) (x c : Nat), v = codV p nm r e l (.slice A x c)
  apart : ∀ k k' b, k ≠ k' → F k ≠ none → F k' ≠ none → (V k).ownBlock = some b → (V k').ownBlock ≠ some b

section
variable {w w' : World} {m B n : Nat} {F : Nat → Option CodA} {f : Nat → Option Value} {V : Nat → Value}
theorem Rel.row_lt (h : Rel w m B n F f V) {k : Nat} {a : CodA} (hk : F k = some a) : ∀ j, (V k).ownBlock = some j → B ≤ j ∧ j < w.heap.size := fun j hj => ((h.some_ k a hk).2.1).lt j hj
theorem Rel.below (h : Rel w m B n F f V) (hb : Below w.heap.size w w') : Rel w' m B n F f V :=
  ⟨h.map.below hb, h.lt, Nat.le_trans h.le hb.size, fun k a e => let ⟨h1, h2, h3⟩ := h.some_ k a e; ⟨h1, own_below h2 hb, h3⟩, h.none_, h.shape, h.apart⟩
/-- Another block is written. -/
theorem Rel.grown {r : Nat} (h : Rel w m B n F f V) (hg : w.grownBy w' (some r)) (hm : m ≠ r) (hr : ∀ k a, F k = some a → (V k).ownBlock ≠ some r) : Rel w' m B n F f V :=
  ⟨h.map.grown hg (fun e => hm (by injection e)), h.lt, Nat.le_trans h.le hg.size, fun k a e => let ⟨h1, h2, h3⟩ := h.some_ k a e; ⟨h1, h2.kept hg (.inr (hr k a e)), h3⟩, h.none_, h.shape, h.apart⟩
theorem Rel.alloc (h : Rel w m B n F f V) (o : Obj) : Rel (w.alloc o) m B n F f V := h.below ((Below.refl _ _).alloc (Nat.le_refl _) o)

/-- One codec's entry is written; its row is none or the one that was there. -/
theorem Rel.put {n' pay : Nat} {F' : CodA} {v' : Value} {w1 : World} (h : Rel w m B n F f V) (hpay : 96 ≤ pay)
    (hm : CodMap w' m n' (updF f pay (codV pay F'.name F'.rate F'.enc F'.line v'))) (hr : w'.ownsRow B 9 1 v' F'.fbs.length (F'.fbs.map Value.string)) (hnil : F'.fbs = [] → v' = .slice none 0 0)
    (row : Option Nat) (hrow : ∀ b, row = some b → F pay ≠ none ∧ (V pay).ownBlock = some b) (hg1 : w.grownBy w1 row) (hg2 : w1.grownBy w' (some m))
    (hv : ∀ b, v'.ownBlock = some b → (F pay ≠ none ∧ (V pay).ownBlock = some b) ∨ w.heap.size ≤ b) :
    Rel w' m B n' (updA F pay F') (updF f pay (codV pay F'.name F'.rate F'.enc F'.line v')) (fun j => if j = pay then v' else V j) := by
  refine ⟨hm, h.lt, Nat.le_trans h.le (Nat.le_trans hg1.size hg2.size), fun k a e => ?_, fun k hk e => ?_, fun k v e => ?_, fun k k' b hne e e' hb => ?_⟩
  · by_cases ek : k = pay
    · subst ek
      rw [updA_same] at e
      injection e with e
      subst e
      rw [updF_same]
      simp only [if_true]
      exact ⟨trivial, hr, hnil⟩
    · rw [updA_other ek] at e
      rw [updF_other ek]
      simp only [if_neg ek]
      obtain ⟨h1, h2, h3⟩ := h.some_ k a e
      have lt := h.row_lt e
      have n1 : (V k).ownBlock = none ∨ (V k).ownBlock ≠ row := by
        cases eo : (V k).ownBlock with
        | none => exact .inl rfl
        | some b =>
          refine .inr fun q => ?_
          obtain ⟨hp, hb⟩ := hrow b q.symm
          exact h.apart pay k b (fun e2 => ek e2.symm) hp (by rw [e]; simp) hb eo
      have n2 : (V k).ownBlock = none ∨ (V k).ownBlock ≠ some m := by
        refine .inr fun q => ?_
        have := (lt m q).1
        have := h.lt
        omega
      exact ⟨h1, (h2.kept hg1 n1).kept hg2 n2, h3⟩
  · by_cases ek : k = pay
    · subst ek; rw [updA_same] at e; cases e
    · rw [updA_other ek] at e
      rw [updF_other ek]
      exact h.none_ k hk e
  · by_cases ek : k = pay
    · subst ek
      rw [updF_same] at e
      cases e
      obtain ⟨A, c, rfl⟩ := own_shape hr
      exact ⟨_, _, _, _, _, _, _, _, rfl⟩
    · rw [updF_other ek] at e
      exact h.shape k v e
  · have other : ∀ j, j ≠ pay → updA F pay F' j ≠ none → F j ≠ none := fun j hj hn => by rwa [updA_other hj] at hn
    have lt : ∀ j, F j ≠ none → ∀ b, (V j).ownBlock = some b → b < w.heap.size := fun j hj b hb => by
      cases ej : F j with
      | none => exact absurd ej hj
      | some a => exact (h.row_lt ej b hb).2
    by_cases ek : k = pay
    · subst ek
      have ek' : k' ≠ k := fun e2 => hne e2.symm
      simp only [if_true] at hb
      simp only [if_neg ek']
      intro hb'
      rcases hv b hb with ⟨h1, h2⟩ | h1
      · exact h.apart k k' b hne h1 (other k' ek' e') h2 hb'
      · have := lt k' (other k' ek' e') b hb'
        omega
    · simp only [if_neg ek] at hb
      by_cases ek' : k' = pay
      · subst ek'
        simp only [if_true]
        intro hb'
        rcases hv b hb' with ⟨h1, h2⟩ | h1
        · exact h.apart k k' b hne (other k ek e) h1 hb h2
        · have := lt k (other k ek e) b hb
          omega
      · simp only [if_neg ek']
        exact h.apart k k' b hne (other k ek e) (other k' ek' e') hb
end
end Go.Proofs.YtkaelnfhohggeaaDoor
