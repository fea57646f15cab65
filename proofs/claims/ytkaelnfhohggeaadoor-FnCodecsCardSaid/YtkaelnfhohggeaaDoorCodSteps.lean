/- The steps of reading FnCodecs' attributes, told plainly. -/
import Derived.Test.YtkaelnfhohggeaaDoorCodMerge
namespace Go.Proofs.YtkaelnfhohggeaaDoor
open Go.RowKit Go.Maps

inductive CStep where
  | map (c : Cod)
  | line (c : Cod)
  | fb (c : Cod) (f : KV)
def stepAttr : CStep → KV
  | .map c => (kMap, mapVal c)
  | .line c => (kLine, lineVal c)
  | .fb c f => (kFb, fbVal c f)
def codSteps (c : Cod) : List CStep := .map c :: ((if c.line.size = 0 then [] else [.line c]) ++ c.fb.map fun f => .fb c f)
theorem codAttrs_steps (c : Cod) : codAttrs c = (codSteps c).map stepAttr := by
  unfold codAttrs codSteps
  split <;> simp [stepAttr, Function.comp_def]

/-- What is known of a codec on the way. -/
structure CodA where
  name : ByteArray
  rate : Nat
  enc : ByteArray
  line : ByteArray
  fbs : List ByteArray
def updA (F : Nat → Option CodA) (k : Nat) (a : CodA) : Nat → Option CodA := fun j => if j = k then some a else F j
theorem updA_same (F : Nat → Option CodA) (k : Nat) (a : CodA) : updA F k a k = some a := by simp [updA]
theorem updA_other {F : Nat → Option CodA} {k j : Nat} {a : CodA} (h : j ≠ k) : updA F k a j = F j := by simp [updA, h]
def stepA (F : Nat → Option CodA) : CStep → (Nat → Option CodA)
  | .map c => updA F c.pay ⟨c.name, c.rate, encB c, ⟨#[]⟩, []⟩
  | .line c => match F c.pay with | some a => updA F c.pay { a with line := c.line } | none => F
  | .fb c f => match F c.pay with | some a => updA F c.pay { a with fbs := a.fbs ++ [fbText f] } | none => F
def okStep (F : Nat → Option CodA) : CStep → Prop
  | .map c => CodIs c ∧ F c.pay = none
  | .line c => CodIs c ∧ 0 < c.line.size ∧ ∃ a, F c.pay = some a ∧ a.line = ⟨#[]⟩ ∧ a.fbs = [] ∧ wordB a.name = true ∧ 0 < a.rate
  | .fb c f => CodIs c ∧ f ∈ c.fb ∧ ∃ a, F c.pay = some a ∧ wordB a.name = true ∧ 0 < a.rate ∧ a.fbs.length ≤ 3
def GoodFrom : (Nat → Option CodA) → List CStep → Prop
  | _, [] => True
  | F, s :: r => okStep F s ∧ GoodFrom (stepA F s) r
theorem good_at : ∀ (L : List CStep) (F : Nat → Option CodA) (k : Nat) (hk : k < L.length), GoodFrom F L → okStep ((L.take k).foldl stepA F) L[k]
  | s :: r, F, 0, _, h => h.1
  | s :: r, F, k + 1, hk, h => good_at r (stepA F s) k (by simpa using hk) h.2
theorem fold_succ (L : List CStep) (F : Nat → Option CodA) (k : Nat) (hk : k < L.length) : (L.take (k + 1)).foldl stepA F = stepA ((L.take k).foldl stepA F) L[k] := by
  rw [List.take_add_one, List.getElem?_eq_getElem hk, List.foldl_append]
  rfl
theorem good_append : ∀ (L M : List CStep) (F : Nat → Option CodA), GoodFrom F L → GoodFrom (L.foldl stepA F) M → GoodFrom F (L ++ M)
  | [], _, _, _, h => h
  | s :: r, M, F, h, h2 => ⟨h.1, good_append r M (stepA F s) h.2 h2⟩

/-- The feedback of one codec, piece by piece. -/
theorem fb_steps (c : Cod) (hc : CodIs c) : ∀ (rest done : List KV) (F : Nat → Option CodA) (a : CodA), c.fb = done ++ rest → F c.pay = some a → wordB a.name = true → 0 < a.rate → a.fbs = done.map fbText →
    GoodFrom F (rest.map fun f => .fb c f) ∧ ((rest.map fun f => CStep.fb c f).foldl stepA F) c.pay = some { a with fbs := c.fb.map fbText } ∧ ∀ k, k ≠ c.pay → ((rest.map fun f => CStep.fb c f).foldl stepA F) k = F k
  | [], done, F, a, e, hF, hn, hr, hd => by
    refine ⟨trivial, ?_, fun _ _ => rfl⟩
    rw [List.append_nil] at e
    rw [e, ← hd]
    exact hF
  | f :: r, done, F, a, e, hF, hn, hr, hd => by
    have hs : stepA F (.fb c f) = updA F c.pay { a with fbs := a.fbs ++ [fbText f] } := by simp only [stepA, hF]
    have hlen := hc.len
    have hl : a.fbs.length ≤ 3 := by
      rw [hd, List.length_map]
      have : c.fb.length = done.length + (f :: r).length := by rw [e, List.length_append]
      omega
    have hm : f ∈ c.fb := by rw [e]; simp
    obtain ⟨g1, g2, g3⟩ := fb_steps c hc r (done ++ [f]) (stepA F (.fb c f)) { a with fbs := a.fbs ++ [fbText f] } (by rw [e]; simp) (by rw [hs]; exact updA_same _ _ _) hn hr (by rw [hd]; simp)
    exact ⟨⟨⟨hc, hm, a, hF, hn, hr, hl⟩, g1⟩, g2, fun k hk => (g3 k hk).trans (by rw [hs]; exact updA_other hk)⟩
/-- One codec, whole. -/
theorem cod_steps (c : Cod) (hc : CodIs c) (F : Nat → Option CodA) (hF : F c.pay = none) :
    GoodFrom F (codSteps c) ∧ ((codSteps c).foldl stepA F) c.pay = some ⟨c.name, c.rate, encB c, c.line, c.fb.map fbText⟩ ∧ ∀ k, k ≠ c.pay → ((codSteps c).foldl stepA F) k = F k := by
  have hr : 0 < c.rate := hc.rate.1
  have s1 : stepA F (.map c) = updA F c.pay ⟨c.name, c.rate, encB c, ⟨#[]⟩, []⟩ := rfl
  unfold codSteps
  by_cases hl : c.line.size = 0
  · rw [if_pos hl, List.nil_append]
    have el : c.line = ⟨#[]⟩ := by
      apply ByteArray.ext
      apply Array.toList_inj.1
      have : c.line.data.toList.length = 0 := by rw [← Lib.size_eq]; exact hl
      exact List.length_eq_zero_iff.1 this
    obtain ⟨g1, g2, g3⟩ := fb_steps c hc c.fb [] (stepA F (.map c)) ⟨c.name, c.rate, encB c, ⟨#[]⟩, []⟩ rfl (by rw [s1]; exact updA_same _ _ _) hc.name hr rfl
    refine ⟨⟨⟨hc, hF⟩, g1⟩, ?_, fun k hk => (g3 k hk).trans (by rw [s1]; exact updA_other hk)⟩
    rw [el]
    exact g2
  · rw [if_neg hl]
    have s2 : stepA (stepA F (.map c)) (.line c) = updA (stepA F (.map c)) c.pay ⟨c.name, c.rate, encB c, c.line, []⟩ := by
      have : stepA F (.map c) c.pay = some ⟨c.name, c.rate, encB c, ⟨#[]⟩, []⟩ := by rw [s1]; exact updA_same _ _ _
      simp only [stepA] at this ⊢
      rw [this]
    obtain ⟨g1, g2, g3⟩ := fb_steps c hc c.fb [] (stepA (stepA F (.map c)) (.line c)) ⟨c.name, c.rate, encB c, c.line, []⟩ rfl (by rw [s2]; exact updA_same _ _ _) hc.name hr rfl
    refine ⟨⟨⟨hc, hF⟩, ⟨hc, by omega, _, by rw [s1]; exact updA_same _ _ _, rfl, rfl, hc.name, hr⟩, g1⟩, g2, fun k hk => (g3 k hk).trans (by rw [s2, updA_other hk, s1]; exact updA_other hk)⟩

def allSteps (l : List Cod) : List CStep := l.flatMap codSteps
/-- All codecs: each is read whole. -/
theorem all_steps : ∀ (l : List Cod) (F : Nat → Option CodA), (∀ c ∈ l, CodIs c) → (l.map Cod.pay).Nodup → (∀ c ∈ l, F c.pay = none) →
    GoodFrom F (allSteps l) ∧ (∀ c ∈ l, ((allSteps l).foldl stepA F) c.pay = some ⟨c.name, c.rate, encB c, c.line, c.fb.map fbText⟩) ∧ ∀ k, k ∉ l.map Cod.pay → ((allSteps l).foldl stepA F) k = F k
  | [], F, _, _, _ => ⟨trivial, fun c h => by simp at h, fun _ _ => rfl⟩
  | c :: r, F, hc, hd, hF => by
    obtain ⟨g1, g2, g3⟩ := cod_steps c (hc c (by simp)) F (hF c (by simp))
    have hd' : c.pay ∉ r.map Cod.pay ∧ (r.map Cod.pay).Nodup := by simpa using hd
    have hne : ∀ d ∈ r, d.pay ≠ c.pay := fun d hdr e => hd'.1 (e ▸ List.mem_map.2 ⟨d, hdr, rfl⟩)
    obtain ⟨i1, i2, i3⟩ := all_steps r ((codSteps c).foldl stepA F) (fun d h => hc d (by simp [h])) hd'.2 (fun d h => (g3 d.pay (hne d h)).trans (hF d (by simp [h])))
    have e : allSteps (c :: r) = codSteps c ++ allSteps r := by simp [allSteps]
    rw [e]
    refine ⟨good_append _ _ _ g1 i1, fun d hd => ?_, fun k hk => ?_⟩
    · rw [List.foldl_append]
      rcases List.mem_cons.1 hd with rfl | h
      · rw [i3 _ hd'.1]; exact g2
      · exact i2 d h
    · rw [List.foldl_append]
      have : k ≠ c.pay ∧ k ∉ r.map Cod.pay := by simpa using hk
      rw [i3 k this.2, g3 k this.1]
end Go.Proofs.YtkaelnfhohggeaaDoor
