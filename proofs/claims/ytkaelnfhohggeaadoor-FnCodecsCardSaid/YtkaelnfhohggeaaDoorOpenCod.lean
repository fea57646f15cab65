/- How an argument []spec.Codec reads: a list of codecs, each with its list of pairs; and what the row's list of laid variables says of an error variable. -/
import Derived.Test.YtkaelnfhohggeaaDoorLawCodBase
import Derived.ProofKit
import Derived.OpenShut
import Derived.Deep.SlicePairs
import Derived.SizedLaws
namespace Go.Proofs.YtkaelnfhohggeaaDoor
open Go.ChangeShapes Go.WideShapes Go.ChangeAt Go.RowKit

theorem weights_mem_all {H : Type} {P : Program} {e : TypeId} : ∀ {ds : List (DataW H)} {d : DataW H}, d ∈ ds → ∀ n ∈ d.weights P e, n ∈ DataW.weightsAll P e ds
  | d0 :: r, d, hd, n, hn => by
    simp only [DataW.weightsAll, List.mem_append]
    rcases List.mem_cons.1 hd with rfl | hd
    · exact .inl hn
    · exact .inr (weights_mem_all hd n hn)

theorem open_skvs {H : Type} {enc : TypeId × Value → H} {W : World} {v : Value} {d : DataW H} {p : List MemPlace} {fuel : Nat} (hf : DataW.trod enc Tryd.prog W 0 (fun _ => true) true fuel 29 [v] = some (d, p)) :
    ∃ (a0 : Option Addr) (cap0 : Nat) (l : List KV), v = .slice a0 l.length cap0 ∧ KVs (fun _ => True) W a0 l ∧ (∀ s ∈ l, s.1.size ≤ 9223372036854775807 ∧ s.2.size ≤ 9223372036854775807) ∧ (l = [] ∨ ∃ xs ys : List (DataW H), d = .slice xs ys ∧ l.length ≤ xs.length + ys.length) := by
  rcases Go.Deep.open_slice_pairs Tryd.underlying29 Tryd.underlying41 (by kernel_rfl) rfl rfl (by kernel_rfl) (by kernel_rfl) hf with ⟨hcs, _⟩ | ⟨a, len0, cap0, m, n, V0, V1, D0, D1, P0, P1, hcs, _, hl, hm, hmm, hx, hc⟩
  · obtain rfl : v = .slice none 0 0 := by simpa using hcs
    exact ⟨none, 0, [], rfl, KVs.nil _ _ _, by simp, .inl rfl⟩
  · obtain rfl : v = .slice (some a) len0 cap0 := by simpa using hcs
    have hm' : m = cap0 := by simpa using hmm
    have str : ∀ i, i < len0 → ∃ q : KV, V0 i = .string q.1 ∧ V1 i = .string q.2 ∧ q.1.size ≤ maxLen ∧ q.2.size ≤ maxLen := fun i hi => by
      obtain ⟨_, _, t0, t1⟩ := hc i (by omega)
      obtain ⟨s0, e0, _, w0⟩ := DataW.trod_string Tryd.underlying9 t0
      obtain ⟨s1, e1, _, w1⟩ := DataW.trod_string Tryd.underlying9 t1
      exact ⟨(s0, s1), by simpa using e0, by simpa using e1, w0, w1⟩
    obtain ⟨f, hf'⟩ := Go.Deep.choose_lt str
    refine ⟨some a, cap0, (List.range len0).map f, by simp, fun k q hq => ?_, fun s hs => ?_, .inr ⟨_, _, congrArg Prod.fst hx, by simp⟩⟩
    · have hk : k < len0 := by have := (List.getElem?_eq_some_iff.1 hq).1; simpa using this
      obtain rfl : f k = q := by simpa [hk] using hq
      obtain ⟨c0, c1, _, _⟩ := hc k (by omega)
      obtain ⟨b, off, spot⟩ := a
      have hspot : spot = none := by
        have h0 := (hc 0 (by omega)).1
        simpa [Addr.add] using World.cell?_spot h0
      subst hspot
      rw [Addr.add_lit, (hf' k hk).1] at c0
      rw [Addr.add_lit, (hf' k hk).2.1] at c1
      exact ⟨b, off, rfl, trivial, c0, by simpa [Nat.add_assoc] using c1⟩
    · obtain ⟨i, hi, rfl⟩ := List.mem_map.1 hs
      have h3 := hf' i (List.mem_range.1 hi)
      exact ⟨h3.2.2.1, h3.2.2.2⟩

theorem Tryd.cells_string : Tryd.prog.cellsOf 9 = 1 := by kernel_rfl
theorem Tryd.cells_int : Tryd.prog.cellsOf 3 = 1 := by kernel_rfl
theorem Tryd.cells_skvs : Tryd.prog.cellsOf 29 = 1 := by kernel_rfl
theorem Tryd.cells_scod : Tryd.prog.cellsOf 31 = 6 := by kernel_rfl
theorem Tryd.bytes_skv : Tryd.prog.bytesOf 41 = 32 := by kernel_rfl
theorem Tryd.bytes_scod : Tryd.prog.bytesOf 31 = 80 := by kernel_rfl

theorem six_of {α : Type} : ∀ {l : List α}, l.length = 6 → ∃ a b c d e f, l = [a, b, c, d, e, f]
  | [a, b, c, d, e, f], _ => ⟨a, b, c, d, e, f, rfl⟩

/-- One codec, from its six cells. -/
theorem open_rcod {H : Type} {enc : TypeId × Value → H} {W : World} {cs : List Value} {x : DataW H × List MemPlace} {fuel : Nat} (h : DataW.trod enc Tryd.prog W 0 (fun _ => true) true fuel 31 cs = some x) (hw : ∀ n ∈ x.1.weights Tryd.prog 31, n ≤ reachBytes) :
    ∃ (c : RCod) (A5 : Option Addr) (c5 : Nat), cs = [.string c.name, .int .i64 c.rate, .int .i64 c.chans, .int .i64 c.pay, .string c.line, .slice A5 c.fb.length c5] ∧ KVs (fun _ => True) W A5 c.fb ∧ RSmall c := by
  obtain ⟨xs, n, _, rfl, hlen, hxl, hf⟩ := DataW.trod_struct Tryd.underlying31 h
  rw [Tryd.cells_scod] at hlen
  obtain ⟨y0, y1, y2, y3, y4, y5, rfl⟩ := six_of hxl
  obtain ⟨v0, v1, v2, v3, v4, v5, rfl⟩ := six_of hlen
  have g0 : DataW.trod enc Tryd.prog W 0 (fun _ => true) true n 9 (([v0, v1, v2, v3, v4, v5].drop 0).take (Tryd.prog.cellsOf 9)) = some y0 := hf 0 _ rfl
  have g1 : DataW.trod enc Tryd.prog W 0 (fun _ => true) true n 3 (([v0, v1, v2, v3, v4, v5].drop 1).take (Tryd.prog.cellsOf 3)) = some y1 := hf 1 _ rfl
  have g2 : DataW.trod enc Tryd.prog W 0 (fun _ => true) true n 3 (([v0, v1, v2, v3, v4, v5].drop 2).take (Tryd.prog.cellsOf 3)) = some y2 := hf 2 _ rfl
  have g3 : DataW.trod enc Tryd.prog W 0 (fun _ => true) true n 3 (([v0, v1, v2, v3, v4, v5].drop 3).take (Tryd.prog.cellsOf 3)) = some y3 := hf 3 _ rfl
  have g4 : DataW.trod enc Tryd.prog W 0 (fun _ => true) true n 9 (([v0, v1, v2, v3, v4, v5].drop 4).take (Tryd.prog.cellsOf 9)) = some y4 := hf 4 _ rfl
  have g5 : DataW.trod enc Tryd.prog W 0 (fun _ => true) true n 29 (([v0, v1, v2, v3, v4, v5].drop 5).take (Tryd.prog.cellsOf 29)) = some y5 := hf 5 _ rfl
  rw [Tryd.cells_string] at g0
  rw [Tryd.cells_int] at g1
  rw [Tryd.cells_int] at g2
  rw [Tryd.cells_int] at g3
  rw [Tryd.cells_string] at g4
  rw [Tryd.cells_skvs] at g5
  obtain ⟨s0, e0, _, w0⟩ := DataW.trod_string Tryd.underlying9 g0
  obtain ⟨n1, e1, _, _⟩ := DataW.trod_int Tryd.underlying3 g1
  obtain ⟨n2, e2, _, _⟩ := DataW.trod_int Tryd.underlying3 g2
  obtain ⟨n3, e3, _, _⟩ := DataW.trod_int Tryd.underlying3 g3
  obtain ⟨s4, e4, _, w4⟩ := DataW.trod_string Tryd.underlying9 g4
  obtain ⟨d5, p5⟩ := y5
  obtain ⟨A5, c5, fb, e5, hkv, hsz, hd⟩ := open_skvs (v := v5) g5
  obtain rfl : v0 = .string s0 := by simpa using e0
  obtain rfl : v1 = .int .i64 n1 := by simpa using e1
  obtain rfl : v2 = .int .i64 n2 := by simpa using e2
  obtain rfl : v3 = .int .i64 n3 := by simpa using e3
  obtain rfl : v4 = .string s4 := by simpa using e4
  subst e5
  refine ⟨⟨s0, n1, n2, n3, s4, fb⟩, A5, c5, rfl, hkv, ⟨w0, w4, ?_, hsz⟩⟩
  rcases hd with rfl | ⟨es, bs, rfl, hl⟩
  · simp
  · have hm : (es.length + bs.length) * 32 ∈ (DataW.slice es bs).weights Tryd.prog 29 := by
      rw [DataW.weights, Tryd.underlying29]
      simp only [Tryd.bytes_skv, List.mem_cons, true_or]
    have hm2 : (es.length + bs.length) * 32 ∈ (DataW.agg (List.map (fun x : DataW H × List MemPlace => x.1) [y0, y1, y2, y3, y4, (DataW.slice es bs, p5)])).weights Tryd.prog 31 := by
      rw [DataW.weights, Tryd.underlying31]
      exact DataW.weights_mem_each (j := 5) rfl rfl _ hm
    have := hw _ hm2
    simp only [reachBytes] at this
    show fb.length * 32 ≤ 140737488351232
    omega

instance : Inhabited RCod := ⟨⟨.empty, 0, 0, 0, .empty, []⟩⟩

theorem open_rcods {H : Type} {enc : TypeId × Value → H} {W : World} {a0 : Option Addr} {len0 cap0 : Nat} {d : DataW H} {p : List MemPlace} (h : DataW.Trod enc Tryd.prog W 0 (fun _ => true) true 22 (.slice a0 len0 cap0) d p) (hw : ∀ n ∈ d.weights Tryd.prog 22, n ≤ reachBytes) :
    ∃ l : List RCod, len0 = l.length ∧ l.length ≤ cap0 ∧ l.length ≤ 140737488351232 ∧ RCods W a0 l ∧ ∀ c ∈ l, RSmall c := by
  obtain ⟨fuel, hf⟩ := h
  rcases Go.Deep.open_slice Tryd.underlying22 hf with ⟨hcs, _⟩ | ⟨a, len, cap, m, n, D, Pl, hcs, _, hl, hm, hmm, hx, hc⟩
  · simp [Value.cells] at hcs
    obtain ⟨rfl, rfl, rfl⟩ := hcs
    exact ⟨[], rfl, Nat.le_refl _, by simp, fun k c hk => by simp at hk, by simp⟩
  · simp [Value.cells] at hcs
    obtain ⟨rfl, rfl, rfl⟩ := hcs
    have hm' : m = cap0 := by simpa using hmm
    obtain rfl : d = _ := congrArg Prod.fst hx
    rw [Tryd.cells_scod] at hc
    have hwe : ∀ i, i < len0 → ∀ n ∈ (D i).weights Tryd.prog 31, n ≤ reachBytes := fun i hi n hn => by
      refine hw n ?_
      rw [DataW.weights, Tryd.underlying22]
      exact List.mem_cons_of_mem _ (List.mem_append_left _ (weights_mem_all (List.mem_map.2 ⟨i, List.mem_range.2 hi, rfl⟩) n hn))
    have hw0 : (len0 + (m - len0)) * 80 ≤ reachBytes := by
      refine hw _ ?_
      rw [DataW.weights, Tryd.underlying22]
      simp only [Tryd.bytes_scod, List.length_map, List.length_range, List.mem_cons, true_or]
    simp only [reachBytes] at hw0
    have str : ∀ i, i < len0 → ∃ q : RCod, RSmall q ∧ ∃ (A5 : Option Addr) (c5 : Nat), KVs (fun _ => True) W A5 q.fb ∧ ∀ (j : Nat) (u : Value), ([.string q.name, .int .i64 q.rate, .int .i64 q.chans, .int .i64 q.pay, .string q.line, .slice A5 q.fb.length c5] : List Value)[j]? = some u → W.cell? (a.add (i * 6 + j)) = some u := fun i hi => by
      obtain ⟨cs', h1, h2⟩ := hc i (by omega)
      obtain ⟨q, A5, c5, rfl, hkv, hs⟩ := open_rcod h2 (hwe i hi)
      obtain ⟨_, hlen, hcell⟩ := World.cells?_some h1
      refine ⟨q, hs, A5, c5, hkv, fun j u hu => ?_⟩
      have hj : j < 6 := by have := (List.getElem?_eq_some_iff.1 hu).1; simpa using this
      have e := hcell j hj
      rw [Go.Deep.add_add, hu] at e
      exact e
    obtain ⟨f, hf'⟩ := Go.Deep.choose_lt str
    refine ⟨(List.range len0).map f, by simp, by simpa using hl, by simp; omega, fun k q hq => ?_, fun s hs => ?_⟩
    · have hk : k < len0 := by have := (List.getElem?_eq_some_iff.1 hq).1; simpa using this
      obtain rfl : f k = q := by simpa [hk] using hq
      obtain ⟨_, A5, c5, hkv, hcell⟩ := hf' k hk
      obtain ⟨b, off, spot⟩ := a
      have hspot : spot = none := by
        obtain ⟨_, _, _, _, h0⟩ := hf' 0 (by omega)
        simpa [Addr.add] using World.cell?_spot (h0 0 _ rfl)
      subst hspot
      simp only [Addr.add_lit] at hcell
      exact ⟨b, off, A5, c5, rfl, hcell 0 _ rfl, hcell 1 _ rfl, hcell 2 _ rfl, hcell 3 _ rfl, hcell 4 _ rfl, hcell 5 _ rfl, hkv⟩
    · obtain ⟨i, hi, rfl⟩ := List.mem_map.1 hs
      exact (hf' i (List.mem_range.1 hi)).1
end Go.Proofs.YtkaelnfhohggeaaDoor
