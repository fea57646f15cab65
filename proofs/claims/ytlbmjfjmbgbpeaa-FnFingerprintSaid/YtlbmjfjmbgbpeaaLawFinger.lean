/- FnFingerprint: the law returns true: a description's fingerprint is the one of the session, or of its media if they all have the same. -/
import Derived.Test.YtlbmjfjmbgbpeaaFingerFn
import Derived.Test.YtlbmjfjmbgbpeaaHash
namespace Go.Proofs.Ytlbmjfjmbgbpeaa
open Go.RowKit

theorem Try.infoMedia : (Try.prog.info? 29).map (fun i => (i.zero, i.size, i.bytes)) = some (some (.agg #[.string ByteArray.empty, .slice none 0 0, .slice none 0 0]), 3, 64) := by kernel_rfl

/-- k media with one attribute, which lies in block a. -/
def medCells (a : Nat) : Nat → List Value
  | 0 => []
  | k + 1 => .string ⟨#[97, 117, 100, 105, 111]⟩ :: .slice none 0 0 :: .slice (some ⟨a, 0, none⟩) 1 1 :: medCells a k
theorem medCells_snoc (a : Nat) : ∀ k, medCells a (k + 1) = medCells a k ++ [.string ⟨#[97, 117, 100, 105, 111]⟩, .slice none 0 0, .slice (some ⟨a, 0, none⟩) 1 1]
  | 0 => rfl
  | k + 1 => congrArg (fun l => Value.string ⟨#[97, 117, 100, 105, 111]⟩ :: .slice none 0 0 :: .slice (some ⟨a, 0, none⟩) 1 1 :: l) (medCells_snoc a k)
theorem medCells_length (a : Nat) : ∀ k, (medCells a k).length = k * 3
  | 0 => rfl
  | k + 1 => by simp only [medCells, List.length_cons, medCells_length a k]; omega
theorem medCells_get (a : Nat) : ∀ (n k : Nat), k < n → (medCells a n)[k * 3]? = some (.string ⟨#[97, 117, 100, 105, 111]⟩) ∧ (medCells a n)[k * 3 + 1]? = some (.slice none 0 0) ∧ (medCells a n)[k * 3 + 2]? = some (.slice (some ⟨a, 0, none⟩) 1 1)
  | 0, k, h => by omega
  | n + 1, 0, _ => ⟨rfl, rfl, rfl⟩
  | n + 1, k + 1, h => by
    have := medCells_get a n k (by omega)
    rw [show (k + 1) * 3 = k * 3 + 3 by omega, show k * 3 + 3 + 1 = k * 3 + 1 + 3 by omega, show k * 3 + 3 + 2 = k * 3 + 2 + 3 by omega]
    simpa [medCells] using this
def fpMed (u : ByteArray) : MediaD := ⟨⟨#[97, 117, 100, 105, 111]⟩, [], [(⟨#[102, 105, 110, 103, 101, 114, 112, 114, 105, 110, 116]⟩, u)]⟩
theorem own_fpMeds {w : World} {base a n : Nat} {e : TypeId} {v : Value} {u : ByteArray} (h : w.ownsRow base e 3 v n (medCells a n)) (c0 : w.cell? ⟨a, 0, none⟩ = some (.string ⟨#[102, 105, 110, 103, 101, 114, 112, 114, 105, 110, 116]⟩)) (c1 : w.cell? ⟨a, 1, none⟩ = some (.string u)) :
    ∃ A c, v = .slice A (List.replicate n (fpMed u)).length c ∧ Meds w A (List.replicate n (fpMed u)) := by
  have hc := @World.ownsRow.cells _ _ _ _ _ _ _ h
  rw [List.length_replicate]
  rcases h.2 with ⟨rfl, hx⟩ | ⟨g, cap, cur, rfl, _⟩
  · have h1 := h.1
    rw [hx] at h1
    simp at h1
    obtain rfl : n = 0 := by omega
    exact ⟨none, 0, rfl, Meds.nil _ _⟩
  · refine ⟨_, _, rfl, fun k m hm => ?_⟩
    have hk : k < n := by have := (List.getElem?_eq_some_iff.1 hm).1; simpa using this
    obtain rfl : fpMed u = m := by rw [List.getElem?_replicate, if_pos hk] at hm; exact Option.some.inj hm
    obtain ⟨g0, g1, g2⟩ := medCells_get a n k hk
    refine ⟨g, 0, none, 0, some ⟨a, 0, none⟩, 1, rfl, ?_, ?_, Strs.nil _ _ _, ?_, kvs_one c0 (by simpa using c1)⟩
    · have := hc (g := g) rfl _ _ g0
      simpa [add_at, fpMed] using this
    · have := hc (g := g) rfl _ _ g1
      simpa [add_at, Nat.add_assoc, fpMed] using this
    · have := hc (g := g) rfl _ _ g2
      simpa [add_at, Nat.add_assoc, fpMed] using this

theorem fpK_hit (u : ByteArray) : attrHas fpK [(⟨#[102, 105, 110, 103, 101, 114, 112, 114, 105, 110, 116]⟩, u)] = true ∧ attrOf fpK [(⟨#[102, 105, 110, 103, 101, 114, 112, 114, 105, 110, 116]⟩, u)] = u := by
  constructor
  · simp [attrHas, fpK]
  · rw [attrOf, if_pos (by simp [fpK])]
theorem says_session (u : ByteArray) (ms : List MediaD) : FpSays [(⟨#[102, 105, 110, 103, 101, 114, 112, 114, 105, 110, 116]⟩, u)] ms u := .inl (fpK_hit u)
theorem says_media (u : ByteArray) {n : Nat} (hn : 0 < n) : FpSays [] (List.replicate n (fpMed u)) u :=
  .inr ⟨rfl, by simpa using hn, fun m hm => by obtain rfl := List.eq_of_mem_replicate hm; exact ⟨(fpK_hit u).1, (fpK_hit u).2, by simp [fpMed]⟩⟩

theorem sha_pieces {s : ByteArray} (hs : ∀ b ∈ s.data.toList, b ≠ 32) : piecesB 32 (⟨#[115, 104, 97, 45, 50, 53, 54, 32]⟩ ++ s) = [⟨#[115, 104, 97, 45, 50, 53, 54]⟩, s] := by
  unfold piecesB
  rw [data_append]
  have := pieces_mid 32 [115, 104, 97, 45, 50, 53, 54] s.data.toList (by decide)
  show (pieces 32 ([115, 104, 97, 45, 50, 53, 54] ++ 32 :: s.data.toList)).map _ = _
  rw [this, pieces_whole 32 _ hs, List.map_cons, List.map_cons, List.map_nil, Lib.mk_data]
theorem sha_ne (s : ByteArray) : ((⟨#[115, 104, 97, 45, 50, 53, 54, 32]⟩ ++ s : ByteArray).toList == []) = false := by
  rw [Lib.toList_data, data_append]; rfl

set_option maxHeartbeats 4000000 in
set_option maxRecDepth 100000 in
theorem fnFinger_walk (s : ByteArray) (m : Int) (w : World) (hs0 : s.size ≤ 9223372036854775807) :
    Calls Try.prog 6 #[.string s, .int .i64 m] w fun e w' => e = .returned (.bool true) ∧ Below w.heap.size w w' := by
  by_cases hs : s.size ≤ 2147483647
  case neg =>
    have hd : decide ((2147483647 : Int) < (s.size : Int)) = true := by simp; omega
    go_enter Try.func6, Try.ntmps6
    go_wp2
    go_ret
    exact ⟨rfl, Below.refl _ _⟩
  have hd0 : decide ((2147483647 : Int) < (s.size : Int)) = false := by simp; omega
  go_enter Try.func6, Try.ntmps6
  go_wp2_with fail
  refine (hash_any s _ (by omega)).mono ?_
  rintro e w1 ⟨⟨bb, rfl, hyes⟩, rfl⟩
  cases bb with
  | false =>
    clear hyes
    go_wp2_with (go_at_call 7; refine (works_any _).mono ?_; rintro e w2 ⟨rfl, hb2⟩)
    go_ret
    exact ⟨rfl, hb2⟩
  | true =>
    obtain ⟨hno, h5, h95⟩ := hyes rfl
    have HNO := Lib.hid hno
    clear hno hyes
    by_cases hneg : m < 0
    · have a1 : decide (m < 0) = true := by simp; omega
      go_wp2_with (go_at_call 7; refine (works_any _).mono ?_; rintro e w2 ⟨rfl, hb2⟩)
      go_ret
      exact ⟨rfl, hb2⟩
    have a1 : decide (m < 0) = false := by simp; omega
    by_cases hbig : 5 < m
    · have a2 : decide (5 < m) = true := by simp; omega
      go_wp2_with (go_at_call 7; refine (works_any _).mono ?_; rintro e w2 ⟨rfl, hb2⟩)
      go_ret
      exact ⟨rfl, hb2⟩
    have a2 : decide (5 < m) = false := by simp; omega
    have hsz : (⟨#[115, 104, 97, 45, 50, 53, 54, 32]⟩ ++ s : ByteArray).size ≤ 4294967296 := by
      rw [ByteArray.size_append]; have : (⟨#[115, 104, 97, 45, 50, 53, 54, 32]⟩ : ByteArray).size = 8 := rfl; omega
    have hfc : ∀ (w : World) (bA nA : Option Addr) (bc nc : Nat) (l : List KV) (ms : List MediaD), l.length ≤ 1 → ms.length ≤ 5 → (∀ m ∈ ms, m = fpMed (⟨#[115, 104, 97, 45, 50, 53, 54, 32]⟩ ++ s)) → FpSays l ms (⟨#[115, 104, 97, 45, 50, 53, 54, 32]⟩ ++ s) → KVs (fun _ => True) w bA l → Meds w nA ms →
        Calls Try.prog 18 #[.agg #[.slice bA l.length bc, .slice nA ms.length nc]] w fun e w' => e = .returned (.tuple #[.string s, .string ⟨#[115, 104, 97, 45, 50, 53, 54]⟩, .bool true]) ∧ Below w.heap.size w w' := fun w bA nA bc nc l ms h1 h2 h3 h4 h5 h6 =>
      finger_any (E := fun _ => True) _ ⟨#[115, 104, 97, 45, 50, 53, 54]⟩ s bA nA bc nc l ms w (by omega) (by omega) (fun m hm => by rw [h3 m hm]; exact ⟨by simp [fpMed], by simp [fpMed]⟩) hsz (sha_ne s) (sha_pieces HNO.out) h4 h5 h6
    have HFC := Lib.hid hfc
    clear hfc
    obtain ⟨n, rfl⟩ : ∃ n : Nat, m = (n : Int) := ⟨m.toNat, by omega⟩
    have hf0 : ∀ (w : World) (a : Nat), w.cell? ⟨a, 0, none⟩ = some (.string ⟨#[102, 105, 110, 103, 101, 114, 112, 114, 105, 110, 116]⟩) → w.cell? ⟨a, 1, none⟩ = some (.string (⟨#[115, 104, 97, 45, 50, 53, 54, 32]⟩ ++ s)) →
        Calls Try.prog 18 #[.agg #[.slice (some ⟨a, 0, none⟩) 1 1, .slice none 0 0]] w fun e w' => e = .returned (.tuple #[.string s, .string ⟨#[115, 104, 97, 45, 50, 53, 54]⟩, .bool true]) ∧ Below w.heap.size w w' := fun w a c0 c1 =>
      HFC.out w (some ⟨a, 0, none⟩) none 1 0 [(⟨#[102, 105, 110, 103, 101, 114, 112, 114, 105, 110, 116]⟩, ⟨#[115, 104, 97, 45, 50, 53, 54, 32]⟩ ++ s)] [] (by simp) (by simp) (by simp) (says_session _ _) (kvs_one c0 (by simpa using c1)) (Meds.nil _ _)
    have hfn : ∀ (w : World) (A : Option Addr) (c n : Nat), 0 < n → n ≤ 5 → Meds w A (List.replicate n (fpMed (⟨#[115, 104, 97, 45, 50, 53, 54, 32]⟩ ++ s))) →
        Calls Try.prog 18 #[.agg #[.slice none 0 0, .slice A n c]] w fun e w' => e = .returned (.tuple #[.string s, .string ⟨#[115, 104, 97, 45, 50, 53, 54]⟩, .bool true]) ∧ Below w.heap.size w w' := fun w A c n h1 h2 h3 => by
      have := HFC.out w none A 0 c [] (List.replicate n (fpMed (⟨#[115, 104, 97, 45, 50, 53, 54, 32]⟩ ++ s))) (by simp) (by simpa using h2) (fun m hm => List.eq_of_mem_replicate hm) (says_media _ h1) (KVs.nil _ _ _) h3
      rw [List.length_replicate] at this
      exact this
    have HF0 := Lib.hid hf0
    have HFN := Lib.hid hfn
    clear hf0 hfn HFC
    obtain ⟨i0, hi, hz0, hz1, hz2⟩ := info_parts Try.infoMedia
    by_cases hn0 : n = 0
    · subst hn0
      go_wp2
      go_loopw [35] (fun i wr => i = .int .i64 0 ∧ wr.cell? ⟨w.heap.size, 0, none⟩ = some (.string ⟨#[102, 105, 110, 103, 101, 114, 112, 114, 105, 110, 116]⟩) ∧ wr.cell? ⟨w.heap.size, 1, none⟩ = some (.string (⟨#[115, 104, 97, 45, 50, 53, 54, 32]⟩ ++ s)) ∧ wr.cell? ⟨w.heap.size + 1, 0, none⟩ = some (.slice (some ⟨w.heap.size, 0, none⟩) 1 1) ∧ wr.cell? ⟨w.heap.size + 1, 1, none⟩ = some (.slice none 0 0) ∧ Below w.heap.size w wr) (fun _ _ => 0)
      case atStart => exact ⟨rfl, by simp [go_sem], by simp [go_sem], by simp [go_sem], by simp [go_sem], ((Below.refl _ _).alloc (Nat.le_refl _) _).alloc (by simp) _⟩
      case round =>
        obtain ⟨rfl, m0, m1, d0, d1, hb⟩ := hrel
        have hs1 := hb.size
        go_wp2_with (first
          | (go_at_call 18; refine (HF0.out _ _ m0 m1).mono ?_; rintro e w1 ⟨rfl, hb1⟩)
          | (go_at_call 7; refine (works_any _).mono ?_; rintro e w2 ⟨rfl, hb2⟩))
        go_ret
        exact ⟨rfl, below_step (below_step hb hs1 hb1) (by have := hb1.size; omega) hb2⟩
    · have hnz : ((n : Int) == 0) = false := by simp; omega
      have hnd : decide ((n : Int) = 0) = false := by simp; omega
      have hn5 : n ≤ 5 := by omega
      go_wp2
      go_loopw [35] (fun i wr => ∃ (k : Nat) (v : Value), k ≤ n ∧ i = .int .i64 k ∧ wr.cell? ⟨w.heap.size, 0, none⟩ = some (.string ⟨#[102, 105, 110, 103, 101, 114, 112, 114, 105, 110, 116]⟩) ∧ wr.cell? ⟨w.heap.size, 1, none⟩ = some (.string (⟨#[115, 104, 97, 45, 50, 53, 54, 32]⟩ ++ s)) ∧ wr.cell? ⟨w.heap.size + 1, 0, none⟩ = some (.slice none 0 0) ∧ wr.cell? ⟨w.heap.size + 1, 1, none⟩ = some v ∧ wr.frozen? ⟨w.heap.size + 1, 1, none⟩ = false ∧
          wr.ownsRow (w.heap.size + 2) 29 3 v k (medCells w.heap.size k) ∧ Below w.heap.size w wr) (fun i _ => n - (intOf i).toNat)
      case atStart => exact ⟨0, _, Nat.zero_le _, rfl, by simp [go_sem], by simp [go_sem], by simp [go_sem], by simp [go_sem], by simp [go_sem], World.ownsRow_nil _ _ _ _, ((Below.refl _ _).alloc (Nat.le_refl _) _).alloc (by simp) _⟩
      case round =>
        obtain ⟨wo, rfl⟩ : ∃ wo : World, wo = wr := ⟨_, rfl⟩
        obtain ⟨k, v, hk, rfl, m0, m1, d0, d1, dz, hown, hb⟩ := hrel
        have HOWN := Lib.hid hown
        clear hown
        have hsz := hb.size
        have lt1 : w.heap.size + 1 < wo.heap.size := World.block_lt_of_cell? _ _ d0
        by_cases hlt : k < n
        · have hd : decide ((k : Int) < (n : Int)) = true := by simp; omega
          go_wp2_with (at_builtin; refine wpList_append_own _ rfl _ _ 31 rfl (w.heap.size + 2) 29 i0 _ 3 64 Try.underlying31 hi hz0 hz1 hz2 rfl (by decide) v k (medCells w.heap.size k) rfl (HOWN.out.alloc _) ⟨wo.heap.size, 0, none⟩ 1 1 [.string ⟨#[97, 117, 100, 105, 111]⟩, .slice none 0 0, .slice (some ⟨w.heap.size, 0, none⟩) 1 1] rfl rfl ?c1 ?c2 ?c3 ?c4 ?c5 ?_)
          case c1 => exact World.news_of_block (cs := #[.string ⟨#[97, 117, 100, 105, 111]⟩, .slice none 0 0, .slice (some ⟨w.heap.size, 0, none⟩) 1 1]) (t := 29) (fr := (0, 0)) (heap_alloc_new wo _)
          case c2 => intro u hu; simp at hu; rcases hu with rfl | rfl | rfl <;> rfl
          case c3 => unfold maxLen; omega
          case c4 => omega
          case c5 => simp; omega
          intro v' w1 hown' hgrow _
          obtain ⟨Av, cv, rfl⟩ := own_shape hown'
          have ne0 : some w.heap.size ≠ v.ownBlock := fun e => by have := (HOWN.out.lt _ e.symm).1; omega
          have ne1 : some (w.heap.size + 1) ≠ v.ownBlock := fun e => by have := (HOWN.out.lt _ e.symm).1; omega
          have n0 : w1.cell? ⟨w.heap.size, 0, none⟩ = some (.string ⟨#[102, 105, 110, 103, 101, 114, 112, 114, 105, 110, 116]⟩) := (hgrow.cell_far _ (by simp; omega) ne0).trans (cell_al m0 _)
          have n1 : w1.cell? ⟨w.heap.size, 1, none⟩ = some (.string (⟨#[115, 104, 97, 45, 50, 53, 54, 32]⟩ ++ s)) := (hgrow.cell_far _ (by simp; omega) ne0).trans (cell_al m1 _)
          have n2 : w1.cell? ⟨w.heap.size + 1, 0, none⟩ = some (.slice none 0 0) := (hgrow.cell_far _ (by simp; omega) ne1).trans (cell_al d0 _)
          have n3 : w1.cell? ⟨w.heap.size + 1, 1, none⟩ = some v := (hgrow.cell_far _ (by simp; omega) ne1).trans (cell_al d1 _)
          have nz : w1.frozen? ⟨w.heap.size + 1, 1, none⟩ = false := (hgrow.frozen_far _ (by simp; omega) ne1).trans (frozen_al d1 dz _)
          rw [← medCells_snoc] at hown'
          have own2 := ownsRow_setCell_below (a := ⟨w.heap.size + 1, 1, none⟩) hown' (by show w.heap.size + 1 < w.heap.size + 2; omega) (.slice Av (k + 1) cv)
          have bel : Below w.heap.size w (w1.setCell ⟨w.heap.size + 1, 1, none⟩ (.slice Av (k + 1) cv)) := ((hb.alloc hsz _).grown hgrow (by simp; omega) (fun j hj => by have := (HOWN.out.lt _ hj).1; omega)).setCell (by simp) _
          have G0 := Lib.hid n0
          have G1 := Lib.hid n1
          have G2 := Lib.hid n2
          have G3 := Lib.hid (World.cell?_setCell_same _ _ (.slice Av (k + 1) cv) n3)
          have G4 := Lib.hid nz
          have G5 := Lib.hid own2
          have G6 := Lib.hid bel
          clear hown' hgrow own2 bel n0 n1 n2 m0 m1 d0 d1 dz
          go_wp2
          go_roundw
          case rel => exact ⟨k + 1, _, by omega, by go_num, (World.cell?_setCell_other _ _ _ _ (fun e => by simp at e)).trans G0.out, (World.cell?_setCell_other _ _ _ _ (fun e => by simp at e)).trans G1.out, (World.cell?_setCell_other _ _ _ _ (fun e => by simp at e)).trans G2.out, G3.out, by rw [World.frozen?_setCell]; exact G4.out, G5.out, G6.out⟩
          case measure => simp [intOf]; omega
        · obtain rfl : k = n := by omega
          have hd : decide ((k : Int) < (k : Int)) = false := by simp
          obtain ⟨A, c, rfl, hmeds⟩ := own_fpMeds (u := ⟨#[115, 104, 97, 45, 50, 53, 54, 32]⟩ ++ s) HOWN.out m0 m1
          rw [List.length_replicate] at d1
          have HMD := Lib.hid hmeds
          clear hmeds
          go_wp2_with (first
            | (go_at_call 18; refine (HFN.out _ A c k (by omega) hn5 HMD.out).mono ?_; rintro e w1 ⟨rfl, hb1⟩)
            | (go_at_call 7; refine (works_any _).mono ?_; rintro e w2 ⟨rfl, hb2⟩))
          go_ret
          exact ⟨rfl, below_step (below_step hb hsz hb1) (by have := hb1.size; omega) hb2⟩
end Go.Proofs.Ytlbmjfjmbgbpeaa
