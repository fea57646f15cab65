/- FnMatch: the law returns true: formats of the same kind, rate and channels go together just if parameters of the same keys have the same values, whatever the size of their letters; those of other kinds, rates or channels do not. -/
import Derived.Test.YtlbmjfjmbgbpeaaGreatDoorAgreeLaw
import Derived.Test.YtlbmjfjmbgbpeaaGreatDoorFits1
namespace Go.Proofs.YtlbmjfjmbgbpeaaGreatDoor
open Go.RowKit Go.Maps

theorem other_opus : otherKind ⟨#[97, 117, 100, 105, 111, 47, 111, 112, 117, 115]⟩ = true := by decide +kernel
theorem other_great : otherKind ⟨#[97, 117, 100, 105, 111, 47, 79, 80, 85, 83]⟩ = true := by decide +kernel
theorem other_other : otherKind ⟨#[97, 117, 100, 105, 111, 47, 111, 116, 104, 101, 114]⟩ = true := by decide +kernel
theorem plain_of_other {s : ByteArray} (h : otherKind s = true) : PlainT s := by
  unfold otherKind at h
  simp only [Bool.and_eq_true, decide_eq_true_eq] at h
  exact ⟨by have := h.1.1; omega, fun j b hb => by simpa using List.all_eq_true.1 h.1.2 b (List.mem_of_getElem? hb)⟩
theorem fold_same : Lib.equalFold (⟨#[97, 117, 100, 105, 111, 47, 111, 112, 117, 115]⟩ : ByteArray).data.toList (⟨#[97, 117, 100, 105, 111, 47, 79, 80, 85, 83]⟩ : ByteArray).data.toList = true := by decide +kernel
theorem fold_other : Lib.equalFold (⟨#[97, 117, 100, 105, 111, 47, 111, 112, 117, 115]⟩ : ByteArray).data.toList (⟨#[97, 117, 100, 105, 111, 47, 111, 116, 104, 101, 114]⟩ : ByteArray).data.toList = false := by decide +kernel

theorem lineGo_size (blank : Bool) : ∀ (l : List KV) (k : Nat) (acc : ByteArray), (∀ p ∈ l, p.1.size ≤ 20 ∧ p.2.size ≤ 20) → (lineGo blank k acc l).size ≤ acc.size + l.length * 43
  | [], _, acc, _ => by simp [lineGo]
  | p :: r, k, acc, h => by
    obtain ⟨h1, h2⟩ := h p (List.mem_cons_self ..)
    have ih := lineGo_size blank r (k + 1) ((if 0 < k then (if blank = true then (acc ++ ⟨#[59]⟩) ++ ⟨#[32]⟩ else acc ++ ⟨#[59]⟩) else acc) ++ ((p.1 ++ ⟨#[61]⟩) ++ p.2)) (fun q hq => h q (List.mem_cons_of_mem _ hq))
    rw [lineGo]
    refine Nat.le_trans ih ?_
    have y1 : (⟨#[59]⟩ : ByteArray).size = 1 := rfl
    have y2 : (⟨#[32]⟩ : ByteArray).size = 1 := rfl
    have y3 : (⟨#[61]⟩ : ByteArray).size = 1 := rfl
    rw [List.length_cons, ByteArray.size_append, ByteArray.size_append, ByteArray.size_append, y3]
    have : (if 0 < k then (if blank = true then (acc ++ ⟨#[59]⟩) ++ ⟨#[32]⟩ else acc ++ ⟨#[59]⟩) else acc).size ≤ acc.size + 2 := by
      split
      · split
        · rw [ByteArray.size_append, ByteArray.size_append, y1, y2]; omega
        · rw [ByteArray.size_append, y1]; omega
      · omega
    omega
theorem line_small (blank : Bool) {l : List KV} (h : ∀ p ∈ l, p.1.size ≤ 20 ∧ p.2.size ≤ 20) (hl : l.length ≤ 8) : (lineOf blank l).size ≤ 4294967296 := by
  have := lineGo_size blank l 0 ⟨#[]⟩ h
  have e : (⟨#[]⟩ : ByteArray).size = 0 := rfl
  unfold lineOf
  omega

/-- The law's premises, and what its callees answer. -/
structure MatchCtx (w : World) (a b : List KV) (x y : ByteArray) (ag : Bool) : Prop where
  fitA : ∀ w', Below w.heap.size w w' → ∀ A c, KVs (fun _ => True) w' A a → Calls Tryz.prog 5 #[.slice A a.length c] w' fun e w2 => e = .returned (.bool true) ∧ Below w'.heap.size w' w2
  fitB : ∀ w', Below w.heap.size w w' → ∀ A c, KVs (fun _ => True) w' A b → Calls Tryz.prog 5 #[.slice A b.length c] w' fun e w2 => e = .returned (.bool true) ∧ Below w'.heap.size w' w2
  pairsA : ∀ w' A c, KVs (fun _ => True) w' A a → Calls Tryz.prog 6 #[.slice A a.length c] w' fun e w2 => ∃ A' c', e = .returned (.slice A' a.length c') ∧ KVs (w'.heap.size ≤ ·) w2 A' a ∧ Below w'.heap.size w' w2
  pairsB : ∀ w' A c, KVs (fun _ => True) w' A b → Calls Tryz.prog 6 #[.slice A b.length c] w' fun e w2 => ∃ A' c', e = .returned (.slice A' b.length c') ∧ KVs (w'.heap.size ≤ ·) w2 A' b ∧ Below w'.heap.size w' w2
  paramsA : ∀ (D : Nat → Prop) w' A c, KVs D w' A a → Calls Tryz.prog 7 #[.slice A a.length c] w' fun e w2 => e = .returned (.bool true) ∧ Below w'.heap.size w' w2
  paramsB : ∀ (D : Nat → Prop) w' A c, KVs D w' A b → Calls Tryz.prog 7 #[.slice A b.length c] w' fun e w2 => e = .returned (.bool true) ∧ Below w'.heap.size w' w2
  lineA : ∀ (D : Nat → Prop) w' A c, KVs D w' A a → Calls Tryz.prog 9 #[.slice A a.length c, .bool false] w' fun e w2 => e = .returned (.string x) ∧ Below w'.heap.size w' w2
  lineB : ∀ (D : Nat → Prop) w' A c, KVs D w' A b → Calls Tryz.prog 9 #[.slice A b.length c, .bool true] w' fun e w2 => e = .returned (.string y) ∧ Below w'.heap.size w' w2
  agree : ∀ (D D' : Nat → Prop) w' A B c d, KVs D w' A a → KVs D' w' B b → Calls Tryz.prog 11 #[.slice A a.length c, .slice B b.length d] w' fun e w2 => e = .returned (.bool ag) ∧ Below w'.heap.size w' w2

set_option maxHeartbeats 2000000 in
set_option maxRecDepth 100000 in
theorem match0_walk (A B : Option Addr) (c d : Nat) (a b : List KV) (x y : ByteArray) (ag : Bool) (w : World) (hc : MatchCtx w a b x y ag) (hsp : Spaces w) (ha : KVs (fun _ => True) w A a) (hb : KVs (fun _ => True) w B b)
    (hmf : ∀ w', Spaces w' → Calls Tryz.prog 10 #[.agg #[.string ⟨#[97, 117, 100, 105, 111, 47, 111, 112, 117, 115]⟩, .int .i64 48000, .int .i64 2, .string x], .agg #[.string ⟨#[97, 117, 100, 105, 111, 47, 111, 116, 104, 101, 114]⟩, .int .i64 8000, .int .i64 1, .string y]] w' fun e w2 => e = .returned (.bool false) ∧ Below w'.heap.size w' w2) :
    Calls Tryz.prog 3 #[.slice A a.length c, .slice B b.length d, .bool false, .bool false, .bool false] w fun e w' => e = .returned (.bool true) ∧ Below w.heap.size w w' := by
  have HC := Lib.hid hc
  have HSP := Lib.hid hsp
  have HA := Lib.hid ha
  have HB := Lib.hid hb
  have HMF := Lib.hid hmf
  clear hc hsp ha hb hmf
  go_enter Tryz.func3, Tryz.ntmps3
  go_wp2_with (first
    | (go_at_call_of 5 A; refine (HC.out.fitA _ (Below.refl _ _) A c HA.out).mono ?_; rintro e w1 ⟨rfl, hb1⟩)
    | (go_at_call_of 5 B; refine (HC.out.fitB _ hb1 B d (HB.out.keep (kp_of_below hb1))).mono ?_; rintro e w2 ⟨rfl, hb2⟩; have b2 := Lib.hid (below_step hb1 hb1.size hb2))
    | (go_at_call_of 6 A; refine (HC.out.pairsA _ A c (HA.out.keep (kp_of_below b2.out))).mono ?_; rintro e w3 ⟨A3, c3, rfl, hk3, hb3⟩; have b3 := Lib.hid (below_step b2.out b2.out.size hb3))
    | (go_at_call_of 6 B; refine (HC.out.pairsB _ B d (HB.out.keep (kp_of_below b3.out))).mono ?_; rintro e w4 ⟨B4, d4, rfl, hk4, hb4⟩; have b4 := Lib.hid (below_step b3.out b3.out.size hb4))
    | (go_at_call_of 7 A3; refine (HC.out.paramsA _ _ A3 c3 (hk3.keep (kp_of_below hb4))).mono ?_; rintro e w5 ⟨rfl, hb5⟩; have b5 := Lib.hid (below_step b4.out b4.out.size hb5))
    | (go_at_call_of 7 B4; refine (HC.out.paramsB _ _ B4 d4 (hk4.keep (kp_of_below hb5))).mono ?_; rintro e w6 ⟨rfl, hb6⟩; have b6 := Lib.hid (below_step b5.out b5.out.size hb6); have x6 := Lib.hid (hk3.keep (((kp_of_below hb4).trans (kp_of_below hb5)).trans (kp_of_below hb6))); have y6 := Lib.hid (hk4.keep ((kp_of_below hb5).trans (kp_of_below hb6))))
    | (go_at_call_of 9 A3; refine (HC.out.lineA _ _ A3 c3 x6.out).mono ?_; rintro e w7 ⟨rfl, hb7⟩; have b7 := Lib.hid (below_step b6.out b6.out.size hb7); have x7 := Lib.hid (x6.out.keep (kp_of_below hb7)); have y7 := Lib.hid (y6.out.keep (kp_of_below hb7)))
    | (go_at_call_of 9 B4; refine (HC.out.lineB _ _ B4 d4 (y7.out.keep (Kp.alloc _ _))).mono ?_; rintro e w8 ⟨rfl, hb8⟩; have b8 := Lib.hid (below_step (b7.out.alloc b7.out.size (.cells #[.string ⟨#[97, 117, 100, 105, 111, 47, 111, 112, 117, 115]⟩, .int .i64 48000, .int .i64 2, .string x] 30)) (Nat.le_trans b7.out.size (by simp)) hb8); have x8 := Lib.hid ((x7.out.keep (Kp.alloc _ (.cells #[.string ⟨#[97, 117, 100, 105, 111, 47, 111, 112, 117, 115]⟩, .int .i64 48000, .int .i64 2, .string x] 30))).keep (kp_of_below hb8)); have y8 := Lib.hid ((y7.out.keep (Kp.alloc _ (.cells #[.string ⟨#[97, 117, 100, 105, 111, 47, 111, 112, 117, 115]⟩, .int .i64 48000, .int .i64 2, .string x] 30))).keep (kp_of_below hb8)); have hf8 : ∀ o, (w8.alloc o).cell? ⟨w7.heap.size, 0, none⟩ = some (.string ⟨#[97, 117, 100, 105, 111, 47, 111, 112, 117, 115]⟩) := fun o => cell_al ((hb8.cell (by simp)).trans (by simp [go_sem])) o; have hf8b : ∀ o, (w8.alloc o).cell? ⟨w7.heap.size, 1, none⟩ = some (.int .i64 48000) := fun o => cell_al ((hb8.cell (by simp)).trans (by simp [go_sem])) o; have hf8c : ∀ o, (w8.alloc o).cell? ⟨w7.heap.size, 2, none⟩ = some (.int .i64 2) := fun o => cell_al ((hb8.cell (by simp)).trans (by simp [go_sem])) o; have hf8d : ∀ o, (w8.alloc o).cell? ⟨w7.heap.size, 3, none⟩ = some (.string x) := fun o => cell_al ((hb8.cell (by simp)).trans (by simp [go_sem])) o)
    | (go_at_call 10; refine (HMF.out _ (HSP.out.below (b8.out.alloc b8.out.size _))).mono ?_; rintro e w9 ⟨rfl, hb9⟩; have b9 := Lib.hid (below_step (b8.out.alloc b8.out.size _) (Nat.le_trans b8.out.size (by simp)) hb9))
    | (go_at_call 8; refine (works_any _).mono ?_; rintro e w11 ⟨rfl, hb11⟩))
  go_ret
  exact ⟨rfl, below_step b9.out b9.out.size hb11⟩

set_option maxHeartbeats 2000000 in
set_option maxRecDepth 100000 in
theorem match1_walk (A B : Option Addr) (c d : Nat) (a b : List KV) (x y : ByteArray) (ag : Bool) (w : World) (hc : MatchCtx w a b x y ag) (hsp : Spaces w) (ha : KVs (fun _ => True) w A a) (hb : KVs (fun _ => True) w B b)
    (hmf : ∀ w', Spaces w' → Calls Tryz.prog 10 #[.agg #[.string ⟨#[97, 117, 100, 105, 111, 47, 111, 112, 117, 115]⟩, .int .i64 48000, .int .i64 2, .string x], .agg #[.string ⟨#[97, 117, 100, 105, 111, 47, 111, 116, 104, 101, 114]⟩, .int .i64 8000, .int .i64 2, .string y]] w' fun e w2 => e = .returned (.bool false) ∧ Below w'.heap.size w' w2) :
    Calls Tryz.prog 3 #[.slice A a.length c, .slice B b.length d, .bool false, .bool false, .bool true] w fun e w' => e = .returned (.bool true) ∧ Below w.heap.size w w' := by
  have HC := Lib.hid hc
  have HSP := Lib.hid hsp
  have HA := Lib.hid ha
  have HB := Lib.hid hb
  have HMF := Lib.hid hmf
  clear hc hsp ha hb hmf
  go_enter Tryz.func3, Tryz.ntmps3
  go_wp2_with (first
    | (go_at_call_of 5 A; refine (HC.out.fitA _ (Below.refl _ _) A c HA.out).mono ?_; rintro e w1 ⟨rfl, hb1⟩)
    | (go_at_call_of 5 B; refine (HC.out.fitB _ hb1 B d (HB.out.keep (kp_of_below hb1))).mono ?_; rintro e w2 ⟨rfl, hb2⟩; have b2 := Lib.hid (below_step hb1 hb1.size hb2))
    | (go_at_call_of 6 A; refine (HC.out.pairsA _ A c (HA.out.keep (kp_of_below b2.out))).mono ?_; rintro e w3 ⟨A3, c3, rfl, hk3, hb3⟩; have b3 := Lib.hid (below_step b2.out b2.out.size hb3))
    | (go_at_call_of 6 B; refine (HC.out.pairsB _ B d (HB.out.keep (kp_of_below b3.out))).mono ?_; rintro e w4 ⟨B4, d4, rfl, hk4, hb4⟩; have b4 := Lib.hid (below_step b3.out b3.out.size hb4))
    | (go_at_call_of 7 A3; refine (HC.out.paramsA _ _ A3 c3 (hk3.keep (kp_of_below hb4))).mono ?_; rintro e w5 ⟨rfl, hb5⟩; have b5 := Lib.hid (below_step b4.out b4.out.size hb5))
    | (go_at_call_of 7 B4; refine (HC.out.paramsB _ _ B4 d4 (hk4.keep (kp_of_below hb5))).mono ?_; rintro e w6 ⟨rfl, hb6⟩; have b6 := Lib.hid (below_step b5.out b5.out.size hb6); have x6 := Lib.hid (hk3.keep (((kp_of_below hb4).trans (kp_of_below hb5)).trans (kp_of_below hb6))); have y6 := Lib.hid (hk4.keep ((kp_of_below hb5).trans (kp_of_below hb6))))
    | (go_at_call_of 9 A3; refine (HC.out.lineA _ _ A3 c3 x6.out).mono ?_; rintro e w7 ⟨rfl, hb7⟩; have b7 := Lib.hid (below_step b6.out b6.out.size hb7); have x7 := Lib.hid (x6.out.keep (kp_of_below hb7)); have y7 := Lib.hid (y6.out.keep (kp_of_below hb7)))
    | (go_at_call_of 9 B4; refine (HC.out.lineB _ _ B4 d4 (y7.out.keep (Kp.alloc _ _))).mono ?_; rintro e w8 ⟨rfl, hb8⟩; have b8 := Lib.hid (below_step (b7.out.alloc b7.out.size (.cells #[.string ⟨#[97, 117, 100, 105, 111, 47, 111, 112, 117, 115]⟩, .int .i64 48000, .int .i64 2, .string x] 30)) (Nat.le_trans b7.out.size (by simp)) hb8); have x8 := Lib.hid ((x7.out.keep (Kp.alloc _ (.cells #[.string ⟨#[97, 117, 100, 105, 111, 47, 111, 112, 117, 115]⟩, .int .i64 48000, .int .i64 2, .string x] 30))).keep (kp_of_below hb8)); have y8 := Lib.hid ((y7.out.keep (Kp.alloc _ (.cells #[.string ⟨#[97, 117, 100, 105, 111, 47, 111, 112, 117, 115]⟩, .int .i64 48000, .int .i64 2, .string x] 30))).keep (kp_of_below hb8)); have hf8 : ∀ o, (w8.alloc o).cell? ⟨w7.heap.size, 0, none⟩ = some (.string ⟨#[97, 117, 100, 105, 111, 47, 111, 112, 117, 115]⟩) := fun o => cell_al ((hb8.cell (by simp)).trans (by simp [go_sem])) o; have hf8b : ∀ o, (w8.alloc o).cell? ⟨w7.heap.size, 1, none⟩ = some (.int .i64 48000) := fun o => cell_al ((hb8.cell (by simp)).trans (by simp [go_sem])) o; have hf8c : ∀ o, (w8.alloc o).cell? ⟨w7.heap.size, 2, none⟩ = some (.int .i64 2) := fun o => cell_al ((hb8.cell (by simp)).trans (by simp [go_sem])) o; have hf8d : ∀ o, (w8.alloc o).cell? ⟨w7.heap.size, 3, none⟩ = some (.string x) := fun o => cell_al ((hb8.cell (by simp)).trans (by simp [go_sem])) o)
    | (go_at_call 10; refine (HMF.out _ (HSP.out.below (b8.out.alloc b8.out.size _))).mono ?_; rintro e w9 ⟨rfl, hb9⟩; have b9 := Lib.hid (below_step (b8.out.alloc b8.out.size _) (Nat.le_trans b8.out.size (by simp)) hb9))
    | (go_at_call 8; refine (works_any _).mono ?_; rintro e w11 ⟨rfl, hb11⟩))
  go_ret
  exact ⟨rfl, below_step b9.out b9.out.size hb11⟩

set_option maxHeartbeats 2000000 in
set_option maxRecDepth 100000 in
theorem match2_walk (A B : Option Addr) (c d : Nat) (a b : List KV) (x y : ByteArray) (ag : Bool) (w : World) (hc : MatchCtx w a b x y ag) (hsp : Spaces w) (ha : KVs (fun _ => True) w A a) (hb : KVs (fun _ => True) w B b)
    (hmf : ∀ w', Spaces w' → Calls Tryz.prog 10 #[.agg #[.string ⟨#[97, 117, 100, 105, 111, 47, 111, 112, 117, 115]⟩, .int .i64 48000, .int .i64 2, .string x], .agg #[.string ⟨#[97, 117, 100, 105, 111, 47, 111, 116, 104, 101, 114]⟩, .int .i64 48000, .int .i64 1, .string y]] w' fun e w2 => e = .returned (.bool false) ∧ Below w'.heap.size w' w2) :
    Calls Tryz.prog 3 #[.slice A a.length c, .slice B b.length d, .bool false, .bool true, .bool false] w fun e w' => e = .returned (.bool true) ∧ Below w.heap.size w w' := by
  have HC := Lib.hid hc
  have HSP := Lib.hid hsp
  have HA := Lib.hid ha
  have HB := Lib.hid hb
  have HMF := Lib.hid hmf
  clear hc hsp ha hb hmf
  go_enter Tryz.func3, Tryz.ntmps3
  go_wp2_with (first
    | (go_at_call_of 5 A; refine (HC.out.fitA _ (Below.refl _ _) A c HA.out).mono ?_; rintro e w1 ⟨rfl, hb1⟩)
    | (go_at_call_of 5 B; refine (HC.out.fitB _ hb1 B d (HB.out.keep (kp_of_below hb1))).mono ?_; rintro e w2 ⟨rfl, hb2⟩; have b2 := Lib.hid (below_step hb1 hb1.size hb2))
    | (go_at_call_of 6 A; refine (HC.out.pairsA _ A c (HA.out.keep (kp_of_below b2.out))).mono ?_; rintro e w3 ⟨A3, c3, rfl, hk3, hb3⟩; have b3 := Lib.hid (below_step b2.out b2.out.size hb3))
    | (go_at_call_of 6 B; refine (HC.out.pairsB _ B d (HB.out.keep (kp_of_below b3.out))).mono ?_; rintro e w4 ⟨B4, d4, rfl, hk4, hb4⟩; have b4 := Lib.hid (below_step b3.out b3.out.size hb4))
    | (go_at_call_of 7 A3; refine (HC.out.paramsA _ _ A3 c3 (hk3.keep (kp_of_below hb4))).mono ?_; rintro e w5 ⟨rfl, hb5⟩; have b5 := Lib.hid (below_step b4.out b4.out.size hb5))
    | (go_at_call_of 7 B4; refine (HC.out.paramsB _ _ B4 d4 (hk4.keep (kp_of_below hb5))).mono ?_; rintro e w6 ⟨rfl, hb6⟩; have b6 := Lib.hid (below_step b5.out b5.out.size hb6); have x6 := Lib.hid (hk3.keep (((kp_of_below hb4).trans (kp_of_below hb5)).trans (kp_of_below hb6))); have y6 := Lib.hid (hk4.keep ((kp_of_below hb5).trans (kp_of_below hb6))))
    | (go_at_call_of 9 A3; refine (HC.out.lineA _ _ A3 c3 x6.out).mono ?_; rintro e w7 ⟨rfl, hb7⟩; have b7 := Lib.hid (below_step b6.out b6.out.size hb7); have x7 := Lib.hid (x6.out.keep (kp_of_below hb7)); have y7 := Lib.hid (y6.out.keep (kp_of_below hb7)))
    | (go_at_call_of 9 B4; refine (HC.out.lineB _ _ B4 d4 (y7.out.keep (Kp.alloc _ _))).mono ?_; rintro e w8 ⟨rfl, hb8⟩; have b8 := Lib.hid (below_step (b7.out.alloc b7.out.size (.cells #[.string ⟨#[97, 117, 100, 105, 111, 47, 111, 112, 117, 115]⟩, .int .i64 48000, .int .i64 2, .string x] 30)) (Nat.le_trans b7.out.size (by simp)) hb8); have x8 := Lib.hid ((x7.out.keep (Kp.alloc _ (.cells #[.string ⟨#[97, 117, 100, 105, 111, 47, 111, 112, 117, 115]⟩, .int .i64 48000, .int .i64 2, .string x] 30))).keep (kp_of_below hb8)); have y8 := Lib.hid ((y7.out.keep (Kp.alloc _ (.cells #[.string ⟨#[97, 117, 100, 105, 111, 47, 111, 112, 117, 115]⟩, .int .i64 48000, .int .i64 2, .string x] 30))).keep (kp_of_below hb8)); have hf8 : ∀ o, (w8.alloc o).cell? ⟨w7.heap.size, 0, none⟩ = some (.string ⟨#[97, 117, 100, 105, 111, 47, 111, 112, 117, 115]⟩) := fun o => cell_al ((hb8.cell (by simp)).trans (by simp [go_sem])) o; have hf8b : ∀ o, (w8.alloc o).cell? ⟨w7.heap.size, 1, none⟩ = some (.int .i64 48000) := fun o => cell_al ((hb8.cell (by simp)).trans (by simp [go_sem])) o; have hf8c : ∀ o, (w8.alloc o).cell? ⟨w7.heap.size, 2, none⟩ = some (.int .i64 2) := fun o => cell_al ((hb8.cell (by simp)).trans (by simp [go_sem])) o; have hf8d : ∀ o, (w8.alloc o).cell? ⟨w7.heap.size, 3, none⟩ = some (.string x) := fun o => cell_al ((hb8.cell (by simp)).trans (by simp [go_sem])) o)
    | (go_at_call 10; refine (HMF.out _ (HSP.out.below (b8.out.alloc b8.out.size _))).mono ?_; rintro e w9 ⟨rfl, hb9⟩; have b9 := Lib.hid (below_step (b8.out.alloc b8.out.size _) (Nat.le_trans b8.out.size (by simp)) hb9))
    | (go_at_call 8; refine (works_any _).mono ?_; rintro e w11 ⟨rfl, hb11⟩))
  go_ret
  exact ⟨rfl, below_step b9.out b9.out.size hb11⟩

set_option maxHeartbeats 2000000 in
set_option maxRecDepth 100000 in
theorem match3_walk (A B : Option Addr) (c d : Nat) (a b : List KV) (x y : ByteArray) (ag : Bool) (w : World) (hc : MatchCtx w a b x y ag) (hsp : Spaces w) (ha : KVs (fun _ => True) w A a) (hb : KVs (fun _ => True) w B b)
    (hmf : ∀ w', Spaces w' → Calls Tryz.prog 10 #[.agg #[.string ⟨#[97, 117, 100, 105, 111, 47, 111, 112, 117, 115]⟩, .int .i64 48000, .int .i64 2, .string x], .agg #[.string ⟨#[97, 117, 100, 105, 111, 47, 111, 116, 104, 101, 114]⟩, .int .i64 48000, .int .i64 2, .string y]] w' fun e w2 => e = .returned (.bool false) ∧ Below w'.heap.size w' w2) :
    Calls Tryz.prog 3 #[.slice A a.length c, .slice B b.length d, .bool false, .bool true, .bool true] w fun e w' => e = .returned (.bool true) ∧ Below w.heap.size w w' := by
  have HC := Lib.hid hc
  have HSP := Lib.hid hsp
  have HA := Lib.hid ha
  have HB := Lib.hid hb
  have HMF := Lib.hid hmf
  clear hc hsp ha hb hmf
  go_enter Tryz.func3, Tryz.ntmps3
  go_wp2_with (first
    | (go_at_call_of 5 A; refine (HC.out.fitA _ (Below.refl _ _) A c HA.out).mono ?_; rintro e w1 ⟨rfl, hb1⟩)
    | (go_at_call_of 5 B; refine (HC.out.fitB _ hb1 B d (HB.out.keep (kp_of_below hb1))).mono ?_; rintro e w2 ⟨rfl, hb2⟩; have b2 := Lib.hid (below_step hb1 hb1.size hb2))
    | (go_at_call_of 6 A; refine (HC.out.pairsA _ A c (HA.out.keep (kp_of_below b2.out))).mono ?_; rintro e w3 ⟨A3, c3, rfl, hk3, hb3⟩; have b3 := Lib.hid (below_step b2.out b2.out.size hb3))
    | (go_at_call_of 6 B; refine (HC.out.pairsB _ B d (HB.out.keep (kp_of_below b3.out))).mono ?_; rintro e w4 ⟨B4, d4, rfl, hk4, hb4⟩; have b4 := Lib.hid (below_step b3.out b3.out.size hb4))
    | (go_at_call_of 7 A3; refine (HC.out.paramsA _ _ A3 c3 (hk3.keep (kp_of_below hb4))).mono ?_; rintro e w5 ⟨rfl, hb5⟩; have b5 := Lib.hid (below_step b4.out b4.out.size hb5))
    | (go_at_call_of 7 B4; refine (HC.out.paramsB _ _ B4 d4 (hk4.keep (kp_of_below hb5))).mono ?_; rintro e w6 ⟨rfl, hb6⟩; have b6 := Lib.hid (below_step b5.out b5.out.size hb6); have x6 := Lib.hid (hk3.keep (((kp_of_below hb4).trans (kp_of_below hb5)).trans (kp_of_below hb6))); have y6 := Lib.hid (hk4.keep ((kp_of_below hb5).trans (kp_of_below hb6))))
    | (go_at_call_of 9 A3; refine (HC.out.lineA _ _ A3 c3 x6.out).mono ?_; rintro e w7 ⟨rfl, hb7⟩; have b7 := Lib.hid (below_step b6.out b6.out.size hb7); have x7 := Lib.hid (x6.out.keep (kp_of_below hb7)); have y7 := Lib.hid (y6.out.keep (kp_of_below hb7)))
    | (go_at_call_of 9 B4; refine (HC.out.lineB _ _ B4 d4 (y7.out.keep (Kp.alloc _ _))).mono ?_; rintro e w8 ⟨rfl, hb8⟩; have b8 := Lib.hid (below_step (b7.out.alloc b7.out.size (.cells #[.string ⟨#[97, 117, 100, 105, 111, 47, 111, 112, 117, 115]⟩, .int .i64 48000, .int .i64 2, .string x] 30)) (Nat.le_trans b7.out.size (by simp)) hb8); have x8 := Lib.hid ((x7.out.keep (Kp.alloc _ (.cells #[.string ⟨#[97, 117, 100, 105, 111, 47, 111, 112, 117, 115]⟩, .int .i64 48000, .int .i64 2, .string x] 30))).keep (kp_of_below hb8)); have y8 := Lib.hid ((y7.out.keep (Kp.alloc _ (.cells #[.string ⟨#[97, 117, 100, 105, 111, 47, 111, 112, 117, 115]⟩, .int .i64 48000, .int .i64 2, .string x] 30))).keep (kp_of_below hb8)); have hf8 : ∀ o, (w8.alloc o).cell? ⟨w7.heap.size, 0, none⟩ = some (.string ⟨#[97, 117, 100, 105, 111, 47, 111, 112, 117, 115]⟩) := fun o => cell_al ((hb8.cell (by simp)).trans (by simp [go_sem])) o; have hf8b : ∀ o, (w8.alloc o).cell? ⟨w7.heap.size, 1, none⟩ = some (.int .i64 48000) := fun o => cell_al ((hb8.cell (by simp)).trans (by simp [go_sem])) o; have hf8c : ∀ o, (w8.alloc o).cell? ⟨w7.heap.size, 2, none⟩ = some (.int .i64 2) := fun o => cell_al ((hb8.cell (by simp)).trans (by simp [go_sem])) o; have hf8d : ∀ o, (w8.alloc o).cell? ⟨w7.heap.size, 3, none⟩ = some (.string x) := fun o => cell_al ((hb8.cell (by simp)).trans (by simp [go_sem])) o)
    | (go_at_call 10; refine (HMF.out _ (HSP.out.below (b8.out.alloc b8.out.size _))).mono ?_; rintro e w9 ⟨rfl, hb9⟩; have b9 := Lib.hid (below_step (b8.out.alloc b8.out.size _) (Nat.le_trans b8.out.size (by simp)) hb9))
    | (go_at_call 8; refine (works_any _).mono ?_; rintro e w11 ⟨rfl, hb11⟩))
  go_ret
  exact ⟨rfl, below_step b9.out b9.out.size hb11⟩

set_option maxHeartbeats 2000000 in
set_option maxRecDepth 100000 in
theorem match4_walk (A B : Option Addr) (c d : Nat) (a b : List KV) (x y : ByteArray) (ag : Bool) (w : World) (hc : MatchCtx w a b x y ag) (hsp : Spaces w) (ha : KVs (fun _ => True) w A a) (hb : KVs (fun _ => True) w B b)
    (hmf : ∀ w', Spaces w' → Calls Tryz.prog 10 #[.agg #[.string ⟨#[97, 117, 100, 105, 111, 47, 111, 112, 117, 115]⟩, .int .i64 48000, .int .i64 2, .string x], .agg #[.string ⟨#[97, 117, 100, 105, 111, 47, 79, 80, 85, 83]⟩, .int .i64 8000, .int .i64 1, .string y]] w' fun e w2 => e = .returned (.bool false) ∧ Below w'.heap.size w' w2) :
    Calls Tryz.prog 3 #[.slice A a.length c, .slice B b.length d, .bool true, .bool false, .bool false] w fun e w' => e = .returned (.bool true) ∧ Below w.heap.size w w' := by
  have HC := Lib.hid hc
  have HSP := Lib.hid hsp
  have HA := Lib.hid ha
  have HB := Lib.hid hb
  have HMF := Lib.hid hmf
  clear hc hsp ha hb hmf
  go_enter Tryz.func3, Tryz.ntmps3
  go_wp2_with (first
    | (go_at_call_of 5 A; refine (HC.out.fitA _ (Below.refl _ _) A c HA.out).mono ?_; rintro e w1 ⟨rfl, hb1⟩)
    | (go_at_call_of 5 B; refine (HC.out.fitB _ hb1 B d (HB.out.keep (kp_of_below hb1))).mono ?_; rintro e w2 ⟨rfl, hb2⟩; have b2 := Lib.hid (below_step hb1 hb1.size hb2))
    | (go_at_call_of 6 A; refine (HC.out.pairsA _ A c (HA.out.keep (kp_of_below b2.out))).mono ?_; rintro e w3 ⟨A3, c3, rfl, hk3, hb3⟩; have b3 := Lib.hid (below_step b2.out b2.out.size hb3))
    | (go_at_call_of 6 B; refine (HC.out.pairsB _ B d (HB.out.keep (kp_of_below b3.out))).mono ?_; rintro e w4 ⟨B4, d4, rfl, hk4, hb4⟩; have b4 := Lib.hid (below_step b3.out b3.out.size hb4))
    | (go_at_call_of 7 A3; refine (HC.out.paramsA _ _ A3 c3 (hk3.keep (kp_of_below hb4))).mono ?_; rintro e w5 ⟨rfl, hb5⟩; have b5 := Lib.hid (below_step b4.out b4.out.size hb5))
    | (go_at_call_of 7 B4; refine (HC.out.paramsB _ _ B4 d4 (hk4.keep (kp_of_below hb5))).mono ?_; rintro e w6 ⟨rfl, hb6⟩; have b6 := Lib.hid (below_step b5.out b5.out.size hb6); have x6 := Lib.hid (hk3.keep (((kp_of_below hb4).trans (kp_of_below hb5)).trans (kp_of_below hb6))); have y6 := Lib.hid (hk4.keep ((kp_of_below hb5).trans (kp_of_below hb6))))
    | (go_at_call_of 9 A3; refine (HC.out.lineA _ _ A3 c3 x6.out).mono ?_; rintro e w7 ⟨rfl, hb7⟩; have b7 := Lib.hid (below_step b6.out b6.out.size hb7); have x7 := Lib.hid (x6.out.keep (kp_of_below hb7)); have y7 := Lib.hid (y6.out.keep (kp_of_below hb7)))
    | (go_at_call_of 9 B4; refine (HC.out.lineB _ _ B4 d4 (y7.out.keep (Kp.alloc _ _))).mono ?_; rintro e w8 ⟨rfl, hb8⟩; have b8 := Lib.hid (below_step (b7.out.alloc b7.out.size (.cells #[.string ⟨#[97, 117, 100, 105, 111, 47, 111, 112, 117, 115]⟩, .int .i64 48000, .int .i64 2, .string x] 30)) (Nat.le_trans b7.out.size (by simp)) hb8); have x8 := Lib.hid ((x7.out.keep (Kp.alloc _ (.cells #[.string ⟨#[97, 117, 100, 105, 111, 47, 111, 112, 117, 115]⟩, .int .i64 48000, .int .i64 2, .string x] 30))).keep (kp_of_below hb8)); have y8 := Lib.hid ((y7.out.keep (Kp.alloc _ (.cells #[.string ⟨#[97, 117, 100, 105, 111, 47, 111, 112, 117, 115]⟩, .int .i64 48000, .int .i64 2, .string x] 30))).keep (kp_of_below hb8)); have hf8 : ∀ o, (w8.alloc o).cell? ⟨w7.heap.size, 0, none⟩ = some (.string ⟨#[97, 117, 100, 105, 111, 47, 111, 112, 117, 115]⟩) := fun o => cell_al ((hb8.cell (by simp)).trans (by simp [go_sem])) o; have hf8b : ∀ o, (w8.alloc o).cell? ⟨w7.heap.size, 1, none⟩ = some (.int .i64 48000) := fun o => cell_al ((hb8.cell (by simp)).trans (by simp [go_sem])) o; have hf8c : ∀ o, (w8.alloc o).cell? ⟨w7.heap.size, 2, none⟩ = some (.int .i64 2) := fun o => cell_al ((hb8.cell (by simp)).trans (by simp [go_sem])) o; have hf8d : ∀ o, (w8.alloc o).cell? ⟨w7.heap.size, 3, none⟩ = some (.string x) := fun o => cell_al ((hb8.cell (by simp)).trans (by simp [go_sem])) o)
    | (go_at_call 10; refine (HMF.out _ (HSP.out.below (b8.out.alloc b8.out.size _))).mono ?_; rintro e w9 ⟨rfl, hb9⟩; have b9 := Lib.hid (below_step (b8.out.alloc b8.out.size _) (Nat.le_trans b8.out.size (by simp)) hb9))
    | (go_at_call 8; refine (works_any _).mono ?_; rintro e w11 ⟨rfl, hb11⟩))
  go_ret
  exact ⟨rfl, below_step b9.out b9.out.size hb11⟩

set_option maxHeartbeats 2000000 in
set_option maxRecDepth 100000 in
theorem match5_walk (A B : Option Addr) (c d : Nat) (a b : List KV) (x y : ByteArray) (ag : Bool) (w : World) (hc : MatchCtx w a b x y ag) (hsp : Spaces w) (ha : KVs (fun _ => True) w A a) (hb : KVs (fun _ => True) w B b)
    (hmf : ∀ w', Spaces w' → Calls Tryz.prog 10 #[.agg #[.string ⟨#[97, 117, 100, 105, 111, 47, 111, 112, 117, 115]⟩, .int .i64 48000, .int .i64 2, .string x], .agg #[.string ⟨#[97, 117, 100, 105, 111, 47, 79, 80, 85, 83]⟩, .int .i64 8000, .int .i64 2, .string y]] w' fun e w2 => e = .returned (.bool false) ∧ Below w'.heap.size w' w2) :
    Calls Tryz.prog 3 #[.slice A a.length c, .slice B b.length d, .bool true, .bool false, .bool true] w fun e w' => e = .returned (.bool true) ∧ Below w.heap.size w w' := by
  have HC := Lib.hid hc
  have HSP := Lib.hid hsp
  have HA := Lib.hid ha
  have HB := Lib.hid hb
  have HMF := Lib.hid hmf
  clear hc hsp ha hb hmf
  go_enter Tryz.func3, Tryz.ntmps3
  go_wp2_with (first
    | (go_at_call_of 5 A; refine (HC.out.fitA _ (Below.refl _ _) A c HA.out).mono ?_; rintro e w1 ⟨rfl, hb1⟩)
    | (go_at_call_of 5 B; refine (HC.out.fitB _ hb1 B d (HB.out.keep (kp_of_below hb1))).mono ?_; rintro e w2 ⟨rfl, hb2⟩; have b2 := Lib.hid (below_step hb1 hb1.size hb2))
    | (go_at_call_of 6 A; refine (HC.out.pairsA _ A c (HA.out.keep (kp_of_below b2.out))).mono ?_; rintro e w3 ⟨A3, c3, rfl, hk3, hb3⟩; have b3 := Lib.hid (below_step b2.out b2.out.size hb3))
    | (go_at_call_of 6 B; refine (HC.out.pairsB _ B d (HB.out.keep (kp_of_below b3.out))).mono ?_; rintro e w4 ⟨B4, d4, rfl, hk4, hb4⟩; have b4 := Lib.hid (below_step b3.out b3.out.size hb4))
    | (go_at_call_of 7 A3; refine (HC.out.paramsA _ _ A3 c3 (hk3.keep (kp_of_below hb4))).mono ?_; rintro e w5 ⟨rfl, hb5⟩; have b5 := Lib.hid (below_step b4.out b4.out.size hb5))
    | (go_at_call_of 7 B4; refine (HC.out.paramsB _ _ B4 d4 (hk4.keep (kp_of_below hb5))).mono ?_; rintro e w6 ⟨rfl, hb6⟩; have b6 := Lib.hid (below_step b5.out b5.out.size hb6); have x6 := Lib.hid (hk3.keep (((kp_of_below hb4).trans (kp_of_below hb5)).trans (kp_of_below hb6))); have y6 := Lib.hid (hk4.keep ((kp_of_below hb5).trans (kp_of_below hb6))))
    | (go_at_call_of 9 A3; refine (HC.out.lineA _ _ A3 c3 x6.out).mono ?_; rintro e w7 ⟨rfl, hb7⟩; have b7 := Lib.hid (below_step b6.out b6.out.size hb7); have x7 := Lib.hid (x6.out.keep (kp_of_below hb7)); have y7 := Lib.hid (y6.out.keep (kp_of_below hb7)))
    | (go_at_call_of 9 B4; refine (HC.out.lineB _ _ B4 d4 (y7.out.keep (Kp.alloc _ _))).mono ?_; rintro e w8 ⟨rfl, hb8⟩; have b8 := Lib.hid (below_step (b7.out.alloc b7.out.size (.cells #[.string ⟨#[97, 117, 100, 105, 111, 47, 111, 112, 117, 115]⟩, .int .i64 48000, .int .i64 2, .string x] 30)) (Nat.le_trans b7.out.size (by simp)) hb8); have x8 := Lib.hid ((x7.out.keep (Kp.alloc _ (.cells #[.string ⟨#[97, 117, 100, 105, 111, 47, 111, 112, 117, 115]⟩, .int .i64 48000, .int .i64 2, .string x] 30))).keep (kp_of_below hb8)); have y8 := Lib.hid ((y7.out.keep (Kp.alloc _ (.cells #[.string ⟨#[97, 117, 100, 105, 111, 47, 111, 112, 117, 115]⟩, .int .i64 48000, .int .i64 2, .string x] 30))).keep (kp_of_below hb8)); have hf8 : ∀ o, (w8.alloc o).cell? ⟨w7.heap.size, 0, none⟩ = some (.string ⟨#[97, 117, 100, 105, 111, 47, 111, 112, 117, 115]⟩) := fun o => cell_al ((hb8.cell (by simp)).trans (by simp [go_sem])) o; have hf8b : ∀ o, (w8.alloc o).cell? ⟨w7.heap.size, 1, none⟩ = some (.int .i64 48000) := fun o => cell_al ((hb8.cell (by simp)).trans (by simp [go_sem])) o; have hf8c : ∀ o, (w8.alloc o).cell? ⟨w7.heap.size, 2, none⟩ = some (.int .i64 2) := fun o => cell_al ((hb8.cell (by simp)).trans (by simp [go_sem])) o; have hf8d : ∀ o, (w8.alloc o).cell? ⟨w7.heap.size, 3, none⟩ = some (.string x) := fun o => cell_al ((hb8.cell (by simp)).trans (by simp [go_sem])) o)
    | (go_at_call 10; refine (HMF.out _ (HSP.out.below (b8.out.alloc b8.out.size _))).mono ?_; rintro e w9 ⟨rfl, hb9⟩; have b9 := Lib.hid (below_step (b8.out.alloc b8.out.size _) (Nat.le_trans b8.out.size (by simp)) hb9))
    | (go_at_call 8; refine (works_any _).mono ?_; rintro e w11 ⟨rfl, hb11⟩))
  go_ret
  exact ⟨rfl, below_step b9.out b9.out.size hb11⟩

set_option maxHeartbeats 2000000 in
set_option maxRecDepth 100000 in
theorem match6_walk (A B : Option Addr) (c d : Nat) (a b : List KV) (x y : ByteArray) (ag : Bool) (w : World) (hc : MatchCtx w a b x y ag) (hsp : Spaces w) (ha : KVs (fun _ => True) w A a) (hb : KVs (fun _ => True) w B b)
    (hmf : ∀ w', Spaces w' → Calls Tryz.prog 10 #[.agg #[.string ⟨#[97, 117, 100, 105, 111, 47, 111, 112, 117, 115]⟩, .int .i64 48000, .int .i64 2, .string x], .agg #[.string ⟨#[97, 117, 100, 105, 111, 47, 79, 80, 85, 83]⟩, .int .i64 48000, .int .i64 1, .string y]] w' fun e w2 => e = .returned (.bool false) ∧ Below w'.heap.size w' w2) :
    Calls Tryz.prog 3 #[.slice A a.length c, .slice B b.length d, .bool true, .bool true, .bool false] w fun e w' => e = .returned (.bool true) ∧ Below w.heap.size w w' := by
  have HC := Lib.hid hc
  have HSP := Lib.hid hsp
  have HA := Lib.hid ha
  have HB := Lib.hid hb
  have HMF := Lib.hid hmf
  clear hc hsp ha hb hmf
  go_enter Tryz.func3, Tryz.ntmps3
  go_wp2_with (first
    | (go_at_call_of 5 A; refine (HC.out.fitA _ (Below.refl _ _) A c HA.out).mono ?_; rintro e w1 ⟨rfl, hb1⟩)
    | (go_at_call_of 5 B; refine (HC.out.fitB _ hb1 B d (HB.out.keep (kp_of_below hb1))).mono ?_; rintro e w2 ⟨rfl, hb2⟩; have b2 := Lib.hid (below_step hb1 hb1.size hb2))
    | (go_at_call_of 6 A; refine (HC.out.pairsA _ A c (HA.out.keep (kp_of_below b2.out))).mono ?_; rintro e w3 ⟨A3, c3, rfl, hk3, hb3⟩; have b3 := Lib.hid (below_step b2.out b2.out.size hb3))
    | (go_at_call_of 6 B; refine (HC.out.pairsB _ B d (HB.out.keep (kp_of_below b3.out))).mono ?_; rintro e w4 ⟨B4, d4, rfl, hk4, hb4⟩; have b4 := Lib.hid (below_step b3.out b3.out.size hb4))
    | (go_at_call_of 7 A3; refine (HC.out.paramsA _ _ A3 c3 (hk3.keep (kp_of_below hb4))).mono ?_; rintro e w5 ⟨rfl, hb5⟩; have b5 := Lib.hid (below_step b4.out b4.out.size hb5))
    | (go_at_call_of 7 B4; refine (HC.out.paramsB _ _ B4 d4 (hk4.keep (kp_of_below hb5))).mono ?_; rintro e w6 ⟨rfl, hb6⟩; have b6 := Lib.hid (below_step b5.out b5.out.size hb6); have x6 := Lib.hid (hk3.keep (((kp_of_below hb4).trans (kp_of_below hb5)).trans (kp_of_below hb6))); have y6 := Lib.hid (hk4.keep ((kp_of_below hb5).trans (kp_of_below hb6))))
    | (go_at_call_of 9 A3; refine (HC.out.lineA _ _ A3 c3 x6.out).mono ?_; rintro e w7 ⟨rfl, hb7⟩; have b7 := Lib.hid (below_step b6.out b6.out.size hb7); have x7 := Lib.hid (x6.out.keep (kp_of_below hb7)); have y7 := Lib.hid (y6.out.keep (kp_of_below hb7)))
    | (go_at_call_of 9 B4; refine (HC.out.lineB _ _ B4 d4 (y7.out.keep (Kp.alloc _ _))).mono ?_; rintro e w8 ⟨rfl, hb8⟩; have b8 := Lib.hid (below_step (b7.out.alloc b7.out.size (.cells #[.string ⟨#[97, 117, 100, 105, 111, 47, 111, 112, 117, 115]⟩, .int .i64 48000, .int .i64 2, .string x] 30)) (Nat.le_trans b7.out.size (by simp)) hb8); have x8 := Lib.hid ((x7.out.keep (Kp.alloc _ (.cells #[.string ⟨#[97, 117, 100, 105, 111, 47, 111, 112, 117, 115]⟩, .int .i64 48000, .int .i64 2, .string x] 30))).keep (kp_of_below hb8)); have y8 := Lib.hid ((y7.out.keep (Kp.alloc _ (.cells #[.string ⟨#[97, 117, 100, 105, 111, 47, 111, 112, 117, 115]⟩, .int .i64 48000, .int .i64 2, .string x] 30))).keep (kp_of_below hb8)); have hf8 : ∀ o, (w8.alloc o).cell? ⟨w7.heap.size, 0, none⟩ = some (.string ⟨#[97, 117, 100, 105, 111, 47, 111, 112, 117, 115]⟩) := fun o => cell_al ((hb8.cell (by simp)).trans (by simp [go_sem])) o; have hf8b : ∀ o, (w8.alloc o).cell? ⟨w7.heap.size, 1, none⟩ = some (.int .i64 48000) := fun o => cell_al ((hb8.cell (by simp)).trans (by simp [go_sem])) o; have hf8c : ∀ o, (w8.alloc o).cell? ⟨w7.heap.size, 2, none⟩ = some (.int .i64 2) := fun o => cell_al ((hb8.cell (by simp)).trans (by simp [go_sem])) o; have hf8d : ∀ o, (w8.alloc o).cell? ⟨w7.heap.size, 3, none⟩ = some (.string x) := fun o => cell_al ((hb8.cell (by simp)).trans (by simp [go_sem])) o)
    | (go_at_call 10; refine (HMF.out _ (HSP.out.below (b8.out.alloc b8.out.size _))).mono ?_; rintro e w9 ⟨rfl, hb9⟩; have b9 := Lib.hid (below_step (b8.out.alloc b8.out.size _) (Nat.le_trans b8.out.size (by simp)) hb9))
    | (go_at_call 8; refine (works_any _).mono ?_; rintro e w11 ⟨rfl, hb11⟩))
  go_ret
  exact ⟨rfl, below_step b9.out b9.out.size hb11⟩

set_option maxHeartbeats 2000000 in
set_option maxRecDepth 100000 in
theorem match7_walk (A B : Option Addr) (c d : Nat) (a b : List KV) (x y : ByteArray) (ag : Bool) (w : World) (hc : MatchCtx w a b x y ag) (hsp : Spaces w) (ha : KVs (fun _ => True) w A a) (hb : KVs (fun _ => True) w B b)
    (hmf : ∀ w', Spaces w' → Calls Tryz.prog 10 #[.agg #[.string ⟨#[97, 117, 100, 105, 111, 47, 111, 112, 117, 115]⟩, .int .i64 48000, .int .i64 2, .string x], .agg #[.string ⟨#[97, 117, 100, 105, 111, 47, 79, 80, 85, 83]⟩, .int .i64 48000, .int .i64 2, .string y]] w' fun e w2 => e = .returned (.bool ag) ∧ Below w'.heap.size w' w2) :
    Calls Tryz.prog 3 #[.slice A a.length c, .slice B b.length d, .bool true, .bool true, .bool true] w fun e w' => e = .returned (.bool true) ∧ Below w.heap.size w w' := by
  have HC := Lib.hid hc
  have HSP := Lib.hid hsp
  have HA := Lib.hid ha
  have HB := Lib.hid hb
  have HMF := Lib.hid hmf
  clear hc hsp ha hb hmf
  go_enter Tryz.func3, Tryz.ntmps3
  go_wp2_with (first
    | (go_at_call_of 5 A; refine (HC.out.fitA _ (Below.refl _ _) A c HA.out).mono ?_; rintro e w1 ⟨rfl, hb1⟩)
    | (go_at_call_of 5 B; refine (HC.out.fitB _ hb1 B d (HB.out.keep (kp_of_below hb1))).mono ?_; rintro e w2 ⟨rfl, hb2⟩; have b2 := Lib.hid (below_step hb1 hb1.size hb2))
    | (go_at_call_of 6 A; refine (HC.out.pairsA _ A c (HA.out.keep (kp_of_below b2.out))).mono ?_; rintro e w3 ⟨A3, c3, rfl, hk3, hb3⟩; have b3 := Lib.hid (below_step b2.out b2.out.size hb3))
    | (go_at_call_of 6 B; refine (HC.out.pairsB _ B d (HB.out.keep (kp_of_below b3.out))).mono ?_; rintro e w4 ⟨B4, d4, rfl, hk4, hb4⟩; have b4 := Lib.hid (below_step b3.out b3.out.size hb4))
    | (go_at_call_of 7 A3; refine (HC.out.paramsA _ _ A3 c3 (hk3.keep (kp_of_below hb4))).mono ?_; rintro e w5 ⟨rfl, hb5⟩; have b5 := Lib.hid (below_step b4.out b4.out.size hb5))
    | (go_at_call_of 7 B4; refine (HC.out.paramsB _ _ B4 d4 (hk4.keep (kp_of_below hb5))).mono ?_; rintro e w6 ⟨rfl, hb6⟩; have b6 := Lib.hid (below_step b5.out b5.out.size hb6); have x6 := Lib.hid (hk3.keep (((kp_of_below hb4).trans (kp_of_below hb5)).trans (kp_of_below hb6))); have y6 := Lib.hid (hk4.keep ((kp_of_below hb5).trans (kp_of_below hb6))))
    | (go_at_call_of 9 A3; refine (HC.out.lineA _ _ A3 c3 x6.out).mono ?_; rintro e w7 ⟨rfl, hb7⟩; have b7 := Lib.hid (below_step b6.out b6.out.size hb7); have x7 := Lib.hid (x6.out.keep (kp_of_below hb7)); have y7 := Lib.hid (y6.out.keep (kp_of_below hb7)))
    | (go_at_call_of 9 B4; refine (HC.out.lineB _ _ B4 d4 (y7.out.keep (Kp.alloc _ _))).mono ?_; rintro e w8 ⟨rfl, hb8⟩; have b8 := Lib.hid (below_step (b7.out.alloc b7.out.size (.cells #[.string ⟨#[97, 117, 100, 105, 111, 47, 111, 112, 117, 115]⟩, .int .i64 48000, .int .i64 2, .string x] 30)) (Nat.le_trans b7.out.size (by simp)) hb8); have x8 := Lib.hid ((x7.out.keep (Kp.alloc _ (.cells #[.string ⟨#[97, 117, 100, 105, 111, 47, 111, 112, 117, 115]⟩, .int .i64 48000, .int .i64 2, .string x] 30))).keep (kp_of_below hb8)); have y8 := Lib.hid ((y7.out.keep (Kp.alloc _ (.cells #[.string ⟨#[97, 117, 100, 105, 111, 47, 111, 112, 117, 115]⟩, .int .i64 48000, .int .i64 2, .string x] 30))).keep (kp_of_below hb8)); have hf8 : ∀ o, (w8.alloc o).cell? ⟨w7.heap.size, 0, none⟩ = some (.string ⟨#[97, 117, 100, 105, 111, 47, 111, 112, 117, 115]⟩) := fun o => cell_al ((hb8.cell (by simp)).trans (by simp [go_sem])) o; have hf8b : ∀ o, (w8.alloc o).cell? ⟨w7.heap.size, 1, none⟩ = some (.int .i64 48000) := fun o => cell_al ((hb8.cell (by simp)).trans (by simp [go_sem])) o; have hf8c : ∀ o, (w8.alloc o).cell? ⟨w7.heap.size, 2, none⟩ = some (.int .i64 2) := fun o => cell_al ((hb8.cell (by simp)).trans (by simp [go_sem])) o; have hf8d : ∀ o, (w8.alloc o).cell? ⟨w7.heap.size, 3, none⟩ = some (.string x) := fun o => cell_al ((hb8.cell (by simp)).trans (by simp [go_sem])) o)
    | (go_at_call 10; refine (HMF.out _ (HSP.out.below (b8.out.alloc b8.out.size _))).mono ?_; rintro e w9 ⟨rfl, hb9⟩; have b9 := Lib.hid (below_step (b8.out.alloc b8.out.size _) (Nat.le_trans b8.out.size (by simp)) hb9))
    | (go_at_call 11; refine (HC.out.agree _ _ _ A3 B4 c3 d4 ((x8.out.keep (Kp.alloc _ _)).keep (kp_of_below hb9)) ((y8.out.keep (Kp.alloc _ _)).keep (kp_of_below hb9))).mono ?_; rintro e w10 ⟨rfl, hb10⟩; have b10 := Lib.hid (below_step b9.out b9.out.size hb10))
    | (go_at_call 8; refine (works_any _).mono ?_; rintro e w11 ⟨rfl, hb11⟩))
  go_ret
  exact ⟨rfl, below_step b10.out b10.out.size hb11⟩

theorem together_eq {H : Type} (s r c : Bool) (D1 D2 : DataW H) : togetherB ⟨#[97, 117, 100, 105, 111, 47, 111, 112, 117, 115]⟩ (cond s ⟨#[97, 117, 100, 105, 111, 47, 79, 80, 85, 83]⟩ ⟨#[97, 117, 100, 105, 111, 47, 111, 116, 104, 101, 114]⟩) 48000 (cond r 48000 8000) 2 (cond c 2 1) D1 D2 = (s && (r && (c && agreeB D1 D2))) := by
  unfold togetherB
  cases s
  · show (Lib.equalFold (⟨#[97, 117, 100, 105, 111, 47, 111, 112, 117, 115]⟩ : ByteArray).data.toList (⟨#[97, 117, 100, 105, 111, 47, 111, 116, 104, 101, 114]⟩ : ByteArray).data.toList && _) = _
    rw [fold_other]; rfl
  · show (Lib.equalFold (⟨#[97, 117, 100, 105, 111, 47, 111, 112, 117, 115]⟩ : ByteArray).data.toList (⟨#[97, 117, 100, 105, 111, 47, 79, 80, 85, 83]⟩ : ByteArray).data.toList && _) = _
    rw [fold_same]
    cases r <;> cases c <;> rfl
theorem matchCall_any (s r c : Bool) (a b : List KV) (w : World) (ha : paramsB a = true) (hb : paramsB b = true) (za : (lineOf false a).size ≤ 4294967296) (zb : (lineOf true b).size ≤ 4294967296) (hsp : Spaces w) :
    Calls Tryz.prog 10 #[.agg #[.string ⟨#[97, 117, 100, 105, 111, 47, 111, 112, 117, 115]⟩, .int .i64 48000, .int .i64 2, .string (lineOf false a)], .agg #[.string (cond s ⟨#[97, 117, 100, 105, 111, 47, 79, 80, 85, 83]⟩ ⟨#[97, 117, 100, 105, 111, 47, 111, 116, 104, 101, 114]⟩), .int .i64 (cond r 48000 8000), .int .i64 (cond c 2 1), .string (lineOf true b)]] w fun e w' => e = .returned (.bool (s && (r && (c && agreeL b a)))) ∧ Below w.heap.size w w' := by
  have hk : otherKind (cond s ⟨#[97, 117, 100, 105, 111, 47, 79, 80, 85, 83]⟩ ⟨#[97, 117, 100, 105, 111, 47, 111, 116, 104, 101, 114]⟩) = true := by cases s; exact other_other; exact other_great
  have hr : (1 : Int) ≤ cond r 48000 8000 ∧ (cond r 48000 8000 : Int) ≤ 200000 := by cases r <;> decide
  have hc : (1 : Int) ≤ cond c 2 1 ∧ (cond c 2 1 : Int) ≤ 100 := by cases c <;> decide
  have h := matchFn_any (H := Unit) ⟨#[97, 117, 100, 105, 111, 47, 111, 112, 117, 115]⟩ (cond s ⟨#[97, 117, 100, 105, 111, 47, 79, 80, 85, 83]⟩ ⟨#[97, 117, 100, 105, 111, 47, 111, 116, 104, 101, 114]⟩) (lineOf false a) (lineOf true b) 48000 (cond r 48000 8000) 2 (cond c 2 1) (nOf a) (nOf b) (dOf Unit a) (dOf Unit b) w (by omega) (by omega) hr.1 hr.2 (by omega) (by omega) hc.1 hc.2 other_opus hk (plain_of_other other_opus) (plain_of_other hk)
    (parses_of ha za) (parses_of hb zb) (plain_dOf ha) (plain_dOf hb) hsp
  rw [together_eq, agreeB_of ha hb] at h
  exact h

set_option maxHeartbeats 2000000 in
set_option maxRecDepth 100000 in
theorem fnMatch_walk (A : Option Addr) (c : Nat) (a : List KV) (B : Option Addr) (d : Nat) (b : List KV) (same rate channels : Bool) (w : World) (hla : a.length * 32 ≤ 140737488351232) (hza : ∀ p ∈ a, p.1.size ≤ 9223372036854775807 ∧ p.2.size ≤ 9223372036854775807) (hlb : b.length * 32 ≤ 140737488351232) (hzb : ∀ p ∈ b, p.1.size ≤ 9223372036854775807 ∧ p.2.size ≤ 9223372036854775807) (hsp : Spaces w) (ha : KVs (fun _ => True) w A a) (hb : KVs (fun _ => True) w B b) :
    Calls Tryz.prog 3 #[.slice A a.length c, .slice B b.length d, .bool same, .bool rate, .bool channels] w fun e w' => e = .returned (.bool true) ∧ Below w.heap.size w w' := by
  have hfa := fun (w' : World) A' c' (h : KVs (fun _ => True) w' A' a) => fits1_any A' c' a w' hla h hza
  have hfb := fun (w' : World) A' c' (h : KVs (fun _ => True) w' A' b) => fits1_any A' c' b w' hlb h hzb
  have HA := Lib.hid ha
  have HB := Lib.hid hb
  cases fa : fitsP a with
  | false =>
    rw [fa] at hfa
    have HF := Lib.hid (hfa w A c ha)
    clear hfa hfb ha hb hza hzb hsp fa
    go_enter Tryz.func3, Tryz.ntmps3
    go_wp2_with (go_at_call_of 5 A; refine HF.out.mono ?_; rintro e w1 ⟨rfl, hb1⟩)
    go_ret
    exact ⟨rfl, hb1⟩
  | true =>
    rw [fa] at hfa
    obtain ⟨hlen, hzz⟩ := fitsP_mem fa
    have HF := Lib.hid hfa
    cases fb : fitsP b with
    | false =>
      rw [fb] at hfb
      have HG := Lib.hid hfb
      clear hfa hfb ha hb hza hzb hsp fa fb
      go_enter Tryz.func3, Tryz.ntmps3
      go_wp2_with (first
        | (go_at_call_of 5 A; refine (HF.out _ A c HA.out).mono ?_; rintro e w1 ⟨rfl, hb1⟩)
        | (go_at_call_of 5 B; refine (HG.out _ B d (HB.out.keep (kp_of_below hb1))).mono ?_; rintro e w2 ⟨rfl, hb2⟩))
      go_ret
      exact ⟨rfl, below_step hb1 hb1.size hb2⟩
    | true =>
      rw [fb] at hfb
      obtain ⟨hlenb, hzzb⟩ := fitsP_mem fb
      have HG := Lib.hid hfb
      have HPA := Lib.hid (fun w A c h => pairs_any (D := fun _ => True) A c a w (by omega) h)
      have HPB := Lib.hid (fun w A c h => pairs_any (D := fun _ => True) A c b w (by omega) h)
      have hqa := fun (D : Nat → Prop) w A c h => params_any (D := D) A c a w (by omega) hzz h
      have hqb := fun (D : Nat → Prop) w A c h => params_any (D := D) A c b w (by omega) hzzb h
      cases pa : paramsB a with
      | false =>
        rw [pa] at hqa
        have HQA := Lib.hid hqa
        clear hfa hfb ha hb hza hzb hsp fa fb hqa hqb hzz hzzb pa
        go_enter Tryz.func3, Tryz.ntmps3
        go_wp2_with (first
          | (go_at_call_of 5 A; refine (HF.out _ A c HA.out).mono ?_; rintro e w1 ⟨rfl, hb1⟩)
          | (go_at_call_of 5 B; refine (HG.out _ B d (HB.out.keep (kp_of_below hb1))).mono ?_; rintro e w2 ⟨rfl, hb2⟩; have b2 := Lib.hid (below_step hb1 hb1.size hb2))
          | (go_at_call_of 6 A; refine (HPA.out _ A c (HA.out.keep (kp_of_below b2.out))).mono ?_; rintro e w3 ⟨A3, c3, rfl, hk3, hb3⟩; have b3 := Lib.hid (below_step b2.out b2.out.size hb3))
          | (go_at_call_of 6 B; refine (HPB.out _ B d (HB.out.keep (kp_of_below b3.out))).mono ?_; rintro e w4 ⟨B4, d4, rfl, hk4, hb4⟩; have b4 := Lib.hid (below_step b3.out b3.out.size hb4))
          | (go_at_call_of 7 A3; refine (HQA.out _ _ A3 c3 (hk3.keep (kp_of_below hb4))).mono ?_; rintro e w5 ⟨rfl, hb5⟩; have b5 := Lib.hid (below_step b4.out b4.out.size hb5))
          | (go_at_call 8; refine (works_any _).mono ?_; rintro e w6 ⟨rfl, hb6⟩))
        go_ret
        exact ⟨rfl, below_step b5.out b5.out.size hb6⟩
      | true =>
        rw [pa] at hqa
        cases pb : paramsB b with
        | false =>
          rw [pb] at hqb
          have HQA := Lib.hid hqa
          have HQB := Lib.hid hqb
          clear hfa hfb ha hb hza hzb hsp fa fb hqa hqb hzz hzzb pa pb
          go_enter Tryz.func3, Tryz.ntmps3
          go_wp2_with (first
            | (go_at_call_of 5 A; refine (HF.out _ A c HA.out).mono ?_; rintro e w1 ⟨rfl, hb1⟩)
            | (go_at_call_of 5 B; refine (HG.out _ B d (HB.out.keep (kp_of_below hb1))).mono ?_; rintro e w2 ⟨rfl, hb2⟩; have b2 := Lib.hid (below_step hb1 hb1.size hb2))
            | (go_at_call_of 6 A; refine (HPA.out _ A c (HA.out.keep (kp_of_below b2.out))).mono ?_; rintro e w3 ⟨A3, c3, rfl, hk3, hb3⟩; have b3 := Lib.hid (below_step b2.out b2.out.size hb3))
            | (go_at_call_of 6 B; refine (HPB.out _ B d (HB.out.keep (kp_of_below b3.out))).mono ?_; rintro e w4 ⟨B4, d4, rfl, hk4, hb4⟩; have b4 := Lib.hid (below_step b3.out b3.out.size hb4))
            | (go_at_call_of 7 A3; refine (HQA.out _ _ A3 c3 (hk3.keep (kp_of_below hb4))).mono ?_; rintro e w5 ⟨rfl, hb5⟩; have b5 := Lib.hid (below_step b4.out b4.out.size hb5))
            | (go_at_call_of 7 B4; refine (HQB.out _ _ B4 d4 (hk4.keep (kp_of_below hb5))).mono ?_; rintro e w6 ⟨rfl, hb6⟩; have b6 := Lib.hid (below_step b5.out b5.out.size hb6))
            | (go_at_call 8; refine (works_any _).mono ?_; rintro e w7 ⟨rfl, hb7⟩))
          go_ret
          exact ⟨rfl, below_step b6.out b6.out.size hb7⟩
        | true =>
          rw [pb] at hqb
          have wa : ∀ p ∈ a, p.1.size ≤ 20 ∧ p.2.size ≤ 20 := fun p hp => ⟨(word_size (paramsB_words pa p hp).1).2, (word_size (paramsB_words pa p hp).2).2⟩
          have wb : ∀ p ∈ b, p.1.size ≤ 20 ∧ p.2.size ≤ 20 := fun p hp => ⟨(word_size (paramsB_words pb p hp).1).2, (word_size (paramsB_words pb p hp).2).2⟩
          have la := paramsB_length pa
          have lb := paramsB_length pb
          have ctx : MatchCtx w a b (lineOf false a) (lineOf true b) (agreeL b a) := ⟨fun w' _ A c h => hfa w' A c h, fun w' _ A c h => hfb w' A c h, fun w' A c h => HPA.out w' A c h, fun w' A c h => HPB.out w' A c h, fun D w' A c h => hqa D w' A c h, fun D w' A c h => hqb D w' A c h,
            fun D w' A c h => (line_any (D := D) A c a false w' (by omega) wa h).mono fun e w2 ⟨he, _, hb⟩ => ⟨he, hb⟩, fun D w' A c h => (line_any (D := D) A c b true w' (by omega) wb h).mono fun e w2 ⟨he, _, hb⟩ => ⟨he, hb⟩,
            fun D D' w' A B c d h h' => agree_any (D := D) (D' := D') A B c d a b w' (by omega) (by omega) hzz hzzb h h'⟩
          have za := line_small false wa la
          have zb := line_small true wb lb
          cases same <;> cases rate <;> cases channels
          · exact match0_walk A B c d a b _ _ _ w ctx hsp ha hb (fun w' hs => matchCall_any false false false a b w' pa pb za zb hs)
          · exact match1_walk A B c d a b _ _ _ w ctx hsp ha hb (fun w' hs => matchCall_any false false true a b w' pa pb za zb hs)
          · exact match2_walk A B c d a b _ _ _ w ctx hsp ha hb (fun w' hs => matchCall_any false true false a b w' pa pb za zb hs)
          · exact match3_walk A B c d a b _ _ _ w ctx hsp ha hb (fun w' hs => matchCall_any false true true a b w' pa pb za zb hs)
          · exact match4_walk A B c d a b _ _ _ w ctx hsp ha hb (fun w' hs => matchCall_any true false false a b w' pa pb za zb hs)
          · exact match5_walk A B c d a b _ _ _ w ctx hsp ha hb (fun w' hs => matchCall_any true false true a b w' pa pb za zb hs)
          · exact match6_walk A B c d a b _ _ _ w ctx hsp ha hb (fun w' hs => matchCall_any true true false a b w' pa pb za zb hs)
          · exact match7_walk A B c d a b _ _ _ w ctx hsp ha hb (fun w' hs => matchCall_any true true true a b w' pa pb za zb hs)
end Go.Proofs.YtlbmjfjmbgbpeaaGreatDoor
