/- The thin package's keys of a map with their values, by growing keys. -/
import Derived.Test.YtlbmjfjmbgbpeaaDoorStrMap
import Derived.Test.YtlbmjfjmbgbpeaaDoorShelf
import Derived.Sort.KeysCollected
import Derived.Sort.OwnSorted
namespace Go.Proofs.YtlbmjfjmbgbpeaaDoor
open Go.RowKit Go.WideMaps Go.Maps Go.Sort

def sortedKeys {H : Type} (D : DataW H) : List (List UInt8) := (strKeys D).mergeSort leB
def keyTexts {H : Type} (D : DataW H) : List ByteArray := (sortedKeys D).map fun k => ⟨k.toArray⟩
def pairsOf {H : Type} (D : DataW H) : List KV := (keyTexts D).map fun s => (s, valAt D s.data.toList)
theorem keyTexts_enc {H : Type} (D : DataW H) : (sortedKeys D).map encStr = (keyTexts D).map Value.string := by simp [keyTexts, encStr]

/-- The library's sort of a slice of the call's own. -/
theorem sort_any {base n : Nat} {v : Value} {ss : List (List UInt8)} {w : World} (hn : n = ss.length) (hrow : w.ownsRow base 9 1 v n (ss.map encStr)) (hs : ss.length < 4611686018427387904) :
    Calls Tryd.prog 71 #[v] w fun e w' => e = .returned (.tuple #[]) ∧ w'.ownsRow base 9 1 v n ((ss.mergeSort leB).map encStr) ∧ w.grownBy w' v.ownBlock := by
  subst hn
  rcases hrow.2 with ⟨rfl, hx⟩ | ⟨g, cap, cur, rfl, hbase, hb, h1, h2, h3, h4⟩
  · have : ss = [] := by simpa using hx
    subst this
    refine (Tryd.slices_Sort_string_none none 0 w).mono ?_
    rintro e w' ⟨rfl, rfl⟩
    exact ⟨rfl, by simpa using hrow, ⟨rfl, rfl, rfl, Nat.le_refl _, fun _ _ _ => rfl⟩⟩
  · have hH : Holds encStr w g 0 ss.toArray := holds_of_block hb (by simpa using h4)
    have hgl : g < w.heap.size := (Array.getElem?_eq_some_iff.1 hb).1
    refine (Tryd.slices_Sort_string g 0 cap ss w hH hgl hs).mono ?_
    rintro e w' ⟨rfl, nn, os, rfl⟩
    exact ⟨rfl, ownsRow_sorted (by simp) hbase hb h1 h2 h3, grownBy_sorted _⟩

theorem Tryd.infoPS : (Tryd.prog.info? 9).map (fun i => (i.zero, i.size, i.bytes)) = some (some (.string ByteArray.empty), 1, 16) := by kernel_rfl
theorem Tryd.infoPK : (Tryd.prog.info? 32).map (fun i => (i.zero, i.size, i.bytes)) = some (some (.agg #[.string ByteArray.empty, .string ByteArray.empty]), 2, 32) := by kernel_rfl

set_option maxHeartbeats 2000000 in
set_option maxRecDepth 100000 in
theorem pairsFn_any {H : Type} (b n : Nat) (D0 : DataW H) (w : World) (hown : w.ownsMap Tryd.prog 9 (plainElem Tryd.prog 9) b n D0) (hmax : Maps.size D0 * 32 ≤ 140737488355328) :
    Calls Tryd.prog 53 #[.map (some b)] w fun e w' => ∃ A c, e = .returned (.slice A (pairsOf D0).length c) ∧ KVs (w.heap.size ≤ ·) w' A (pairsOf D0) ∧ Below w.heap.size w w' := by
  obtain ⟨i0, hi, hz0, hz1, hz2⟩ := info_parts Tryd.infoPS
  obtain ⟨i1, ki, kz0, kz1, kz2⟩ := info_parts Tryd.infoPK
  have hbl := hown.lt
  go_enter Tryd.func53, Tryd.ntmps53
  go_wp2_with (at_range; refine wpList_range_own _ rfl _ 104 rfl 9 9 Tryd.keyedS Tryd.underlying104 _ b n _ rfl hown ?_; intro w0 hrg0 hg0 hs0)
  go_frame
  go_loopw [3] (fun v wr => ∃ (left : Lit → Bool) (cnt : Nat) (ss : List (List UInt8)), wr.ranges Tryd.prog 9 (plainElem Tryd.prog 9) b w.heap.size n D0 left cnt ∧ ss.length + cnt ≤ Maps.size D0 ∧ wr.ownsRow w.heap.size 9 1 v ss.length (ss.map encStr) ∧ Collected D0 left ss ∧ Below w.heap.size w wr) (fun _ wr => wr.rangeLeft b w.heap.size)
  case atStart => exact ⟨_, _, [], hrg0, by simp, World.ownsRow_nil _ _ _ _, Collected.start D0, (Below.refl _ _).grown hg0 (Nat.le_refl _) (fun j hj => by cases hj)⟩
  case round =>
    obtain ⟨left, cnt, ss, hrg, hcs, hrow, hC, hnx⟩ := hrel
    go_wp2_with (at_next; refine wpList_next_ranges _ rfl _ rfl 9 Tryd.keyedS (plainElem Tryd.prog 9) encStr Value.string (fun key kl hk => by obtain ⟨x, hx, _⟩ := Maps.keyOf_str Tryd.underlying9 hk; exact ⟨x, hx⟩) (fun v y hv => by obtain ⟨c, rfl, _⟩ := plainElem_string_inv Tryd.underlying9 hv; exact ⟨c, rfl⟩) b w.heap.size n _ _ _ rfl hrg ?_ ?_)
    · intro _ hl0
      have hsl : ss.length < 4611686018427387904 := by omega
      have hst := sort_any rfl hrow hsl
      have hks : ss.mergeSort leB = sortedKeys D0 := mergeSort_of_perm (hC.perm hrg.owns Tryd.keyedS Tryd.underlying9 hl0)
      have hle : ∀ x ∈ strKeys D0, x.length ≤ maxLen := strKeys_le hrg.owns Tryd.underlying9
      have hkl : ∀ s ∈ keyTexts D0, s.size ≤ maxLen := fun s hs => by
        obtain ⟨k, hk, rfl⟩ := List.mem_map.1 hs
        have := hle k ((List.mergeSort_perm _ _).mem_iff.1 hk)
        show k.toArray.size ≤ _
        simpa using this
      have hsz : (keyTexts D0).length * 32 ≤ 140737488355328 := by
        have h1 : (ss.mergeSort leB).length = ss.length := by simp
        rw [hks] at h1
        have h2 : (keyTexts D0).length = (sortedKeys D0).length := by simp [keyTexts]
        omega
      rw [hks, keyTexts_enc] at hst
      have HST := Lib.hid hst
      have HKL := Lib.hid hkl
      have HNX := Lib.hid hnx
      have HM := Lib.hid hrg.owns
      have HRL := Lib.hid (fun j (hj : u3.ownBlock = some j) => (hrow.lt j hj).1)
      have hne := row_ne_low hrow hbl
      clear hst hks hle hkl hC hl0 hcs hsl
      generalize hkt : keyTexts D0 = ks at HST HKL hsz
      clear hrow hnx hrg
      go_wp2_with (go_at_call 71; refine HST.out.mono ?_; rintro e w1 ⟨rfl, hrow1, hg1⟩; have hbel1 : Below w.heap.size w w1 := HNX.out.grown hg1 HNX.out.size (fun j hj => HRL.out j hj); have hown1 := HM.out.kept hg1 hne; obtain ⟨A, c, rfl, hstr⟩ := own_strs hrow1; have hs1 := hbel1.size; have hst1 : Strs (fun b => w.heap.size ≤ b ∧ b < w1.heap.size) w1 A ks := hstr.wide fun b hb hl => ⟨hb, hl⟩; have G1 := Lib.hid hown1; have G2 := Lib.hid hst1; have G3 := Lib.hid hbel1; clear hown1 hst1 hstr hrow1 hg1 hbel1)
      have hbl1 : b < w1.heap.size := by omega
      have hpo : (pairsOf D0).length = ks.length := by unfold pairsOf; rw [hkt, List.length_map]
      have hpg : ∀ j (hj : j < ks.length), (pairsOf D0).take (j + 1) = (pairsOf D0).take j ++ [(ks[j], valAt D0 ks[j].data.toList)] := fun j hj => by
        rw [List.take_succ_eq_append_getElem (by omega)]
        congr 2
        simp [pairsOf, hkt]
      have HPG := Lib.hid hpg
      clear hpg
      go_loopw [5, 22] (fun v i wr => ∃ j : Nat, j ≤ ks.length ∧ i = .int .i64 j ∧ wr.ownsRow w1.heap.size 32 2 v j (kvCells ((pairsOf D0).take j)) ∧ wr.ownsMap Tryd.prog 9 (plainElem Tryd.prog 9) b n D0 ∧ Strs (fun b => w.heap.size ≤ b ∧ b < w1.heap.size) wr A ks ∧ Below w.heap.size w wr ∧ w1.heap.size ≤ wr.heap.size) (fun _ i _ => ks.length - (intOf i).toNat)
      case atStart => exact ⟨0, Nat.zero_le _, rfl, World.ownsRow_nil _ _ _ _, G1.out, G2.out, G3.out, Nat.le_refl _⟩
      case round =>
        obtain ⟨wo, rfl⟩ : ∃ wo : World, wo = wr := ⟨_, rfl⟩
        obtain ⟨j, hj, rfl, hown, hm, hst, hb, hge⟩ := hrel
        have HOWN := Lib.hid hown
        have HMM := Lib.hid hm
        have HSS := Lib.hid hst
        clear hown hm hst
        by_cases hlt : j < ks.length
        · obtain ⟨gb, go, rfl, hD, c0⟩ := HSS.out j ks[j] (by simp [hlt])
          have hkz := HKL.out _ (List.getElem_mem hlt)
          have e1 := HPG.out j hlt
          have E1 := Lib.hid e1
          clear e1
          generalize ks[j] = s at c0 hkz E1
          have hkey : keyOf Tryd.prog 9 (.string s) = some (.string s.data.toList) := keyOf_string_mk Tryd.underlying9 hkz
          have HKEY := Lib.hid hkey
          clear hkey
          go_wp2_with (first
            | (at_lookup; refine wpList_lookup_own_str _ rfl _ _ 104 rfl 9 9 Tryd.keyedS Tryd.underlying104 Tryd.underlying9 (Tryd.zeroS _) b n D0 rfl HMM.out _ _ rfl HKEY.out ?_; intro vs hvs hvl; have hva := valAt_of hvs; clear hvs)
            | (at_builtin; refine wpList_append_own _ rfl _ _ 27 rfl w1.heap.size 32 i1 _ 2 32 Tryd.underlying27 ki kz0 kz1 kz2 rfl (by decide) _ j (kvCells ((pairsOf D0).take j)) rfl (HOWN.out.alloc _) ⟨wo.heap.size, 0, none⟩ 1 1 [.string s, .string vs] rfl rfl ?c1 ?c2 ?c3 ?c4 ?c5 ?_))
          case c1 => exact World.news_of_block (cs := #[.string s, .string vs]) (t := 32) (fr := (0, 0)) (heap_alloc_new wo _)
          case c2 => intro u hu; simp at hu; rcases hu with rfl | rfl <;> rfl
          case c3 => unfold maxLen; omega
          case c4 => omega
          case c5 => simp; omega
          intro v' w2 hown' hgrow _
          rw [← hva] at hown'
          have e2 : kvCells ((pairsOf D0).take (j + 1)) = kvCells ((pairsOf D0).take j) ++ [.string s, .string (valAt D0 s.data.toList)] := by
            rw [E1.out]; exact kvCells_snoc _ _
          rw [← e2] at hown'
          have bel : Below w.heap.size w w2 := (hb.alloc hb.size _).grown hgrow (by simp; have := hb.size; omega) (fun i hi => by have := (HOWN.out.lt _ hi).1; omega)
          have hm2 := (HMM.out.alloc (.cells #[.string s, .string vs] 32)).kept hgrow (row_ne_low HOWN.out hbl1)
          have st2 : Strs (fun b => w.heap.size ≤ b ∧ b < w1.heap.size) w2 (some ⟨gb, go, none⟩) ks := (HSS.out.keep (Kp.alloc _ _)).keepOn fun p v hd hp =>
            (hgrow.cell_far _ (World.block_lt_of_cell? _ _ hp) (fun e => by have := (HOWN.out.lt _ e.symm).1; have := hd.2; omega)).trans hp
          have hge2 : w1.heap.size ≤ w2.heap.size := by have := hgrow.size; simp at this; omega
          have K1 := Lib.hid hown'
          have K2 := Lib.hid hm2
          have K3 := Lib.hid st2
          have K4 := Lib.hid bel
          clear hown' hgrow hm2 st2 bel e2 hva c0
          go_wp2
          go_roundw
          case rel => exact ⟨j + 1, by omega, by go_num, K1.out, K2.out, K3.out, K4.out, hge2⟩
          case measure => simp [intOf]; omega
        · obtain rfl : j = ks.length := by omega
          have hown := HOWN.out
          rw [← hpo, List.take_length] at hown
          obtain ⟨A', c', rfl, hr⟩ := own_kvs hown
          have hr2 : KVs (w.heap.size ≤ ·) wo A' (pairsOf D0) := hr.wide fun b hb _ => by have hb : _ ≤ b := hb; show _ ≤ b; omega
          have R1 := Lib.hid hr2
          clear hown hr hr2
          go_wp2
          go_ret
          exact ⟨A', c', rfl, R1.out, hb⟩
    · intro x c kl yd yp w2 cnt2 hkey hlk hv hat hrg2 hlt hg2 hs2 hen
      obtain ⟨x', ex, rfl, _⟩ := Maps.keyOf_str Tryd.underlying9 hkey
      obtain rfl : x = x' := encStr_inj ex
      have hrow2 := hrow.kept hg2 (Or.inr (row_ne_iter hrow hrg).symm)
      clear hs2
      go_wp2_with (at_builtin; refine wpList_append_own _ rfl _ _ 34 rfl w.heap.size 9 i0 (.string ByteArray.empty) 1 16 Tryd.underlying34 hi hz0 hz1 hz2 rfl (by decide) _ _ _ rfl (hrow2.alloc _) ⟨w2.heap.size, 0, none⟩ 1 1 [encStr x] rfl rfl (cell_one_new _ _ _) (by simp [Value.oneCell', encStr]) (by unfold maxLen at *; omega) (by omega) (by have := hnx.size; have := hg2.size; simp; omega) ?_; intro v' w3 hown' hg3 hnil3; go_frame)
      have hrg3 := (hrg2.alloc _).kept hg3 (row_ne_low hrow2 hbl) (row_ne_iter hrow2 hrg2)
      go_roundw
      case rel =>
        refine ⟨_, cnt2, ss ++ [x], hrg3, by simp; omega, by simpa using hown', hC.step hlk hat, ?_⟩
        exact ((hnx.grown hg2 hnx.size (fun j hj => by cases hj; exact Nat.le_refl _)).alloc (by have := hnx.size; have := hg2.size; omega) _).grown hg3 (by have := hnx.size; have := hg2.size; simp; omega) (fun j hj => (hrow2.lt j hj).1)
      case measure => rw [hrg3.left_eq, hrg.left_eq]; exact hlt
end Go.Proofs.YtlbmjfjmbgbpeaaDoor
