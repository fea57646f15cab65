/- The same text searches, as the package of descriptions has them. -/
import Derived.Test.YtkaelnfhohggeaaDoorText
namespace Go.Proofs.YtkaelnfhohggeaaDoor.S
open Go.RowKit

set_option maxHeartbeats 1000000 in
theorem index_any (s sub : ByteArray) (w : World) (hs : s.size ≤ 4294967296) (hsub : sub.size ≤ 4294967296) (hne : 0 < sub.size) :
    Calls Tryd.prog 55 #[.string s, .string sub] w fun e w' => e = .returned (.int .i64 (Lib.index s.data.toList sub.data.toList)) ∧ w = w' := by
  go_enter Tryd.func55, Tryd.ntmps55
  go_wp2
  go_loop [5] (fun i => ∃ k : Nat, i = .int .i64 k ∧ k ≤ s.size + 1 ∧ Lib.NoOcc s.data.toList sub.data.toList k) (fun i => s.size + 2 - (intOf i).toNat)
  case atStart => exact ⟨0, rfl, by omega, fun j hj => by omega⟩
  case round =>
    obtain ⟨k, rfl, hk, hno⟩ := hrel
    have HNO := Lib.hid hno
    clear hno
    by_cases hlt : k + sub.size ≤ s.size
    · have ho := Lib.occ_of_piece s sub k hlt
      have HO := Lib.hid ho
      clear ho
      cases ht : ((s.extract k (k + sub.size)).toList == sub.toList) with
      | true =>
        have fin : Lib.index s.data.toList sub.data.toList = (k : Int) := Lib.index_first (by have := Lib.size_eq s; omega) (HO.out.trans ht) HNO.out
        have FIN := Lib.hid fin
        clear fin
        go_wp2
        go_ret
        exact ⟨congrArg (fun n => Ending.returned (.int .i64 n)) FIN.out.symm, rfl⟩
      | false =>
        have nx : Lib.NoOcc s.data.toList sub.data.toList (k + 1) := fun j hj => by
          by_cases hjk : j < k
          · exact HNO.out j hjk
          · obtain rfl : j = k := by omega
            exact HO.out.trans ht
        have NX := Lib.hid nx
        clear nx
        go_wp2
        go_round
        case rel => exact ⟨k + 1, by go_num, by omega, NX.out⟩
        case measure => simp [intOf]; omega
    · have fin : Lib.index s.data.toList sub.data.toList = -1 := by
        rcases no_occ_end HNO.out (by have h1 := Lib.size_eq s; have h2 := Lib.size_eq sub; omega) with h | h
        · exact h
        · have h2 := Lib.size_eq sub
          rw [h] at h2
          have h3 : sub.size = 0 := h2
          omega
      have FIN := Lib.hid fin
      clear fin
      go_wp2
      go_ret
      exact ⟨congrArg (fun n => Ending.returned (.int .i64 n)) FIN.out.symm, rfl⟩

theorem index_one (r : ByteArray) (c : UInt8) (n : Int) (w : World) (hr : r.size ≤ 4294967296) (h : Lib.index r.data.toList [c] = n) :
    Calls Tryd.prog 55 #[.string r, .string ⟨#[c]⟩] w fun e w' => e = .returned (.int .i64 n) ∧ w = w' := by
  subst h
  exact index_any r ⟨#[c]⟩ w hr (by show 1 ≤ _; omega) (by show 0 < 1; omega)

set_option maxHeartbeats 2000000 in
set_option maxRecDepth 100000 in
theorem split_any (s : ByteArray) (c : UInt8) (w : World) (hs : s.size ≤ 4294967296) :
    Calls Tryd.prog 45 #[.string s, .string ⟨#[c]⟩] w fun e w' => ∃ A k, e = .returned (.slice A (piecesB c s).length k) ∧ Strs (w.heap.size ≤ ·) w' A (piecesB c s) ∧ Below w.heap.size w w' := by
  obtain ⟨i0, hi, hz0, hz1, hz2⟩ := info_parts Tryd.infoStr
  go_enter Tryd.func45, Tryd.ntmps45
  go_wp2
  go_loopw [0, 5] (fun t v wr => ∃ (r : ByteArray) (done : List ByteArray), t = .string r ∧ wr.ownsRow w.heap.size 9 1 v done.length (done.map Value.string) ∧ done ++ piecesB c r = piecesB c s ∧ done.length + r.size ≤ s.size ∧ Below w.heap.size w wr) (fun t _ _ => lenOf t)
  case atStart => exact ⟨s, [], rfl, World.ownsRow_nil _ _ _ _, rfl, by simp, Below.refl _ _⟩
  case round =>
    obtain ⟨r, done, rfl, hown, hp, hle, hb⟩ := hrel
    have HP := Lib.hid hp
    have hsz := hb.size
    clear hp
    by_cases hm : Lib.index r.data.toList [c] = -1
    · have e1 := piecesB_none c r hm
      have e2 := HP.out
      rw [e1] at e2
      have E2 := Lib.hid e2
      have HM := Lib.hid hm
      clear e1 e2 hm
      go_wp2_with (first
        | (go_at_call 55; refine (index_one r c (-1) _ (by omega) HM.out).mono ?_; rintro e w' ⟨rfl, rfl⟩)
        | (at_builtin; refine wpList_append_own _ rfl _ _ 25 rfl w.heap.size 9 i0 _ 1 16 Tryd.underlying25 hi hz0 hz1 hz2 rfl (by decide) _ _ _ rfl (hown.alloc _) ⟨wr.heap.size, 0, none⟩ 1 1 [.string r] rfl rfl ?c1 ?c2 ?c3 ?c4 ?c5 ?_))
      case c1 => exact World.news_of_block (cs := #[.string r]) (t := 9) (fr := (0, 0)) (heap_alloc_new wr _)
      case c2 => intro u hu; simp at hu; subst hu; rfl
      case c3 => unfold maxLen; omega
      case c4 => omega
      case c5 => simp; omega
      intro v' w1 hown' hgrow _
      have e1 : List.map Value.string done ++ [Value.string r] = (done ++ [r]).map Value.string := by simp
      rw [e1, E2.out] at hown'
      obtain ⟨A', c', rfl, hr⟩ := own_strs hown'
      have hl : done.length + 1 = (piecesB c s).length := by rw [← E2.out]; simp
      have hb' : Below w.heap.size w w1 := (hb.alloc hsz _).grown hgrow (by simp; omega) (fun j hj => (hown.lt j hj).1)
      have HL := Lib.hid hl
      clear hown' hgrow hown hb e1 hl
      go_wp2
      go_ret
      exact ⟨A', c', rfl, hr, hb'⟩
    · obtain ⟨i, hi2⟩ : ∃ i : Nat, Lib.index r.data.toList [c] = (i : Int) := ⟨(Lib.index r.data.toList [c]).toNat, by have := Lib.index_ge r.data.toList [c]; omega⟩
      obtain ⟨hlt, e1⟩ := piecesB_some c r i hi2
      have e2 := HP.out
      rw [e1] at e2
      have E2 := Lib.hid e2
      have HM := Lib.hid hi2
      clear e1 e2 hi2 hm
      go_wp2_with (first
        | (go_at_call 55; refine (index_one r c i _ (by omega) HM.out).mono ?_; rintro e w' ⟨rfl, rfl⟩)
        | (at_builtin; refine wpList_append_own _ rfl _ _ 25 rfl w.heap.size 9 i0 _ 1 16 Tryd.underlying25 hi hz0 hz1 hz2 rfl (by decide) _ _ _ rfl (hown.alloc _) ⟨wr.heap.size, 0, none⟩ 1 1 [.string (r.extract 0 i)] rfl rfl ?d1 ?d2 ?d3 ?d4 ?d5 ?_))
      case d1 => exact World.news_of_block (cs := #[.string (r.extract 0 i)]) (t := 9) (fr := (0, 0)) (heap_alloc_new wr _)
      case d2 => intro u hu; simp at hu; subst hu; rfl
      case d3 => unfold maxLen; omega
      case d4 => omega
      case d5 => simp; omega
      intro v' w1 hown' hgrow _
      have e1 : List.map Value.string done ++ [Value.string (r.extract 0 i)] = (done ++ [r.extract 0 i]).map Value.string := by simp
      have e0 : done.length + 1 = (done ++ [r.extract 0 i]).length := by simp
      rw [e1, e0] at hown'
      have hb' : Below w.heap.size w w1 := (hb.alloc hsz _).grown hgrow (by simp; omega) (fun j hj => (hown.lt j hj).1)
      have OWN := Lib.hid hown'
      clear hown' hgrow hown hb e1 e0
      go_wp2
      go_roundw
      case rel => exact ⟨r.extract (i + 1) r.size, done ++ [r.extract 0 i], by rfl, OWN.out, by simpa using E2.out, by simp [ByteArray.size_extract]; omega, hb'⟩
      case measure => simp [lenOf, ByteArray.size_extract]; omega

set_option maxHeartbeats 1000000 in
set_option maxRecDepth 100000 in
theorem splitTwo_any (s : ByteArray) (c : UInt8) (i : Nat) (w : World) (hs : s.size ≤ 4294967296) (hi0 : Lib.index s.data.toList [c] = (i : Int)) :
    Calls Tryd.prog 46 #[.string s, .string ⟨#[c]⟩] w fun e w' => ∃ A k, e = .returned (.slice A 2 k) ∧ Strs (w.heap.size ≤ ·) w' A [s.extract 0 i, s.extract (i + 1) s.size] ∧ Below w.heap.size w w' := by
  have hlt := (piecesB_some c s i hi0).1
  have HM := Lib.hid hi0
  clear hi0
  go_enter Tryd.func46, Tryd.ntmps46
  go_wp2_with (go_at_call 55; refine (index_one s c i _ hs HM.out).mono ?_; rintro e w' ⟨rfl, rfl⟩)
  go_region
  all_goals (go_wp2; go_ret; refine ⟨_, _, rfl, fun k x hx => ?_, (((Below.refl _ _).alloc (Nat.le_refl _) _).drew)⟩)
  all_goals
    match k, hx with
    | 0, hx => simp at hx; subst hx; exact ⟨w.heap.size, 0, rfl, Nat.le_refl _, by simp [go_sem]⟩
    | 1, hx => simp at hx; subst hx; exact ⟨w.heap.size, 0, rfl, Nat.le_refl _, by simp [go_sem]⟩
    | k + 2, hx => simp at hx
end Go.Proofs.YtkaelnfhohggeaaDoor.S
