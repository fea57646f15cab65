/- The package's own text searches: the first place of a text in another one, and the pieces between single bytes. -/
import Derived.Test.YtkaelnfhohggeaaDoorClone
import Derived.Lib.IndexMore
import Derived.Lib.IndexBytes
namespace Go.Proofs.YtkaelnfhohggeaaDoor
open Go.RowKit

theorem no_occ_end {s sub : List UInt8} {i : Nat} (h : Lib.NoOcc s sub i) (hi : s.length < i + sub.length) : Lib.index s sub = -1 ∨ sub = [] := by
  by_cases hs : sub = []
  · exact .inr hs
  refine .inl (Lib.index_none fun j hj => ?_)
  by_cases hji : j < i
  · exact h j hji
  · cases hc : Lib.occAt s sub j with
    | false => rfl
    | true => rcases Lib.occAt_room hc with h1 | h1; omega; exact absurd h1 hs

set_option maxHeartbeats 1000000 in
theorem index_any (s sub : ByteArray) (w : World) (hs : s.size ≤ 4294967296) (hsub : sub.size ≤ 4294967296) (hne : 0 < sub.size) :
    Calls Tryd.prog 54 #[.string s, .string sub] w fun e w' => e = .returned (.int .i64 (Lib.index s.data.toList sub.data.toList)) ∧ w = w' := by
  go_enter Tryd.func54, Tryd.ntmps54
  go_wp2
  go_loop [5] (fun i => ∃ k : Nat, i = .int .i64 k ∧ k ≤ s.size + 1 ∧ Lib.NoOcc s.data.toList sub.data.toList k) (fun i => s.size + 2 - (intOf i).toNat)
  case atStart => exact ⟨0, rfl, by omega, fun j hj => by omega⟩
  case round =>
    obtain ⟨k, rfl, hk, hno⟩ := hrel
    have HNO := Lib.hid hno
    clear hno
    by_cases hlt : k + sub.size ≤ s.size
    · have ho := Lib.occ_of_piece s sub k hlt
      have HO := Lib.hid ho
      clear ho
      cases ht : ((s.extract k (k + sub.size)).toList == sub.toList) with
      | true =>
        have fin : Lib.index s.data.toList sub.data.toList = (k : Int) := Lib.index_first (by have := Lib.size_eq s; omega) (HO.out.trans ht) HNO.out
        have FIN := Lib.hid fin
        clear fin
        go_wp2
        go_ret
        exact ⟨congrArg (fun n => Ending.returned (.int .i64 n)) FIN.out.symm, rfl⟩
      | false =>
        have nx : Lib.NoOcc s.data.toList sub.data.toList (k + 1) := fun j hj => by
          by_cases hjk : j < k
          · exact HNO.out j hjk
          · obtain rfl : j = k := by omega
            exact HO.out.trans ht
        have NX := Lib.hid nx
        clear nx
        go_wp2
        go_round
        case rel => exact ⟨k + 1, by go_num, by omega, NX.out⟩
        case measure => simp [intOf]; omega
    · have fin : Lib.index s.data.toList sub.data.toList = -1 := by
        rcases no_occ_end HNO.out (by have h1 := Lib.size_eq s; have h2 := Lib.size_eq sub; omega) with h | h
        · exact h
        · have h2 := Lib.size_eq sub
          rw [h] at h2
          have h3 : sub.size = 0 := h2
          omega
      have FIN := Lib.hid fin
      clear fin
      go_wp2
      go_ret
      exact ⟨congrArg (fun n => Ending.returned (.int .i64 n)) FIN.out.symm, rfl⟩

/-! The pieces of a text between single bytes. -/
def pieces (c : UInt8) : List UInt8 → List (List UInt8)
  | [] => [[]]
  | b :: l => if b = c then [] :: pieces c l else match pieces c l with
    | [] => [[b]]
    | p :: r => (b :: p) :: r
theorem pieces_ne (c : UInt8) (l : List UInt8) : pieces c l ≠ [] := by
  cases l with
  | nil => simp [pieces]
  | cons b l =>
    simp only [pieces]
    split
    · simp
    · split <;> simp
theorem index_one_nil (c : UInt8) : Lib.index [] [c] = -1 := by simp [Lib.index]
theorem index_one_hit (c : UInt8) (l : List UInt8) : Lib.index (c :: l) [c] = 0 := by simp [Lib.index]
theorem index_one_miss (c b : UInt8) (l : List UInt8) (h : b ≠ c) : Lib.index (b :: l) [c] = if Lib.index l [c] = -1 then -1 else Lib.index l [c] + 1 := by
  simp only [Lib.index, List.isPrefixOf]
  have : (c == b) = false := by simpa using Ne.symm h
  simp [this]
theorem pieces_none (c : UInt8) : ∀ (l : List UInt8), Lib.index l [c] = -1 → pieces c l = [l]
  | [], _ => rfl
  | b :: l, h => by
    by_cases hb : b = c
    · subst hb; rw [index_one_hit] at h; omega
    · rw [index_one_miss c b l hb] at h
      have hi : Lib.index l [c] = -1 := by
        by_cases h1 : Lib.index l [c] = -1
        · exact h1
        · rw [if_neg h1] at h; have := Lib.index_ge l [c]; omega
      simp only [pieces, if_neg hb, pieces_none c l hi]
theorem pieces_some (c : UInt8) : ∀ (l : List UInt8) (i : Nat), Lib.index l [c] = (i : Int) → i < l.length ∧ pieces c l = l.take i :: pieces c (l.drop (i + 1))
  | [], i, h => by rw [index_one_nil] at h; omega
  | b :: l, i, h => by
    by_cases hb : b = c
    · subst hb
      rw [index_one_hit] at h
      obtain rfl : i = 0 := by omega
      exact ⟨by simp, by simp [pieces]⟩
    · rw [index_one_miss c b l hb] at h
      by_cases h1 : Lib.index l [c] = -1
      · rw [if_pos h1] at h; omega
      · rw [if_neg h1] at h
        have h2 := Lib.index_ge l [c]
        obtain ⟨j, hj⟩ : ∃ j : Nat, Lib.index l [c] = (j : Int) := ⟨(Lib.index l [c]).toNat, by omega⟩
        obtain rfl : i = j + 1 := by omega
        obtain ⟨h3, h4⟩ := pieces_some c l j hj
        refine ⟨by simp; omega, ?_⟩
        simp only [pieces, if_neg hb, h4]
        rfl
theorem pieces_mid (c : UInt8) : ∀ (l t : List UInt8), (∀ b ∈ l, b ≠ c) → pieces c (l ++ c :: t) = l :: pieces c t
  | [], t, _ => by simp [pieces]
  | b :: l, t, h => by
    have h1 := pieces_mid c l t (fun x hx => h x (List.mem_cons_of_mem _ hx))
    simp only [List.cons_append, pieces, if_neg (h b (List.mem_cons_self ..)), h1]
theorem pieces_whole (c : UInt8) : ∀ (l : List UInt8), (∀ b ∈ l, b ≠ c) → pieces c l = [l]
  | [], _ => rfl
  | b :: l, h => by
    have h1 := pieces_whole c l (fun x hx => h x (List.mem_cons_of_mem _ hx))
    simp only [pieces, if_neg (h b (List.mem_cons_self ..)), h1]
theorem data_append (a b : ByteArray) : (a ++ b).data.toList = a.data.toList ++ b.data.toList := by simp
/-- The pieces as texts. -/
def piecesB (c : UInt8) (s : ByteArray) : List ByteArray := (pieces c s.data.toList).map fun l => ⟨l.toArray⟩
theorem piecesB_none (c : UInt8) (s : ByteArray) (h : Lib.index s.data.toList [c] = -1) : piecesB c s = [s] := by
  simp [piecesB, pieces_none c _ h]
theorem piecesB_some (c : UInt8) (s : ByteArray) (i : Nat) (h : Lib.index s.data.toList [c] = (i : Int)) : i < s.size ∧ piecesB c s = s.extract 0 i :: piecesB c (s.extract (i + 1) s.size) := by
  obtain ⟨h1, h2⟩ := pieces_some c _ i h
  rw [← Lib.size_eq] at h1
  refine ⟨h1, ?_⟩
  simp only [piecesB, h2, List.map_cons]
  congr 1
  · rw [Lib.extract_eq]; simp
  · rw [Lib.extract_to_end]

theorem index_one (r : ByteArray) (c : UInt8) (n : Int) (w : World) (hr : r.size ≤ 4294967296) (h : Lib.index r.data.toList [c] = n) :
    Calls Tryd.prog 54 #[.string r, .string ⟨#[c]⟩] w fun e w' => e = .returned (.int .i64 n) ∧ w = w' := by
  subst h
  exact index_any r ⟨#[c]⟩ w hr (by show 1 ≤ _; omega) (by show 0 < 1; omega)

/-- The length of a text in a slot. -/
def lenOf : Value → Nat | .string s => s.size | _ => 0

set_option maxHeartbeats 2000000 in
set_option maxRecDepth 100000 in
theorem splitN_all (s : ByteArray) (c : UInt8) (w : World) (hs : s.size ≤ 4294967296) :
    Calls Tryd.prog 40 #[.string s, .string ⟨#[c]⟩, .int .i64 (-1)] w fun e w' => ∃ A k, e = .returned (.slice A (piecesB c s).length k) ∧ Strs (w.heap.size ≤ ·) w' A (piecesB c s) ∧ Below w.heap.size w w' := by
  obtain ⟨i0, hi, hz0, hz1, hz2⟩ := info_parts Tryd.infoStr
  go_enter Tryd.func40, Tryd.ntmps40
  go_wp2
  go_loopw [0, 7] (fun t v wr => ∃ (r : ByteArray) (done : List ByteArray), t = .string r ∧ wr.ownsRow w.heap.size 9 1 v done.length (done.map Value.string) ∧ done ++ piecesB c r = piecesB c s ∧ done.length + r.size ≤ s.size ∧ Below w.heap.size w wr) (fun t _ _ => lenOf t)
  case atStart => exact ⟨s, [], rfl, World.ownsRow_nil _ _ _ _, rfl, by simp, Below.refl _ _⟩
  case round =>
    obtain ⟨r, done, rfl, hown, hp, hle, hb⟩ := hrel
    have HP := Lib.hid hp
    have hsz := hb.size
    clear hp
    by_cases hm : Lib.index r.data.toList [c] = -1
    · have e1 := piecesB_none c r hm
      have e2 := HP.out
      rw [e1] at e2
      have E2 := Lib.hid e2
      have HM := Lib.hid hm
      clear e1 e2 hm
      go_wp2_with (first
        | (go_at_call 54; refine (index_one r c (-1) _ (by omega) HM.out).mono ?_; rintro e w' ⟨rfl, rfl⟩)
        | (at_builtin; refine wpList_append_own _ rfl _ _ 25 rfl w.heap.size 9 i0 _ 1 16 Tryd.underlying25 hi hz0 hz1 hz2 rfl (by decide) _ _ _ rfl (hown.alloc _) ⟨wr.heap.size, 0, none⟩ 1 1 [.string r] rfl rfl ?c1 ?c2 ?c3 ?c4 ?c5 ?_))
      case c1 => exact World.news_of_block (cs := #[.string r]) (t := 9) (fr := (0, 0)) (heap_alloc_new wr _)
      case c2 => intro u hu; simp at hu; subst hu; rfl
      case c3 => unfold maxLen; omega
      case c4 => omega
      case c5 => simp; omega
      intro v' w1 hown' hgrow _
      have e1 : List.map Value.string done ++ [Value.string r] = (done ++ [r]).map Value.string := by simp
      rw [e1, E2.out] at hown'
      obtain ⟨A', c', rfl, hr⟩ := own_strs hown'
      have hl : done.length + 1 = (piecesB c s).length := by rw [← E2.out]; simp
      have hb' : Below w.heap.size w w1 := (hb.alloc hsz _).grown hgrow (by simp; omega) (fun j hj => (hown.lt j hj).1)
      have HL := Lib.hid hl
      clear hown' hgrow hown hb e1 hl
      go_wp2
      go_ret
      exact ⟨A', c', rfl, hr, hb'⟩
    · obtain ⟨i, hi2⟩ : ∃ i : Nat, Lib.index r.data.toList [c] = (i : Int) := ⟨(Lib.index r.data.toList [c]).toNat, by have := Lib.index_ge r.data.toList [c]; omega⟩
      obtain ⟨hlt, e1⟩ := piecesB_some c r i hi2
      have e2 := HP.out
      rw [e1] at e2
      have E2 := Lib.hid e2
      have HM := Lib.hid hi2
      clear e1 e2 hi2 hm
      go_wp2_with (first
        | (go_at_call 54; refine (index_one r c i _ (by omega) HM.out).mono ?_; rintro e w' ⟨rfl, rfl⟩)
        | (at_builtin; refine wpList_append_own _ rfl _ _ 25 rfl w.heap.size 9 i0 _ 1 16 Tryd.underlying25 hi hz0 hz1 hz2 rfl (by decide) _ _ _ rfl (hown.alloc _) ⟨wr.heap.size, 0, none⟩ 1 1 [.string (r.extract 0 i)] rfl rfl ?d1 ?d2 ?d3 ?d4 ?d5 ?_))
      case d1 => exact World.news_of_block (cs := #[.string (r.extract 0 i)]) (t := 9) (fr := (0, 0)) (heap_alloc_new wr _)
      case d2 => intro u hu; simp at hu; subst hu; rfl
      case d3 => unfold maxLen; omega
      case d4 => omega
      case d5 => simp; omega
      intro v' w1 hown' hgrow _
      have e1 : List.map Value.string done ++ [Value.string (r.extract 0 i)] = (done ++ [r.extract 0 i]).map Value.string := by simp
      have e0 : done.length + 1 = (done ++ [r.extract 0 i]).length := by simp
      rw [e1, e0] at hown'
      have hb' : Below w.heap.size w w1 := (hb.alloc hsz _).grown hgrow (by simp; omega) (fun j hj => (hown.lt j hj).1)
      have OWN := Lib.hid hown'
      clear hown' hgrow hown hb e1 e0
      go_wp2
      go_roundw
      case rel => exact ⟨r.extract (i + 1) r.size, done ++ [r.extract 0 i], by rfl, OWN.out, by simpa using E2.out, by simp [ByteArray.size_extract]; omega, hb'⟩
      case measure => simp [lenOf, ByteArray.size_extract]; omega

set_option maxHeartbeats 400000 in
theorem split_any (s : ByteArray) (c : UInt8) (w : World) (hs : s.size ≤ 4294967296) :
    Calls Tryd.prog 30 #[.string s, .string ⟨#[c]⟩] w fun e w' => ∃ A k, e = .returned (.slice A (piecesB c s).length k) ∧ Strs (w.heap.size ≤ ·) w' A (piecesB c s) ∧ Below w.heap.size w w' := by
  go_enter Tryd.func30, Tryd.ntmps30
  go_wp2_with (go_at_call 40; refine (splitN_all s c _ hs).mono ?_; rintro e w' ⟨A', k', rfl, hr, hb⟩)
  go_ret
  exact ⟨A', k', rfl, hr, hb⟩
end Go.Proofs.YtkaelnfhohggeaaDoor
