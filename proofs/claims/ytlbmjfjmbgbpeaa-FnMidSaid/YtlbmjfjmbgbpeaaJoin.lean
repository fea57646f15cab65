/- Texts joined by single blanks, and that their pieces are the texts again. -/
import Derived.Test.YtlbmjfjmbgbpeaaText
import Derived.Test.YtlbmjfjmbgbpeaaWord
namespace Go.Proofs.Ytlbmjfjmbgbpeaa
open Go.RowKit

/-- The texts of l behind acc; k of them were before. -/
def joinGo : Nat → ByteArray → List ByteArray → ByteArray
  | _, acc, [] => acc
  | k, acc, s :: r => joinGo (k + 1) ((if 0 < k then acc ++ ⟨#[32]⟩ else acc) ++ s) r
def joined (l : List ByteArray) : ByteArray := joinGo 0 ⟨#[]⟩ l

/-- The total size of texts with a blank each. -/
def sizes : List ByteArray → Nat
  | [] => 0
  | s :: r => s.size + 1 + sizes r
theorem joinGo_size : ∀ (l : List ByteArray) (k : Nat) (acc : ByteArray), (joinGo k acc l).size ≤ acc.size + sizes l
  | [], _, _ => by simp [joinGo, sizes]
  | s :: r, k, acc => by
    have h := joinGo_size r (k + 1) ((if 0 < k then acc ++ ⟨#[32]⟩ else acc) ++ s)
    have h1 : (⟨#[32]⟩ : ByteArray).size = 1 := rfl
    simp only [joinGo, sizes]
    rw [ByteArray.size_append] at h
    split at h <;> (try rw [ByteArray.size_append] at h) <;> simp_all <;> omega
theorem sizes_le {B : Nat} : ∀ (l : List ByteArray), (∀ s ∈ l, s.size ≤ B) → sizes l ≤ l.length * (B + 1)
  | [], _ => by simp [sizes]
  | s :: r, h => by
    have h1 := sizes_le r (fun x hx => h x (List.mem_cons_of_mem _ hx))
    have h2 := h s (List.mem_cons_self ..)
    simp only [sizes, List.length_cons, Nat.succ_mul]
    omega

/-- The pieces of the texts that follow a text with no blank. -/
theorem pieces_joinGo : ∀ (l : List ByteArray) (k : Nat) (acc : ByteArray) (pre : List (List UInt8)) , 0 < k → (∀ s ∈ l, ∀ b ∈ s.data.toList, b ≠ 32) →
    (∀ t, pieces 32 (acc.data.toList ++ 32 :: t) = pre ++ pieces 32 t) → pieces 32 acc.data.toList = pre → pieces 32 (joinGo k acc l).data.toList = pre ++ l.map fun s => s.data.toList
  | [], k, acc, pre, _, _, _, h => by simpa [joinGo] using h
  | s :: r, k, acc, pre, hk, hs, hp, _ => by
    have hs1 := hs s (List.mem_cons_self ..)
    have e0 : ((acc ++ ⟨#[32]⟩) ++ s).data.toList = acc.data.toList ++ 32 :: s.data.toList := by rw [data_append, data_append]; simp
    rw [joinGo, if_pos hk]
    rw [pieces_joinGo r (k + 1) ((acc ++ ⟨#[32]⟩) ++ s) (pre ++ [s.data.toList]) (by omega) (fun x hx => hs x (List.mem_cons_of_mem _ hx)) (fun t => by
      rw [e0, List.append_assoc, List.cons_append, hp, pieces_mid 32 _ _ hs1]; simp) (by rw [e0, hp, pieces_whole 32 _ hs1])]
    simp
theorem piecesB_joined {l : List ByteArray} (hne : l ≠ []) (hs : ∀ s ∈ l, ∀ b ∈ s.data.toList, b ≠ 32) : piecesB 32 (joined l) = l := by
  match l, hne with
  | s :: r, _ =>
    have hs1 := hs s (List.mem_cons_self ..)
    have h := pieces_joinGo r 1 s [s.data.toList] (by omega) (fun x hx => hs x (List.mem_cons_of_mem _ hx)) (fun t => by rw [pieces_mid 32 _ _ hs1]; rfl) (pieces_whole 32 _ hs1)
    have e : joined (s :: r) = joinGo 1 s r := by
      rw [joined, joinGo, if_neg (by omega)]
      congr 1
    rw [piecesB, e, h]
    simp
    rw [show ((fun l : List UInt8 => (⟨l.toArray⟩ : ByteArray)) ∘ fun s : ByteArray => s.data.toList) = id from funext fun x => Lib.mk_data x]; simp
/-- The pieces of a word and the joined texts behind it. -/
theorem piecesB_before (p : ByteArray) (hp : ∀ b ∈ p.data.toList, b ≠ 32) {l : List ByteArray} (hne : l ≠ []) (hs : ∀ s ∈ l, ∀ b ∈ s.data.toList, b ≠ 32) : piecesB 32 ((p ++ ⟨#[32]⟩) ++ joined l) = p :: l := by
  have e0 : ((p ++ ⟨#[32]⟩) ++ joined l).data.toList = p.data.toList ++ 32 :: (joined l).data.toList := by rw [data_append, data_append]; simp
  have h := piecesB_joined hne hs
  rw [piecesB] at h ⊢
  rw [e0, pieces_mid 32 _ _ hp, List.map_cons, h]

set_option maxHeartbeats 1000000 in
theorem joined_any {D : Nat → Prop} (A : Option Addr) (c : Nat) (l : List ByteArray) (w : World) (hl : l.length ≤ 1000) (hz : ∀ s ∈ l, s.size ≤ 2147483647) (h : Strs D w A l) :
    Calls Try.prog 14 #[.slice A l.length c] w fun e w' => e = .returned (.string (joined l)) ∧ w = w' := by
  have H := Lib.hid h
  have HZ := Lib.hid hz
  clear h hz
  go_enter Try.func14, Try.ntmps14
  go_wp2
  go_loop [3, 8] (fun a i => ∃ (k : Nat) (acc : ByteArray), a = .string acc ∧ i = .int .i64 k ∧ k ≤ l.length ∧ acc.size ≤ k * 2147483648 ∧ joinGo k acc (l.drop k) = joined l) (fun _ i => l.length - (intOf i).toNat)
  case atStart => exact ⟨0, ⟨#[]⟩, rfl, rfl, Nat.zero_le _, Nat.zero_le _, rfl⟩
  case round =>
    obtain ⟨k, acc, rfl, rfl, hk, hsz, hat⟩ := hrel
    have HAT := Lib.hid hat
    clear hat
    by_cases hlt : k < l.length
    · obtain ⟨b, o, rfl, _, c0⟩ := H.out k l[k] (by simp [hlt])
      have h1 : l[k].size ≤ 2147483647 := HZ.out _ (List.getElem_mem _)
      have hb32 : (⟨#[32]⟩ : ByteArray).size = 1 := rfl
      have e1 : joinGo (k + 1) ((if 0 < k then acc ++ ⟨#[32]⟩ else acc) ++ l[k]) (l.drop (k + 1)) = joined l := by rw [← HAT.out, List.drop_eq_getElem_cons hlt, joinGo]
      have E1 := Lib.hid e1
      clear e1
      by_cases h0 : 0 < k
      · have e2 := E1.out
        rw [if_pos h0] at e2
        have E2 := Lib.hid e2
        clear e2
        go_wp2
        go_round
        case rel => exact ⟨k + 1, _, rfl, by go_num, by omega, by rw [ByteArray.size_append, ByteArray.size_append, hb32]; omega, E2.out⟩
        case measure => simp [intOf]; omega
      · have e2 := E1.out
        rw [if_neg h0] at e2
        have E2 := Lib.hid e2
        clear e2
        go_wp2
        go_round
        case rel => exact ⟨k + 1, _, rfl, by go_num, by omega, by rw [ByteArray.size_append]; omega, E2.out⟩
        case measure => simp [intOf]; omega
    · obtain rfl : k = l.length := by omega
      have e1 : acc = joined l := by rw [← HAT.out, List.drop_length]; rfl
      have E1 := Lib.hid e1
      clear e1
      go_wp2
      go_ret
      exact ⟨congrArg (fun s => Ending.returned (.string s)) E1.out, rfl⟩
end Go.Proofs.Ytlbmjfjmbgbpeaa
