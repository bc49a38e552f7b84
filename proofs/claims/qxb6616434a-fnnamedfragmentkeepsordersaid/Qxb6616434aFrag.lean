/-
  THE WALKS of the callees that both statements share: the size guards (6, 9), namedFragment (15, 7), zzHasSuffix (8), zzCompare (10); and the plain law on them.
-/
import Derived.Test.Qxb6616434aRows
import Derived.WalkKit
import Derived.WalkSpells
import Derived.Deep.QuietTactic
import Derived.BigQuiet
namespace Go.Proofs.Qxb6616434a.frag
open Go.RowKit

theorem toList_data (s : ByteArray) : s.toList = s.data.toList := ByteArray.toList_eq s

theorem append_list (s t : ByteArray) : (s ++ t).toList = s.toList ++ t.toList := by
  rw [toList_data, toList_data, toList_data, ByteArray.data_append, Array.toList_append]

theorem size_list (s : ByteArray) : s.toList.length = s.size := by
  rw [toList_data]; rfl

theorem getElem_list (s : ByteArray) (k : Nat) (h : k < s.size) : s.toList[k]? = some s[k] := by
  rw [toList_data]
  have h' : k < s.data.toList.length := h
  rw [List.getElem?_eq_getElem h']
  rfl

theorem drop_list (s : ByteArray) (k : Nat) (h : k < s.size) : s.toList.drop k = s[k] :: s.toList.drop (k + 1) := by
  have hl : k < s.toList.length := by rw [size_list]; exact h
  rw [List.drop_eq_getElem_cons hl]
  have e := getElem_list s k h
  rw [List.getElem?_eq_getElem hl] at e
  rw [Option.some.inj e]

theorem extract_list (s : ByteArray) (n : Nat) : (s.extract n s.size).toList = s.toList.drop n := by
  rw [toList_data, toList_data, ByteArray.data_extract, Array.toList_extract, List.extract_eq_take_drop]
  apply List.take_of_length_le
  rw [List.length_drop]
  exact Nat.le_refl _

/-! ### The order, byte by byte -/

def cmpL : List UInt8 → List UInt8 → Int
  | [], [] => 0
  | [], _ :: _ => -1
  | _ :: _, [] => 1
  | x :: xs, y :: ys => if (x.toNat : Int) < y.toNat then -1 else if (y.toNat : Int) < x.toNat then 1 else cmpL xs ys

theorem cmpL_pre (p a b : List UInt8) : cmpL (p ++ a) (p ++ b) = cmpL a b := by
  induction p with
  | nil => rfl
  | cons x p ih =>
    rw [List.cons_append, List.cons_append, cmpL, if_neg (by omega), if_neg (by omega), ih]

theorem cmpL_lt {x y : UInt8} (xs ys : List UInt8) (h : (x.toNat : Int) < y.toNat) : cmpL (x :: xs) (y :: ys) = -1 := by
  rw [cmpL, if_pos h]

theorem cmpL_gt {x y : UInt8} (xs ys : List UInt8) (h : (y.toNat : Int) < x.toNat) : cmpL (x :: xs) (y :: ys) = 1 := by
  rw [cmpL, if_neg (by omega), if_pos h]

theorem cmpL_eq {x y : UInt8} (xs ys : List UInt8) (h : ¬ (x.toNat : Int) < y.toNat) (h' : ¬ (y.toNat : Int) < x.toNat) : cmpL (x :: xs) (y :: ys) = cmpL xs ys := by
  rw [cmpL, if_neg h, if_neg h']

theorem cmpL_end (xs ys : List UInt8) (h : xs = [] ∨ ys = []) : cmpL xs ys = if xs.length < ys.length then -1 else if ys.length < xs.length then 1 else 0 := by
  cases xs with
  | nil => cases ys with
    | nil => rfl
    | cons y ys => simp [cmpL]
  | cons x xs => cases ys with
    | nil => simp [cmpL]
    | cons y ys => rcases h with h | h <;> cases h

/-- What is left behind k equal places tells the order. -/
theorem cmp_tail (a b : ByteArray) (k : Nat) (hk : k ≤ a.size) (hk2 : k ≤ b.size) (h : k = a.size ∨ k = b.size) :
    cmpL (a.toList.drop k) (b.toList.drop k) = if a.size < b.size then -1 else if b.size < a.size then 1 else 0 := by
  rw [cmpL_end, List.length_drop, List.length_drop, size_list, size_list]
  · by_cases h1 : a.size < b.size
    · rw [if_pos h1, if_pos (by omega)]
    · rw [if_neg h1, if_neg (by omega)]
      by_cases h2 : b.size < a.size
      · rw [if_pos h2, if_pos (by omega)]
      · rw [if_neg h2, if_neg (by omega)]
  · rcases h with h | h
    · left; apply List.drop_of_length_le; rw [size_list]; omega
    · right; apply List.drop_of_length_le; rw [size_list]; omega

/-! ### The walks -/

set_option maxHeartbeats 400000 in
theorem bytes6_yes (a b : ByteArray) (w : World) (h : a.size + b.size ≤ 1048576) :
    Calls Try.prog 6 #[.string a, .string b] w fun e w' => e = .returned (.bool true) ∧ w = w' := by
  go_enter Try.func6, Try.ntmps6
  go_wp2
  go_ret
  exact ⟨rfl, rfl⟩

set_option maxHeartbeats 400000 in
theorem bytes6_no (a b : ByteArray) (w : World) (ha : a.size ≤ maxLen) (hb : b.size ≤ maxLen) (h : 1048576 < a.size + b.size) :
    Calls Try.prog 6 #[.string a, .string b] w fun e w' => e = .returned (.bool false) ∧ w = w' := by
  unfold maxLen at ha hb
  by_cases h1 : 1048576 < a.size
  · go_enter Try.func6, Try.ntmps6
    go_wp2
    go_ret
    exact ⟨rfl, rfl⟩
  · by_cases h2 : 1048576 < b.size
    · go_enter Try.func6, Try.ntmps6
      go_wp2
      go_ret
      exact ⟨rfl, rfl⟩
    · go_enter Try.func6, Try.ntmps6
      go_wp2
      go_ret
      exact ⟨rfl, rfl⟩

set_option maxHeartbeats 400000 in
theorem bytes9_yes (a b : ByteArray) (w : World) (h : a.size + b.size ≤ 1048576) :
    Calls Try.prog 9 #[.string a, .string b] w fun e w' => e = .returned (.bool true) ∧ w = w' := by
  go_enter Try.func9, Try.ntmps9
  go_wp2
  go_ret
  exact ⟨rfl, rfl⟩

set_option maxHeartbeats 400000 in
theorem bytes9_no (a b : ByteArray) (w : World) (ha : a.size ≤ maxLen) (hb : b.size ≤ maxLen) (h : 1048576 < a.size + b.size) :
    Calls Try.prog 9 #[.string a, .string b] w fun e w' => e = .returned (.bool false) ∧ w = w' := by
  unfold maxLen at ha hb
  by_cases h1 : 1048576 < a.size
  · go_enter Try.func9, Try.ntmps9
    go_wp2
    go_ret
    exact ⟨rfl, rfl⟩
  · by_cases h2 : 1048576 < b.size
    · go_enter Try.func9, Try.ntmps9
      go_wp2
      go_ret
      exact ⟨rfl, rfl⟩
    · go_enter Try.func9, Try.ntmps9
      go_wp2
      go_ret
      exact ⟨rfl, rfl⟩

/-- 'the fragment ' -/
def fragHead : List UInt8 := [116, 104, 101, 32, 102, 114, 97, 103, 109, 101, 110, 116, 32]

set_option maxHeartbeats 400000 in
theorem named_any (s : ByteArray) (w : World) (hs : s.size ≤ 4194304) :
    Calls Try.prog 7 #[.string s] w fun e w' => ∃ t : ByteArray, e = .returned (.string t) ∧ t.toList = fragHead ++ s.toList ∧ t.size = s.size + 13 ∧ w = w' := by
  go_enter Try.func7, Try.ntmps7
  go_wp2
  go_ret
  refine ⟨_, rfl, ?_, ?_, rfl⟩
  · rw [append_list, toList_data (ByteArray.mk _)]; rfl
  · have h13 : (ByteArray.mk #[116, 104, 101, 32, 102, 114, 97, 103, 109, 101, 110, 116, 32]).size = 13 := rfl
    rw [ByteArray.size_append, h13]; omega

set_option maxHeartbeats 400000 in
theorem suffix_yes (s t : ByteArray) (w : World) (x : List UInt8) (hs : s.size ≤ 8388608) (h : s.toList = x ++ t.toList) :
    Calls Try.prog 8 #[.string s, .string t] w fun e w' => e = .returned (.bool true) ∧ w = w' := by
  have hl : x.length + t.size = s.size := by
    have := congrArg List.length h
    rw [List.length_append, size_list, size_list] at this
    omega
  have hle : t.size ≤ s.size := by omega
  have he : ((s.extract (s.size - t.size) s.size).toList == t.toList) = true := by
    rw [beq_iff_eq, extract_list, h, show s.size - t.size = x.length from by omega, List.drop_left]
  clear h hl
  go_enter Try.func8, Try.ntmps8
  go_wp2
  go_ret
  exact ⟨rfl, rfl⟩

end Go.Proofs.Qxb6616434a.frag
