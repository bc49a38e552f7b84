/-
  THE WALKS of the callees: the size guard (4), endsInSlash (5), stringslite.HasSuffix (10), stringslite.TrimSuffix (9), strings.TrimSuffix (8), childPath (7), ZZchildPath (6).
-/
import Derived.Test.Qxb6616694aRows
import Derived.WalkKit
import Derived.WalkSpells
namespace Go.Proofs.Qxb6616694a.path
open Go.RowKit

theorem toList_data (s : ByteArray) : s.toList = s.data.toList := ByteArray.toList_eq s

theorem append_list (s t : ByteArray) : (s ++ t).toList = s.toList ++ t.toList := by
  rw [toList_data, toList_data, toList_data, ByteArray.data_append, Array.toList_append]

theorem size_list (s : ByteArray) : s.toList.length = s.size := by
  rw [toList_data]; rfl

theorem getElem_list (s : ByteArray) (k : Nat) (h : k < s.size) : s.toList[k]? = some s[k] := by
  rw [toList_data]
  have h' : k < s.data.toList.length := h
  rw [List.getElem?_eq_getElem h']
  rfl

theorem extract_end (s : ByteArray) (n : Nat) : (s.extract n s.size).toList = s.toList.drop n := by
  rw [toList_data, toList_data, ByteArray.data_extract, Array.toList_extract, List.extract_eq_take_drop]
  apply List.take_of_length_le
  rw [List.length_drop]
  exact Nat.le_refl _

theorem extract_front (s : ByteArray) (n : Nat) : (s.extract 0 n).toList = s.toList.take n := by
  rw [toList_data, toList_data, ByteArray.data_extract, Array.toList_extract, List.extract_eq_take_drop]
  simp

/-! ### The plain functions -/

/-- s without its last byte if that is a slash. -/
def trimS (l : List UInt8) : List UInt8 := if l.getLast? = some 47 then l.dropLast else l

theorem trimS_keeps (x : List UInt8) (a : List UInt8) (h : a ≠ []) (h2 : a.getLast? ≠ some 47) : trimS (x ++ a) = x ++ a := by
  unfold trimS
  rw [if_neg]
  rw [List.getLast?_append]
  cases ha : a.getLast? with
  | none => exact absurd (List.getLast?_eq_none_iff.1 ha) h
  | some c => rw [ha] at h2; simpa using h2

/-- Does s end with t? As the library reckons it. -/
def suf (s t : ByteArray) : Bool := decide (t.size ≤ s.size) && ((s.extract (s.size - t.size) s.size).toList == t.toList)

def trimB (s t : ByteArray) : ByteArray := if suf s t = true then s.extract 0 (s.size - t.size) else s

def slash : ByteArray := ⟨#[47]⟩

theorem slash_list : slash.toList = [47] := by rw [toList_data]; rfl

theorem last_list (s : ByteArray) (h : 0 < s.size) : s.toList.getLast? = some (s[s.size - 1]'(by omega)) := by
  rw [List.getLast?_eq_getElem?, size_list]
  exact getElem_list s (s.size - 1) (by omega)

theorem suf_slash (s : ByteArray) : suf s slash = decide (s.toList.getLast? = some 47) := by
  have h1 : slash.size = 1 := rfl
  unfold suf
  rw [h1]
  by_cases h : 0 < s.size
  · rw [decide_eq_true (show 1 ≤ s.size from h), Bool.true_and, extract_end, slash_list]
    have hd : s.toList.drop (s.size - 1) = [s[s.size - 1]'(by omega)] := by
      have hl : s.size - 1 < s.toList.length := by rw [size_list]; omega
      rw [List.drop_eq_getElem_cons hl, List.drop_of_length_le (by rw [size_list]; omega)]
      have e := getElem_list s (s.size - 1) (by omega)
      rw [List.getElem?_eq_getElem hl] at e
      rw [Option.some.inj e]
    rw [hd, last_list s h, Bool.eq_iff_iff]
    simp
  · rw [decide_eq_false (show ¬ 1 ≤ s.size from h), Bool.false_and]
    have hn : s.toList = [] := List.eq_nil_of_length_eq_zero (by rw [size_list]; omega)
    rw [hn]
    rfl

theorem trimB_slash (s : ByteArray) : (trimB s slash).toList = trimS s.toList := by
  unfold trimB trimS
  rw [suf_slash]
  by_cases h : s.toList.getLast? = some 47
  · rw [if_pos (decide_eq_true h), if_pos h, extract_front, List.dropLast_eq_take, size_list]
    rfl
  · rw [if_neg (by simpa using h), if_neg h]

theorem trimB_size (s t : ByteArray) : (trimB s t).size ≤ s.size := by
  unfold trimB
  by_cases h : suf s t = true
  · rw [if_pos h, ← size_list, extract_front, List.length_take, size_list]
    omega
  · rw [if_neg h]; exact Nat.le_refl _

/-! ### The walks -/

theorem ret_bool {a b : Bool} (h : a = b) : Ending.returned (.bool a) = .returned (.bool b) := by rw [h]

theorem last_test (s : ByteArray) (h : 0 < s.size) : (((s[s.size - 1]'(by omega)).toNat : Int) == 47) = decide (s.toList.getLast? = some 47) := by
  rw [last_list s h, Bool.eq_iff_iff]
  simp only [beq_iff_eq, decide_eq_true_eq, Option.some.injEq]
  constructor
  · intro e
    apply UInt8.toNat_inj.1
    have e47 : (47 : UInt8).toNat = 47 := rfl
    rw [e47]
    omega
  · intro e
    rw [e]
    rfl

set_option maxHeartbeats 400000 in
theorem has_any (s t : ByteArray) (w : World) (hs : s.size ≤ 8388608) (ht : t.size ≤ 8388608) :
    Calls Try.prog 10 #[.string s, .string t] w fun e w' => e = .returned (.bool (suf s t)) ∧ w = w' := by
  by_cases hle : t.size ≤ s.size
  · have Hf : Hid (suf s t = ((s.extract (s.size - t.size) s.size).toList == t.toList)) := by
      show suf s t = _
      unfold suf
      rw [decide_eq_true hle, Bool.true_and]
    go_enter Try.func10, Try.ntmps10
    go_wp2
    go_ret
    exact ⟨ret_bool Hf.out.symm, rfl⟩
  · have Hf : Hid (suf s t = false) := by
      show suf s t = _
      unfold suf
      rw [decide_eq_false hle, Bool.false_and]
    go_enter Try.func10, Try.ntmps10
    go_wp2
    go_ret
    exact ⟨ret_bool Hf.out.symm, rfl⟩

set_option maxHeartbeats 400000 in
theorem ends_any (s : ByteArray) (w : World) (hs : s.size ≤ 8388608) :
    Calls Try.prog 5 #[.string s] w fun e w' => e = .returned (.bool (decide (s.toList.getLast? = some 47))) ∧ w = w' := by
  by_cases h : 0 < s.size
  · have Hl : Hid ((((s[s.size - 1]'(by omega)).toNat : Int) == 47) = decide (s.toList.getLast? = some 47)) := last_test s h
    go_enter Try.func5, Try.ntmps5
    go_wp2
    go_ret
    exact ⟨ret_bool Hl.out, rfl⟩
  · have hn : s.toList = [] := List.eq_nil_of_length_eq_zero (by rw [size_list]; omega)
    have Hl : Hid (false = decide (s.toList.getLast? = some 47)) := by
      show false = decide (s.toList.getLast? = some 47)
      rw [hn]
      rfl
    clear hn
    go_enter Try.func5, Try.ntmps5
    go_wp2
    go_ret
    exact ⟨ret_bool Hl.out, rfl⟩

set_option maxHeartbeats 400000 in
theorem trim9 (s t : ByteArray) (w : World) (hs : s.size ≤ 8388608) (ht : t.size ≤ 8388608) :
    Calls Try.prog 9 #[.string s, .string t] w fun e w' => e = .returned (.string (trimB s t)) ∧ w = w' := by
  by_cases h : suf s t = true
  · have hle : t.size ≤ s.size := by
      unfold suf at h
      rw [Bool.and_eq_true] at h
      exact of_decide_eq_true h.1
    have Hf : Hid (trimB s t = s.extract 0 (s.size - t.size)) := by
      show trimB s t = _
      unfold trimB
      rw [if_pos h]
    go_enter Try.func9, Try.ntmps9
    go_wp2_with (go_at_call 10; refine (has_any s t _ hs ht).mono ?_; rintro e w' ⟨rfl, rfl⟩)
    go_ret
    exact ⟨by rw [Hf.out]; rfl, rfl⟩
  · have h' : suf s t = false := by simpa using h
    have Hf : Hid (trimB s t = s) := by
      show trimB s t = _
      unfold trimB
      rw [if_neg h]
    clear h
    go_enter Try.func9, Try.ntmps9
    go_wp2_with (go_at_call 10; refine (has_any s t _ hs ht).mono ?_; rintro e w' ⟨rfl, rfl⟩)
    go_ret
    exact ⟨by rw [Hf.out]; rfl, rfl⟩

set_option maxHeartbeats 400000 in
theorem trim8 (s t : ByteArray) (w : World) (hs : s.size ≤ 8388608) (ht : t.size ≤ 8388608) :
    Calls Try.prog 8 #[.string s, .string t] w fun e w' => e = .returned (.string (trimB s t)) ∧ w = w' := by
  go_enter Try.func8, Try.ntmps8
  go_wp2_with (go_at_call 9; refine (trim9 s t _ hs ht).mono ?_; rintro e w' ⟨rfl, rfl⟩)
  go_ret
  exact ⟨rfl, rfl⟩

set_option maxHeartbeats 400000 in
theorem child7 (p n : ByteArray) (w : World) (hp : p.size ≤ 2097152) (hn : n.size ≤ 2097152) :
    Calls Try.prog 7 #[.string p, .string n] w fun e w' => ∃ t : ByteArray, e = .returned (.string t) ∧ t.toList = trimS p.toList ++ 47 :: n.toList ∧ t.size ≤ p.size + n.size + 1 ∧ w = w' := by
  have Hl : Hid ((trimB p slash).toList = trimS p.toList) := trimB_slash p
  have hz := trimB_size p slash
  go_enter Try.func7, Try.ntmps7
  go_wp2_with fail
  refine (trim8 p slash w (by omega) (by decide)).mono ?_
  rintro e w' ⟨rfl, rfl⟩
  generalize trimB p slash = q at *
  go_wp2
  go_ret
  refine ⟨_, rfl, ?_, ?_, rfl⟩
  · rw [append_list, append_list, Hl.out, toList_data (ByteArray.mk _)]
    simp
  · have h1 : (ByteArray.mk #[47]).size = 1 := rfl
    rw [ByteArray.size_append, ByteArray.size_append, h1]
    omega

set_option maxHeartbeats 400000 in
theorem child6 (p n : ByteArray) (w : World) (hp : p.size ≤ 2097152) (hn : n.size ≤ 2097152) :
    Calls Try.prog 6 #[.string p, .string n] w fun e w' => ∃ t : ByteArray, e = .returned (.string t) ∧ t.toList = trimS p.toList ++ 47 :: n.toList ∧ t.size ≤ p.size + n.size + 1 ∧ w = w' := by
  go_enter Try.func6, Try.ntmps6
  go_wp2_with fail
  refine (child7 p n w hp hn).mono ?_
  rintro e w' ⟨t, rfl, h1, h2, rfl⟩
  have H1 : Hid (t.toList = trimS p.toList ++ 47 :: n.toList) := h1
  clear h1
  go_wp2
  go_ret
  exact ⟨t, rfl, H1.out, h2, rfl⟩

set_option maxHeartbeats 400000 in
theorem bytes_yes (p a b : ByteArray) (w : World) (h : p.size + a.size + b.size ≤ 1048576) :
    Calls Try.prog 4 #[.string p, .string a, .string b] w fun e w' => e = .returned (.bool true) ∧ w = w' := by
  go_enter Try.func4, Try.ntmps4
  go_wp2
  go_ret
  exact ⟨rfl, rfl⟩

set_option maxHeartbeats 400000 in
theorem bytes_no (p a b : ByteArray) (w : World) (hp : p.size ≤ maxLen) (ha : a.size ≤ maxLen) (hb : b.size ≤ maxLen) (h : 1048576 < p.size + a.size + b.size) :
    Calls Try.prog 4 #[.string p, .string a, .string b] w fun e w' => e = .returned (.bool false) ∧ w = w' := by
  unfold maxLen at hp ha hb
  by_cases h1 : 1048576 < p.size
  · go_enter Try.func4, Try.ntmps4
    go_wp2
    go_ret
    exact ⟨rfl, rfl⟩
  · by_cases h2 : 1048576 < a.size
    · go_enter Try.func4, Try.ntmps4
      go_wp2
      go_ret
      exact ⟨rfl, rfl⟩
    · by_cases h3 : 1048576 < p.size + a.size
      · go_enter Try.func4, Try.ntmps4
        go_wp2
        go_ret
        exact ⟨rfl, rfl⟩
      · by_cases h4 : 1048576 < b.size
        · go_enter Try.func4, Try.ntmps4
          go_wp2
          go_ret
          exact ⟨rfl, rfl⟩
        · go_enter Try.func4, Try.ntmps4
          go_wp2
          go_ret
          exact ⟨rfl, rfl⟩

end Go.Proofs.Qxb6616694a.path
