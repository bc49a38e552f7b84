/-
  THE WALKS of the callees: zzBytes (4), atPosition (8), positioned (7), ZZpositioned (5), zzHasPrefix (6).
-/
import Derived.Test.Qxb6616009aFmtFacts
import Derived.WalkKit
import Derived.WalkSpells
import Derived.Deep.QuietTactic
import Derived.BigQuiet
namespace Go.Proofs.Qxb6616009aFmt
open Go.RowKit Go.Extern.Stop Go.Stop Go.Extern

theorem toList_data (s : ByteArray) : s.toList = s.data.toList := by
  exact ByteArray.toList_eq s

set_option maxHeartbeats 400000 in
theorem at_any (F : Interp) (l c : Int) (m : ByteArray) (w : World) (hF : F.answers w.tape) :
    Calls Tryf.prog 8 #[.int .i64 l, .int .i64 c, .string m] w fun e w' => e = .returned (.string (FmtStop.textOf (F "fmt.Sprintf" (reading l c m.data.toList) 0))) ∧
      w' = (w.alloc (.cells #[.iface 3 (.int .i64 l), .iface 3 (.int .i64 c), .iface 9 (.string m)] 20)).drew := by
  have hF' := answers_open hF
  go_enter Tryf.func8, Tryf.ntmps8
  go_wp2
  go_ret
  exact ⟨rfl, rfl⟩

theorem grown_drewN {W w : World} (h : Grown W w) (n : Nat) : Grown W (w.drewN n) := h

theorem append_list (s t : ByteArray) : (s ++ t).toList = s.toList ++ t.toList := by
  rw [toList_data, toList_data, toList_data, ByteArray.data_append, Array.toList_append]

theorem size_list (s : ByteArray) : s.toList.length = s.size := by
  rw [toList_data]; rfl

set_option maxHeartbeats 400000 in
theorem positioned7 (F : Interp) (l c : Int) (m : ByteArray) (w : World) (hF : F.told.answers w.tape) (wl : (Lit.int .i64 l).wf = true) (wc : (Lit.int .i64 c).wf = true) (hm : m.size ≤ 4194304) :
    Calls Tryf.prog 7 #[.int .i64 l, .int .i64 c, .string m] w fun e w' => ∃ s : ByteArray, e = .returned (.string s) ∧ s.toList = posn l c m.toList ∧ s.size ≤ 8388608 ∧ Grown w w' ∧ w'.tape = w.tape := by
  have hs := told_said F l c m.data.toList (by have : m.data.toList.length = m.size := rfl
                                               omega) wl wc
  have hz : (FmtStop.textOf (F.told "fmt.Sprintf" (reading l c m.data.toList) 0)).size ≤ 8000000 := by
    have e : (FmtStop.textOf (F.told "fmt.Sprintf" (reading l c m.data.toList) 0)).size = (said l c m.data.toList).length := by rw [← hs]; rfl
    rw [e]
    have l1 := FmtText.itoa_length_le wl
    have l2 := FmtText.itoa_length_le wc
    have l3 : m.data.toList.length = m.size := rfl
    simp only [said, List.length_append, List.length_cons, List.length_nil]
    omega
  have Hs : Hid ((FmtStop.textOf (F.told "fmt.Sprintf" (reading l c m.data.toList) 0)).data.toList = said l c m.data.toList) := hs
  clear hs
  go_enter Tryf.func7, Tryf.ntmps7
  go_wp2_with (go_at_call 8; refine (at_any F.told l c m _ (by exact hF)).mono ?_; rintro e w' ⟨rfl, rfl⟩)
  go_ret
  refine ⟨_, rfl, ?_, ?_, ?_, rfl⟩
  · rw [append_list]; simp only [toList_data]; rw [Hs.out]; rfl
  · have h6 : (ByteArray.mk #[116, 111, 109, 108, 58, 32]).size = 6 := rfl
    rw [ByteArray.size_append, h6]; omega
  · exact ((Grown.refl _).alloc _ _).drew

set_option maxHeartbeats 400000 in
theorem positioned_any (F : Interp) (l c : Int) (m : ByteArray) (w : World) (hF : F.told.answers w.tape) (wl : (Lit.int .i64 l).wf = true) (wc : (Lit.int .i64 c).wf = true) (hm : m.size ≤ 4194304) :
    Calls Tryf.prog 5 #[.int .i64 l, .int .i64 c, .string m] w fun e w' => ∃ s : ByteArray, e = .returned (.string s) ∧ s.toList = posn l c m.toList ∧ s.size ≤ 8388608 ∧ Grown w w' ∧ w'.tape = w.tape := by
  go_enter Tryf.func5, Tryf.ntmps5
  go_wp2_with fail
  refine (positioned7 F l c m w hF wl wc hm).mono ?_
  rintro e w' ⟨s, rfl, h1, h2, h3, h4⟩
  have H1 : Hid (s.toList = posn l c m.toList) := h1
  have H4 : Hid (w'.tape = w.tape) := h4
  clear h1 h4
  go_wp2
  go_ret
  exact ⟨s, rfl, H1.out, h2, h3, H4.out⟩

set_option maxHeartbeats 400000 in
theorem bytes_yes (l c l2 c2 : Int) (a b : ByteArray) (w : World) (h : a.size + b.size ≤ 1048576) :
    Calls Tryf.prog 4 #[.int .i64 l, .int .i64 c, .int .i64 l2, .int .i64 c2, .string a, .string b] w fun e w' => e = .returned (.bool true) ∧ w = w' := by
  go_enter Tryf.func4, Tryf.ntmps4
  go_wp2
  go_ret
  exact ⟨rfl, rfl⟩

set_option maxHeartbeats 400000 in
theorem bytes_no (l c l2 c2 : Int) (a b : ByteArray) (w : World) (ha : a.size ≤ maxLen) (hb : b.size ≤ maxLen) (h : 1048576 < a.size + b.size) :
    Calls Tryf.prog 4 #[.int .i64 l, .int .i64 c, .int .i64 l2, .int .i64 c2, .string a, .string b] w fun e w' => e = .returned (.bool false) ∧ w = w' := by
  unfold maxLen at ha hb
  by_cases h1 : 1048576 < a.size
  · go_enter Tryf.func4, Tryf.ntmps4
    go_wp2
    go_ret
    exact ⟨rfl, rfl⟩
  · by_cases h2 : 1048576 < b.size
    · go_enter Tryf.func4, Tryf.ntmps4
      go_wp2
      go_ret
      exact ⟨rfl, rfl⟩
    · go_enter Tryf.func4, Tryf.ntmps4
      go_wp2
      go_ret
      exact ⟨rfl, rfl⟩

set_option maxHeartbeats 400000 in
theorem opens_yes (s p : ByteArray) (w : World) (hs : s.size ≤ 8388608) (hp : p.size ≤ s.size) (heq : ∀ (k : Nat) (h : k < p.size), s[k]'(by omega) = p[k]) :
    Calls Tryf.prog 6 #[.string s, .string p] w fun e w' => e = .returned (.bool true) ∧ ∃ n, w' = w.drewN n := by
  have Heq : Hid (∀ (k : Nat) (h : k < p.size), s[k]'(by omega) = p[k]) := heq
  clear heq
  go_enter Tryf.func6, Tryf.ntmps6
  go_wp2
  go_loopw [5] (fun i w' => ∃ k : Nat, k ≤ p.size ∧ i = .int .i64 k ∧ ∃ n, w' = w.drewN n) (fun i _ => p.size - (intOf i).toNat)
  case atStart => exact ⟨0, Nat.zero_le _, rfl, 0, rfl⟩
  case round =>
    obtain ⟨k, hk, rfl, n, rfl⟩ := hrel
    by_cases hlt : k < p.size
    · have hlt2 : k < s.size := by omega
      have hb : ((s[k].toNat : Int) != (p[k].toNat : Int)) = false := by rw [Heq.out k hlt]; simp
      go_wp2
      go_quiet (fail)
      go_wp2
      exact ⟨⟨k + 1, by omega, by go_num, n + nq, rfl⟩, by simp [intOf]; omega⟩
    · go_wp2
      go_ret
      exact ⟨rfl, n, rfl⟩

end Go.Proofs.Qxb6616009aFmt
