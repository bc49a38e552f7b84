/-
  THE WALK of zzCompare (10): it computes 'cmpL'.
-/
import Derived.Test.Qxb6616434aFrag
namespace Go.Proofs.Qxb6616434a.frag
open Go.RowKit

theorem ret_int {k : IntKind} {a b : Int} (h : a = b) : Ending.returned (.int k a) = .returned (.int k b) := by rw [h]

theorem drewN2 (w : World) (i j : Nat) : ∃ n, (w.drewN i).drewN j = w.drewN n := ⟨_, by rw [World.drewN_drewN]⟩

theorem drewN3 (w : World) (i j k : Nat) : ∃ n, ((w.drewN i).drewN j).drewN k = w.drewN n := ⟨_, by rw [World.drewN_drewN, World.drewN_drewN]⟩

set_option maxHeartbeats 1000000 in
theorem compare_gt (a b : ByteArray) (w : World) (ha : a.size ≤ 8388608) (_hb : b.size ≤ 8388608) (hba : b.size < a.size) :
    Calls Try.prog 10 #[.string a, .string b] w fun e w' => e = .returned (.int .i64 (cmpL a.toList b.toList)) ∧ ∃ n, w' = w.drewN n := by
  go_enter Try.func10, Try.ntmps10
  go_wp2
  go_loopw [6] (fun i w' => ∃ k : Nat, k ≤ a.size ∧ k ≤ b.size ∧ i = .int .i64 k ∧ Hid (cmpL a.toList b.toList = cmpL (a.toList.drop k) (b.toList.drop k)) ∧ ∃ n, w' = w.drewN n) (fun i _ => a.size - (intOf i).toNat)
  case atStart => exact ⟨0, Nat.zero_le _, Nat.zero_le _, rfl, rfl, 0, rfl⟩
  case round =>
    obtain ⟨k, hk, hk2, rfl, hcmp, n, rfl⟩ := hrel
    by_cases hlt : k < a.size ∧ k < b.size
    · obtain ⟨hlt, hlt2⟩ := hlt
      by_cases h1 : (a[k].toNat : Int) < (b[k].toNat : Int)
      · have HE : Hid (cmpL a.toList b.toList = -1) := by
          show cmpL a.toList b.toList = -1
          rw [hcmp.out, drop_list a k hlt, drop_list b k hlt2, cmpL_lt _ _ h1]
        clear hcmp
        go_wp2
        go_quiet (fail)
        go_wp2
        go_ret
        exact ⟨ret_int HE.out.symm, drewN2 _ _ _⟩
      · by_cases h2 : (b[k].toNat : Int) < (a[k].toNat : Int)
        · have HE : Hid (cmpL a.toList b.toList = 1) := by
            show cmpL a.toList b.toList = 1
            rw [hcmp.out, drop_list a k hlt, drop_list b k hlt2, cmpL_gt _ _ h2]
          clear hcmp
          go_wp2
          go_quiet (fail)
          go_wp2
          go_quiet (fail)
          go_wp2
          go_ret
          exact ⟨ret_int HE.out.symm, drewN3 _ _ _ _⟩
        · have HE : Hid (cmpL a.toList b.toList = cmpL (a.toList.drop (k + 1)) (b.toList.drop (k + 1))) := by
            show cmpL a.toList b.toList = _
            rw [hcmp.out, drop_list a k hlt, drop_list b k hlt2, cmpL_eq _ _ h1 h2]
          clear hcmp
          go_wp2
          go_quiet (fail)
          go_wp2
          go_quiet (fail)
          go_wp2
          exact ⟨⟨k + 1, by omega, by omega, by go_num, HE, _, rfl⟩, by simp [intOf]; omega⟩
    · have HE : Hid (cmpL a.toList b.toList = if a.size < b.size then -1 else if b.size < a.size then 1 else 0) := by
        show cmpL a.toList b.toList = _
        rw [hcmp.out, cmp_tail a b k hk hk2 (by omega)]
      clear hcmp
      have hk3 : ¬ k < b.size := by omega
      clear hlt
      go_wp2
      go_ret
      exact ⟨ret_int (by rw [HE.out, if_neg (by omega), if_pos hba]), n, rfl⟩

set_option maxHeartbeats 1000000 in
theorem compare_le (a b : ByteArray) (w : World) (_ha : a.size ≤ 8388608) (hb : b.size ≤ 8388608) (hba : ¬ b.size < a.size) :
    Calls Try.prog 10 #[.string a, .string b] w fun e w' => e = .returned (.int .i64 (cmpL a.toList b.toList)) ∧ ∃ n, w' = w.drewN n := by
  go_enter Try.func10, Try.ntmps10
  go_wp2
  go_loopw [6] (fun i w' => ∃ k : Nat, k ≤ a.size ∧ k ≤ b.size ∧ i = .int .i64 k ∧ Hid (cmpL a.toList b.toList = cmpL (a.toList.drop k) (b.toList.drop k)) ∧ ∃ n, w' = w.drewN n) (fun i _ => a.size - (intOf i).toNat)
  case atStart => exact ⟨0, Nat.zero_le _, Nat.zero_le _, rfl, rfl, 0, rfl⟩
  case round =>
    obtain ⟨k, hk, hk2, rfl, hcmp, n, rfl⟩ := hrel
    by_cases hlt : k < a.size ∧ k < b.size
    · obtain ⟨hlt, hlt2⟩ := hlt
      by_cases h1 : (a[k].toNat : Int) < (b[k].toNat : Int)
      · have HE : Hid (cmpL a.toList b.toList = -1) := by
          show cmpL a.toList b.toList = -1
          rw [hcmp.out, drop_list a k hlt, drop_list b k hlt2, cmpL_lt _ _ h1]
        clear hcmp
        go_wp2
        go_quiet (fail)
        go_wp2
        go_ret
        exact ⟨ret_int HE.out.symm, drewN2 _ _ _⟩
      · by_cases h2 : (b[k].toNat : Int) < (a[k].toNat : Int)
        · have HE : Hid (cmpL a.toList b.toList = 1) := by
            show cmpL a.toList b.toList = 1
            rw [hcmp.out, drop_list a k hlt, drop_list b k hlt2, cmpL_gt _ _ h2]
          clear hcmp
          go_wp2
          go_quiet (fail)
          go_wp2
          go_quiet (fail)
          go_wp2
          go_ret
          exact ⟨ret_int HE.out.symm, drewN3 _ _ _ _⟩
        · have HE : Hid (cmpL a.toList b.toList = cmpL (a.toList.drop (k + 1)) (b.toList.drop (k + 1))) := by
            show cmpL a.toList b.toList = _
            rw [hcmp.out, drop_list a k hlt, drop_list b k hlt2, cmpL_eq _ _ h1 h2]
          clear hcmp
          go_wp2
          go_quiet (fail)
          go_wp2
          go_quiet (fail)
          go_wp2
          exact ⟨⟨k + 1, by omega, by omega, by go_num, HE, _, rfl⟩, by simp [intOf]; omega⟩
    · have HE : Hid (cmpL a.toList b.toList = if a.size < b.size then -1 else if b.size < a.size then 1 else 0) := by
        show cmpL a.toList b.toList = _
        rw [hcmp.out, cmp_tail a b k hk hk2 (by omega)]
      clear hcmp
      have hk3 : ¬ k < a.size := by omega
      clear hlt
      by_cases hab : a.size < b.size
      · go_wp2
        go_ret
        exact ⟨ret_int (by rw [HE.out, if_pos hab]), n, rfl⟩
      · have hab2 : ¬ b.size < a.size := by omega
        go_wp2
        go_ret
        exact ⟨ret_int (by rw [HE.out, if_neg (by omega), if_neg (by omega)]), n, rfl⟩

theorem compare_any (a b : ByteArray) (w : World) (ha : a.size ≤ 8388608) (hb : b.size ≤ 8388608) :
    Calls Try.prog 10 #[.string a, .string b] w fun e w' => e = .returned (.int .i64 (cmpL a.toList b.toList)) ∧ ∃ n, w' = w.drewN n := by
  by_cases h : b.size < a.size
  · exact compare_gt a b w ha hb h
  · exact compare_le a b w ha hb h

end Go.Proofs.Qxb6616434a.frag
