/-
  THE PROOF OF 'Rows.FnChildPathNestsSaid'. The frame is the seat's own shell (proof-skeleton.mjs); the walk is typed over the callees' contracts (Qxb6616694aPath.lean).
-/
import Derived.Test.Qxb6616694aRows
import Derived.WalkKit
import Derived.ProofKit
import Derived.OpenShut
import Derived.ShutString
import Derived.Test.Qxb6616694aPath
namespace Go.Proofs.Qxb6616694a.fnChildPathNests
open Go.ChangeShapes Go.WideShapes Go.ChangeAt Go.RowKit
open Go.ChangeMaps (open_string shut_string)
set_option linter.unusedVariables false      -- a walk need not use every 'w<i>' (that an integer argument fits its kind)

theorem own : ownKnob Try.prog.godebug = none := by kernel_rfl

/-! ### THE WALK: the Go text returns true, one theorem a way through the guards -/
set_option maxHeartbeats 400000 in
theorem walk_bytes (p a b : ByteArray) (w : World) (hp : p.size ≤ maxLen) (ha : a.size ≤ maxLen) (hb : b.size ≤ maxLen) (h : 1048576 < p.size + a.size + b.size) :
    Calls Try.prog 3 #[.string p, .string a, .string b] w fun e w' => e = .returned (.bool true) ∧ Grown w w' := by
  go_enter Try.func3, Try.ntmps3
  go_wp2_with (go_at_call 4; refine (path.bytes_no p a b _ hp ha hb h).mono ?_; rintro e w' ⟨rfl, rfl⟩)
  go_ret
  exact ⟨rfl, Grown.refl _⟩

set_option maxHeartbeats 400000 in
theorem walk_long (p a b : ByteArray) (w : World) (h : p.size + a.size + b.size ≤ 1048576) (h2 : 65536 < p.size ∨ 65536 < a.size ∨ 65536 < b.size) :
    Calls Try.prog 3 #[.string p, .string a, .string b] w fun e w' => e = .returned (.bool true) ∧ Grown w w' := by
  by_cases h1 : 65536 < p.size
  · clear h2
    go_enter Try.func3, Try.ntmps3
    go_wp2_with (go_at_call 4; refine (path.bytes_yes p a b _ h).mono ?_; rintro e w' ⟨rfl, rfl⟩)
    go_ret
    exact ⟨rfl, Grown.refl _⟩
  · by_cases h3 : 65536 < a.size
    · clear h2
      go_enter Try.func3, Try.ntmps3
      go_wp2_with (go_at_call 4; refine (path.bytes_yes p a b _ h).mono ?_; rintro e w' ⟨rfl, rfl⟩)
      go_ret
      exact ⟨rfl, Grown.refl _⟩
    · have h4 : 65536 < b.size := by omega
      clear h2
      go_enter Try.func3, Try.ntmps3
      go_wp2_with (go_at_call 4; refine (path.bytes_yes p a b _ h).mono ?_; rintro e w' ⟨rfl, rfl⟩)
      go_ret
      exact ⟨rfl, Grown.refl _⟩

set_option maxHeartbeats 400000 in
theorem walk_empty (p a b : ByteArray) (w : World) (h1 : p.size ≤ 65536) (h2 : b.size ≤ 65536) (h0 : ((a.size : Int) == 0) = true) (h3 : a.size ≤ 65536) :
    Calls Try.prog 3 #[.string p, .string a, .string b] w fun e w' => e = .returned (.bool true) ∧ Grown w w' := by
  go_enter Try.func3, Try.ntmps3
  go_wp2_with (go_at_call 4; refine (path.bytes_yes p a b _ (by omega)).mono ?_; rintro e w' ⟨rfl, rfl⟩)
  go_ret
  exact ⟨rfl, Grown.refl _⟩

set_option maxHeartbeats 400000 in
theorem walk_slash (p a b : ByteArray) (w : World) (h1 : p.size ≤ 65536) (h2 : b.size ≤ 65536) (h3 : a.size ≤ 65536) (h0 : 0 < a.size) (hl : (((a[a.size - 1]'(by omega)).toNat : Int) == 47) = true) :
    Calls Try.prog 3 #[.string p, .string a, .string b] w fun e w' => e = .returned (.bool true) ∧ Grown w w' := by
  have hz : ((a.size : Int) == 0) = false := by rw [beq_eq_false_iff_ne]; omega
  go_enter Try.func3, Try.ntmps3
  go_wp2_with (go_at_call 4; refine (path.bytes_yes p a b _ (by omega)).mono ?_; rintro e w' ⟨rfl, rfl⟩)
  go_ret
  exact ⟨rfl, Grown.refl _⟩

theorem ends_yes (s : ByteArray) (w : World) (hs : s.size ≤ 8388608) (h : s.toList.getLast? = some 47) :
    Calls Try.prog 5 #[.string s] w fun e w' => e = .returned (.bool true) ∧ w = w' := by
  refine (path.ends_any s w hs).mono ?_
  rintro e w' ⟨rfl, rfl⟩
  exact ⟨path.ret_bool (decide_eq_true h), rfl⟩

theorem ends_no (s : ByteArray) (w : World) (hs : s.size ≤ 8388608) (h : ¬ s.toList.getLast? = some 47) :
    Calls Try.prog 5 #[.string s] w fun e w' => e = .returned (.bool false) ∧ w = w' := by
  refine (path.ends_any s w hs).mono ?_
  rintro e w' ⟨rfl, rfl⟩
  exact ⟨path.ret_bool (decide_eq_false h), rfl⟩

/-- The plain law: both roads reach the same path. -/
theorem same_path (p a b n1 n2 j base : ByteArray) (h0 : 0 < a.size) (hl : ¬ a.toList.getLast? = some 47) (hbase : base.toList = path.trimS p.toList)
    (e1 : n1.toList = path.trimS p.toList ++ 47 :: a.toList) (e2 : n2.toList = path.trimS n1.toList ++ 47 :: b.toList)
    (e3 : j.toList = path.trimS p.toList ++ 47 :: (a ++ ByteArray.mk #[47] ++ b).toList) :
    (n2.toList == (base ++ ByteArray.mk #[47] ++ a ++ ByteArray.mk #[47] ++ b).toList) = true ∧ (j.toList == (base ++ ByteArray.mk #[47] ++ a ++ ByteArray.mk #[47] ++ b).toList) = true := by
  have hs : (ByteArray.mk #[47]).toList = [47] := path.slash_list
  have hne : a.toList ≠ [] := by
    intro e
    have := path.size_list a
    rw [e] at this
    simp at this
    omega
  have hk : path.trimS n1.toList = n1.toList := by
    rw [e1, show path.trimS p.toList ++ 47 :: a.toList = (path.trimS p.toList ++ [47]) ++ a.toList by simp]
    exact path.trimS_keeps _ _ hne hl
  simp only [path.append_list, hs, hbase] at e3 ⊢
  rw [e2, hk, e1, e3]
  simp

set_option maxHeartbeats 400000 in
theorem walk_main_yes (p a b : ByteArray) (w : World) (h1 : p.size ≤ 65536) (h2 : b.size ≤ 65536) (h3 : a.size ≤ 65536) (h0 : 0 < a.size) (hl : (((a[a.size - 1]'(by omega)).toNat : Int) == 47) = false) (hpl : p.toList.getLast? = some 47) :
    Calls Try.prog 3 #[.string p, .string a, .string b] w fun e w' => e = .returned (.bool true) ∧ Grown w w' := by
  have hz : ((a.size : Int) == 0) = false := by rw [beq_eq_false_iff_ne]; omega
  have hp0 : 0 < p.size := by
    have := path.size_list p
    cases hc : p.toList with
    | nil => rw [hc] at hpl; cases hpl
    | cons x r => rw [hc] at this; simp at this; omega
  have Hal : Hid (¬ a.toList.getLast? = some 47) := by
    show ¬ a.toList.getLast? = some 47
    rw [path.last_test a h0] at hl
    exact of_decide_eq_false hl
  have Hpl : Hid (p.toList.getLast? = some 47) := hpl
  have Hb : Hid ((p.extract 0 (p.size - 1)).toList = path.trimS p.toList) := by
    show (p.extract 0 (p.size - 1)).toList = path.trimS p.toList
    unfold path.trimS
    rw [if_pos hpl, path.extract_front, List.dropLast_eq_take, path.size_list]
  clear hpl
  have hjs : (a ++ ByteArray.mk #[47] ++ b).size ≤ 2097152 := by
    have e1 : (ByteArray.mk #[47]).size = 1 := rfl
    rw [ByteArray.size_append, ByteArray.size_append, e1]
    omega
  go_enter Try.func3, Try.ntmps3
  go_wp2_with (first | (go_at_call 4; refine (path.bytes_yes p a b _ (by omega)).mono ?_; rintro e w' ⟨rfl, rfl⟩) | (go_at_call 5; refine (ends_yes p _ (by omega) Hpl.out).mono ?_; rintro e w' ⟨rfl, rfl⟩))
  refine (path.child6 p a w (by omega) (by omega)).mono ?_
  rintro e w1 ⟨n1, rfl, e1, z1, rfl⟩
  have E1 : Hid (n1.toList = path.trimS p.toList ++ 47 :: a.toList) := e1
  have z1' : n1.size ≤ 2097152 := by omega
  clear e1
  go_wp2_with fail
  refine (path.child6 n1 b w z1' (by omega)).mono ?_
  rintro e w1 ⟨n2, rfl, e2, z2, rfl⟩
  have E2 : Hid (n2.toList = path.trimS n1.toList ++ 47 :: b.toList) := e2
  clear e2
  go_wp2_with fail
  refine (path.child6 p (a ++ ByteArray.mk #[47] ++ b) w (by omega) hjs).mono ?_
  rintro e w1 ⟨j, rfl, e3, z3, rfl⟩
  obtain ⟨f1, f2⟩ := same_path p a b n1 n2 j (p.extract 0 (p.size - 1)) h0 Hal.out Hb.out E1.out E2.out e3
  clear e3 z3
  go_wp2
  go_ret
  exact ⟨rfl, Grown.refl _⟩

set_option maxHeartbeats 400000 in
theorem walk_main_no (p a b : ByteArray) (w : World) (h1 : p.size ≤ 65536) (h2 : b.size ≤ 65536) (h3 : a.size ≤ 65536) (h0 : 0 < a.size) (hl : (((a[a.size - 1]'(by omega)).toNat : Int) == 47) = false) (hpl : ¬ p.toList.getLast? = some 47) :
    Calls Try.prog 3 #[.string p, .string a, .string b] w fun e w' => e = .returned (.bool true) ∧ Grown w w' := by
  have hz : ((a.size : Int) == 0) = false := by rw [beq_eq_false_iff_ne]; omega
  have Hal : Hid (¬ a.toList.getLast? = some 47) := by
    show ¬ a.toList.getLast? = some 47
    rw [path.last_test a h0] at hl
    exact of_decide_eq_false hl
  have Hpl : Hid (¬ p.toList.getLast? = some 47) := hpl
  have Hb : Hid (p.toList = path.trimS p.toList) := by
    show p.toList = path.trimS p.toList
    unfold path.trimS
    rw [if_neg hpl]
  clear hpl
  have hjs : (a ++ ByteArray.mk #[47] ++ b).size ≤ 2097152 := by
    have e1 : (ByteArray.mk #[47]).size = 1 := rfl
    rw [ByteArray.size_append, ByteArray.size_append, e1]
    omega
  go_enter Try.func3, Try.ntmps3
  go_wp2_with (first | (go_at_call 4; refine (path.bytes_yes p a b _ (by omega)).mono ?_; rintro e w' ⟨rfl, rfl⟩) | (go_at_call 5; refine (ends_no p _ (by omega) Hpl.out).mono ?_; rintro e w' ⟨rfl, rfl⟩))
  refine (path.child6 p a w (by omega) (by omega)).mono ?_
  rintro e w1 ⟨n1, rfl, e1, z1, rfl⟩
  have E1 : Hid (n1.toList = path.trimS p.toList ++ 47 :: a.toList) := e1
  have z1' : n1.size ≤ 2097152 := by omega
  clear e1
  go_wp2_with fail
  refine (path.child6 n1 b w z1' (by omega)).mono ?_
  rintro e w1 ⟨n2, rfl, e2, z2, rfl⟩
  have E2 : Hid (n2.toList = path.trimS n1.toList ++ 47 :: b.toList) := e2
  clear e2
  go_wp2_with fail
  refine (path.child6 p (a ++ ByteArray.mk #[47] ++ b) w (by omega) hjs).mono ?_
  rintro e w1 ⟨j, rfl, e3, z3, rfl⟩
  obtain ⟨f1, f2⟩ := same_path p a b n1 n2 j p h0 Hal.out Hb.out E1.out E2.out e3
  clear e3 z3
  go_wp2
  go_ret
  exact ⟨rfl, Grown.refl _⟩

theorem walk (a0 : ByteArray) (a1 : ByteArray) (a2 : ByteArray) (w0 : a0.size ≤ maxLen) (w1 : a1.size ≤ maxLen) (w2 : a2.size ≤ maxLen) (w : World) :
    Calls Try.prog 3 #[.string a0, .string a1, .string a2] w fun e w' => e = .returned (.bool true) ∧ Grown w w' := by
  by_cases h : 1048576 < a0.size + a1.size + a2.size
  · exact walk_bytes a0 a1 a2 w w0 w1 w2 h
  · by_cases h2 : 65536 < a0.size ∨ 65536 < a1.size ∨ 65536 < a2.size
    · exact walk_long a0 a1 a2 w (by omega) h2
    · by_cases h0 : 0 < a1.size
      · cases hl : (((a1[a1.size - 1]'(by omega)).toNat : Int) == 47) with
        | true => exact walk_slash a0 a1 a2 w (by omega) (by omega) (by omega) h0 hl
        | false =>
          by_cases hp : a0.toList.getLast? = some 47
          · exact walk_main_yes a0 a1 a2 w (by omega) (by omega) (by omega) h0 hl hp
          · exact walk_main_no a0 a1 a2 w (by omega) (by omega) (by omega) h0 hl hp
      · exact walk_empty a0 a1 a2 w (by omega) (by omega) (by rw [beq_iff_eq]; omega) (by omega)

/-! ### THE ROW's STEP: WRITTEN OUT: LEAVE IT -/
set_option maxRecDepth 100000 in
theorem lifted (os : Os) (started : os.Started) (H : Type) (enc : TypeId × Value → H) :
    ReturnsInHanded {} Try.checked os 3 .any (Rows.fnChildPathNestsSpec.pre6 enc Try.prog Try.f3 Rows.fnChildPathNestsRow.domain false) (Rows.fnChildPathNestsSpec.post enc Try.prog Try.f3 false true false false) := by
  refine returnsInHanded_of_change (C := Try.checked) own started (by kernel_rfl) Try.func3
    (ChangeSpec.witness6 (enc := enc) (C := Try.checked) false ⟨#[], #[.string ByteArray.empty, .string ByteArray.empty, .string ByteArray.empty], []⟩ 8 (by kernel_rfl) (by kernel_rfl) (by kernel_rfl) (by kernel_rfl)) ?_
  intro W base args ds gs before hval0 hW hcnd _
  have hval : ∀ (j : Nat) t v, Try.f3.params[j]? = some t → args[j]? = some v → Value.okWide Try.prog W .any base t v := hval0
  have hW' := hW
  obtain ⟨p, q, hA0, hV, rfl, hfz, hnd⟩ := hW
  have hA : DataW.TrodAll enc Try.prog W 0 (fun _ => true) true Try.f3.params.toList args.toList ds p := hA0
  rw [Try.params3] at hA hval
  obtain ⟨v0, vs0, d0, ds0, p0, q0, hargs, rfl, rfl, h0, r0⟩ := trodAll_cons hA
  obtain ⟨v1, vs1, d1, ds1, p1, q1, rfl, rfl, rfl, h1, r1⟩ := trodAll_cons r0
  obtain ⟨v2, vs2, d2, ds2, p2, q2, rfl, rfl, rfl, h2, r2⟩ := trodAll_cons r1
  obtain ⟨rfl, rfl, rfl⟩ := trodAll_nil r2
  obtain rfl : args = #[v0, v1, v2] := by cases args; simp_all
  obtain ⟨rfl, rfl⟩ := trodVars_none hV
  obtain ⟨a0, rfl, rfl, rfl, w0⟩ := open_string Try.underlying9 (hval 0 9 v0 rfl rfl) h0
  obtain ⟨a1, rfl, rfl, rfl, w1⟩ := open_string Try.underlying9 (hval 1 9 v1 rfl rfl) h1
  obtain ⟨a2, rfl, rfl, rfl, w2⟩ := open_string Try.underlying9 (hval 2 9 v2 rfl rfl) h2
  clear hA0 hval0
  simp only [List.append_nil] at hW'
  refine (walk a0 a1 a2 w0 w1 w2 W).mono fun e W' ⟨he, hg⟩ => ?_
  subst he
  exact ⟨_, rfl, post_of_same (pa := []) (pv := []) hW' (fun _ _ _ => (trodAll_cons_mk (shut_bool Try.underlying4 _) trodAll_mk0)) (fun sp _ => (trodAll_cons_mk (shut_string Try.underlying9 w0) (trodAll_cons_mk (shut_string Try.underlying9 w1) (trodAll_cons_mk (shut_string Try.underlying9 w2) trodAll_mk0)))) (fun _ _ => rfl) rfl
    (hg.frame _) hg.2.1 (ok_one (by kernel_rfl) rfl (okWide_bool_mk Try.underlying4 _))⟩

theorem over : Rows.fnChildPathNestsRow.holds Try.pinned (OpenSpec.ofChange Rows.fnChildPathNestsSpec) :=
  OpenClaim.holds_of_wide 3 Try.f3 rfl rfl rfl rfl rfl rfl rfl ⟨rfl, rfl, rfl, rfl, rfl⟩ rfl rfl rfl rfl rfl (by kernel_rfl) Try.func3 (by kernel_rfl)
    (of_decide_eq_true (by kernel_rfl)) (by unfold Func.isWrapper; first | (rw [if_pos (by decide +kernel)]; kernel_rfl) | (rw [if_neg (by decide +kernel)]; exact ⟨rfl, rfl⟩))
    (fun os started H enc _ => lifted os started H enc)

/-- ████ THE STATEMENT ████ -/
theorem proved : Rows.FnChildPathNestsSaid :=
  over
end Go.Proofs.Qxb6616694a.fnChildPathNests
