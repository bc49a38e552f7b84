/-
  THE PROOF OF 'Rows.FnNamedFragmentKeepsOrderSaid'. The frame is the seat's own shell (proof-skeleton.mjs); the walk is typed over the callees' contracts (Qxb6616434aFrag.lean, Qxb6616434aCmp.lean).
-/
import Derived.Test.Qxb6616434aRows
import Derived.WalkKit
import Derived.ProofKit
import Derived.OpenShut
import Derived.ShutString
import Derived.Test.Qxb6616434aCmp
namespace Go.Proofs.Qxb6616434a.fnNamedFragmentKeepsOrder
open Go.ChangeShapes Go.WideShapes Go.ChangeAt Go.RowKit
open Go.ChangeMaps (open_string shut_string)
set_option linter.unusedVariables false      -- a walk need not use every 'w<i>' (that an integer argument fits its kind)

theorem own : ownKnob Try.prog.godebug = none := by kernel_rfl

/-! ### THE WALK: the Go text returns true, one theorem a way through the size guards -/
set_option maxHeartbeats 400000 in
theorem walk_bytes (a b : ByteArray) (w : World) (ha : a.size ≤ maxLen) (hb : b.size ≤ maxLen) (h : 1048576 < a.size + b.size) :
    Calls Try.prog 4 #[.string a, .string b] w fun e w' => e = .returned (.bool true) ∧ Grown w w' := by
  go_enter Try.func4, Try.ntmps4
  go_wp2_with (go_at_call 9; refine (frag.bytes9_no a b _ ha hb h).mono ?_; rintro e w' ⟨rfl, rfl⟩)
  go_ret
  exact ⟨rfl, Grown.refl _⟩

set_option maxHeartbeats 400000 in
theorem walk_long (a b : ByteArray) (w : World) (h : a.size + b.size ≤ 1048576) (h2 : 524288 < a.size ∨ 524288 < b.size) :
    Calls Try.prog 4 #[.string a, .string b] w fun e w' => e = .returned (.bool true) ∧ Grown w w' := by
  by_cases h1 : 524288 < a.size
  · clear h2
    go_enter Try.func4, Try.ntmps4
    go_wp2_with (go_at_call 9; refine (frag.bytes9_yes a b _ h).mono ?_; rintro e w' ⟨rfl, rfl⟩)
    go_ret
    exact ⟨rfl, Grown.refl _⟩
  · have h3 : 524288 < b.size := by omega
    clear h2
    go_enter Try.func4, Try.ntmps4
    go_wp2_with (go_at_call 9; refine (frag.bytes9_yes a b _ h).mono ?_; rintro e w' ⟨rfl, rfl⟩)
    go_ret
    exact ⟨rfl, Grown.refl _⟩

theorem head_no (s t : ByteArray) (h : t.toList = frag.fragHead ++ s.toList) : (t.toList == s.toList) = false := by
  rw [beq_eq_false_iff_ne, h]
  intro e
  have := congrArg List.length e
  rw [List.length_append] at this
  have h13 : frag.fragHead.length = 13 := rfl
  omega

set_option maxHeartbeats 400000 in
theorem walk_main (a b : ByteArray) (w : World) (h1 : a.size ≤ 524288) (h2 : b.size ≤ 524288) :
    Calls Try.prog 4 #[.string a, .string b] w fun e w' => e = .returned (.bool true) ∧ Grown w w' := by
  go_enter Try.func4, Try.ntmps4
  go_wp2_with (go_at_call 9; refine (frag.bytes9_yes a b _ (by omega)).mono ?_; rintro e w' ⟨rfl, rfl⟩)
  refine (frag.named_any a w (by omega)).mono ?_
  rintro e w1 ⟨fa, rfl, hfa, zfa, rfl⟩
  have Hfa : Hid (fa.toList = frag.fragHead ++ a.toList) := hfa
  have za : fa.size ≤ 8388608 := by omega
  clear hfa zfa
  go_wp2_with fail
  refine (frag.named_any b w (by omega)).mono ?_
  rintro e w1 ⟨fb, rfl, hfb, zfb, rfl⟩
  have zb : fb.size ≤ 8388608 := by omega
  have e1 : (frag.cmpL fa.toList fb.toList == frag.cmpL a.toList b.toList) = true := by
    rw [beq_iff_eq, Hfa.out, hfb, frag.cmpL_pre]
  have e2 : (fa.toList == a.toList) = false := head_no a fa Hfa.out
  have e3 : (fb.toList == b.toList) = false := head_no b fb hfb
  clear hfb zfb
  go_wp2_with fail
  refine (frag.compare_any fa fb w za zb).mono ?_
  rintro e w1 ⟨rfl, n, rfl⟩
  go_wp2_with fail
  refine (frag.compare_any a b (w.drewN n) (by omega) (by omega)).mono ?_
  rintro e w1 ⟨rfl, m, rfl⟩
  go_wp2
  go_ret
  exact ⟨rfl, Grown.refl w⟩

theorem walk (a0 : ByteArray) (a1 : ByteArray) (w0 : a0.size ≤ maxLen) (w1 : a1.size ≤ maxLen) (w : World) :
    Calls Try.prog 4 #[.string a0, .string a1] w fun e w' => e = .returned (.bool true) ∧ Grown w w' := by
  by_cases h : 1048576 < a0.size + a1.size
  · exact walk_bytes a0 a1 w w0 w1 h
  · by_cases h2 : 524288 < a0.size ∨ 524288 < a1.size
    · exact walk_long a0 a1 w (by omega) h2
    · exact walk_main a0 a1 w (by omega) (by omega)

/-! ### THE ROW's STEP: WRITTEN OUT: LEAVE IT -/
set_option maxRecDepth 100000 in
theorem lifted (os : Os) (started : os.Started) (H : Type) (enc : TypeId × Value → H) :
    ReturnsInHanded {} Try.checked os 4 .any (Rows.fnNamedFragmentKeepsOrderSpec.pre6 enc Try.prog Try.f4 Rows.fnNamedFragmentKeepsOrderRow.domain false) (Rows.fnNamedFragmentKeepsOrderSpec.post enc Try.prog Try.f4 false true false false) := by
  refine returnsInHanded_of_change (C := Try.checked) own started (by kernel_rfl) Try.func4
    (ChangeSpec.witness6 (enc := enc) (C := Try.checked) false ⟨#[], #[.string ByteArray.empty, .string ByteArray.empty], []⟩ 8 (by kernel_rfl) (by kernel_rfl) (by kernel_rfl) (by kernel_rfl)) ?_
  intro W base args ds gs before hval0 hW hcnd _
  have hval : ∀ (j : Nat) t v, Try.f4.params[j]? = some t → args[j]? = some v → Value.okWide Try.prog W .any base t v := hval0
  have hW' := hW
  obtain ⟨p, q, hA0, hV, rfl, hfz, hnd⟩ := hW
  have hA : DataW.TrodAll enc Try.prog W 0 (fun _ => true) true Try.f4.params.toList args.toList ds p := hA0
  rw [Try.params4] at hA hval
  obtain ⟨v0, vs0, d0, ds0, p0, q0, hargs, rfl, rfl, h0, r0⟩ := trodAll_cons hA
  obtain ⟨v1, vs1, d1, ds1, p1, q1, rfl, rfl, rfl, h1, r1⟩ := trodAll_cons r0
  obtain ⟨rfl, rfl, rfl⟩ := trodAll_nil r1
  obtain rfl : args = #[v0, v1] := by cases args; simp_all
  obtain ⟨rfl, rfl⟩ := trodVars_none hV
  obtain ⟨a0, rfl, rfl, rfl, w0⟩ := open_string Try.underlying9 (hval 0 9 v0 rfl rfl) h0
  obtain ⟨a1, rfl, rfl, rfl, w1⟩ := open_string Try.underlying9 (hval 1 9 v1 rfl rfl) h1
  clear hA0 hval0
  simp only [List.append_nil] at hW'
  refine (walk a0 a1 w0 w1 W).mono fun e W' ⟨he, hg⟩ => ?_
  subst he
  exact ⟨_, rfl, post_of_same (pa := []) (pv := []) hW' (fun _ _ _ => (trodAll_cons_mk (shut_bool Try.underlying4 _) trodAll_mk0)) (fun sp _ => (trodAll_cons_mk (shut_string Try.underlying9 w0) (trodAll_cons_mk (shut_string Try.underlying9 w1) trodAll_mk0))) (fun _ _ => rfl) rfl
    (hg.frame _) hg.2.1 (ok_one (by kernel_rfl) rfl (okWide_bool_mk Try.underlying4 _))⟩

theorem over : Rows.fnNamedFragmentKeepsOrderRow.holds Try.pinned (OpenSpec.ofChange Rows.fnNamedFragmentKeepsOrderSpec) :=
  OpenClaim.holds_of_wide 4 Try.f4 rfl rfl rfl rfl rfl rfl rfl ⟨rfl, rfl, rfl, rfl, rfl⟩ rfl rfl rfl rfl rfl (by kernel_rfl) Try.func4 (by kernel_rfl)
    (of_decide_eq_true (by kernel_rfl)) (by unfold Func.isWrapper; first | (rw [if_pos (by decide +kernel)]; kernel_rfl) | (rw [if_neg (by decide +kernel)]; exact ⟨rfl, rfl⟩))
    (fun os started H enc _ => lifted os started H enc)

/-- ████ THE STATEMENT ████ -/
theorem proved : Rows.FnNamedFragmentKeepsOrderSaid :=
  over
end Go.Proofs.Qxb6616434a.fnNamedFragmentKeepsOrder
