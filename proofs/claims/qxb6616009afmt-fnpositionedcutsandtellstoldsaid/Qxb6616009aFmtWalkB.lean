/-
  THE WALK of the law itself (3), over the callees' contracts.
-/
import Derived.Test.Qxb6616009aFmtWalkA
namespace Go.Proofs.Qxb6616009aFmt
open Go.RowKit Go.Extern.Stop Go.Stop Go.Extern

theorem grown_trans {a b c : World} (h : Grown a b) (k : Grown b c) : Grown a c :=
  ⟨World.keptBut_trans h.1 k.1, fun x => (k.2.1 x).trans (h.2.1 x), Nat.le_trans h.2.2 k.2.2⟩

set_option maxHeartbeats 400000 in
theorem law_bytes (l c l2 c2 : Int) (a b : ByteArray) (w : World) (ha : a.size ≤ maxLen) (hb : b.size ≤ maxLen) (h : 1048576 < a.size + b.size) :
    Calls Tryf.prog 3 #[.int .i64 l, .int .i64 c, .int .i64 l2, .int .i64 c2, .string a, .string b] w fun e w' => e = .returned (.bool true) ∧ Grown w w' := by
  go_enter Tryf.func3, Tryf.ntmps3
  go_wp2_with (go_at_call 4; refine (bytes_no l c l2 c2 a b _ ha hb h).mono ?_; rintro e w' ⟨rfl, rfl⟩)
  go_ret
  exact ⟨rfl, Grown.refl _⟩

set_option maxHeartbeats 400000 in
theorem law_long (l c l2 c2 : Int) (a b : ByteArray) (w : World) (h : a.size + b.size ≤ 1048576) (h2 : 65536 < a.size ∨ 65536 < b.size) :
    Calls Tryf.prog 3 #[.int .i64 l, .int .i64 c, .int .i64 l2, .int .i64 c2, .string a, .string b] w fun e w' => e = .returned (.bool true) ∧ Grown w w' := by
  by_cases h1 : 65536 < a.size
  · clear h2
    go_enter Tryf.func3, Tryf.ntmps3
    go_wp2_with (go_at_call 4; refine (bytes_yes l c l2 c2 a b _ h).mono ?_; rintro e w' ⟨rfl, rfl⟩)
    go_ret
    exact ⟨rfl, Grown.refl _⟩
  · have h3 : 65536 < b.size := by omega
    clear h2
    go_enter Tryf.func3, Tryf.ntmps3
    go_wp2_with (go_at_call 4; refine (bytes_yes l c l2 c2 a b _ h).mono ?_; rintro e w' ⟨rfl, rfl⟩)
    go_ret
    exact ⟨rfl, Grown.refl _⟩

theorem getElem_list (s : ByteArray) (k : Nat) (h : k < s.size) : s.toList[k]? = some s[k] := by
  rw [toList_data]
  have h' : k < s.data.toList.length := h
  rw [List.getElem?_eq_getElem h']
  rfl

/-- Bytes that agree place by place. -/
theorem opens_at (s p : ByteArray) (r : List UInt8) (h : s.toList = p.toList ++ r) : p.size ≤ s.size ∧ ∀ (k : Nat) (hk : k < p.size) (hk2 : k < s.size), s[k] = p[k] := by
  have hl : p.size ≤ s.size := by
    have := congrArg List.length h
    rw [List.length_append, size_list, size_list] at this
    omega
  refine ⟨hl, fun k hk hk2 => ?_⟩
  have e1 := getElem_list s k hk2
  have e2 := getElem_list p k hk
  rw [h, List.getElem?_append_left (by rw [size_list]; exact hk), e2] at e1
  exact (Option.some.inj e1).symm

def opening : ByteArray := ⟨#[116, 111, 109, 108, 58, 32, 108, 105, 110, 101, 32]⟩

theorem opening_list : opening.toList = opener := by rw [toList_data]; rfl

theorem same_text (l c l2 c2 : Int) (m : List UInt8) (p q : ByteArray) (hp : p.toList = posn l c m) (hq : q.toList = posn l2 c2 m) :
    ((p.toList == q.toList) == ((l == l2) && (c == c2))) = true := by
  rw [hp, hq]
  by_cases h : l = l2 ∧ c = c2
  · rw [h.1, h.2]; simp
  · have e : (posn l c m == posn l2 c2 m) = false := by
      rw [beq_eq_false_iff_ne]
      exact fun k => h (posn_inj k)
    rw [e]
    by_cases h1 : l = l2
    · have h2 : c ≠ c2 := fun k => h ⟨h1, k⟩
      simp [h2]
    · simp [h1]

set_option maxHeartbeats 400000 in
theorem law_main (F : Interp) (l c l2 c2 : Int) (a b : ByteArray) (w : World) (hF : F.told.answers w.tape)
    (wl : (Lit.int .i64 l).wf = true) (wc : (Lit.int .i64 c).wf = true) (wl2 : (Lit.int .i64 l2).wf = true) (wc2 : (Lit.int .i64 c2).wf = true)
    (h1 : a.size ≤ 65536) (h2 : b.size ≤ 65536) :
    Calls Tryf.prog 3 #[.int .i64 l, .int .i64 c, .int .i64 l2, .int .i64 c2, .string a, .string b] w fun e w' => e = .returned (.bool true) ∧ Grown w w' := by
  have hab : (a ++ b).size ≤ 4194304 := by rw [ByteArray.size_append]; omega
  go_enter Tryf.func3, Tryf.ntmps3
  go_wp2_with (go_at_call 4; refine (bytes_yes l c l2 c2 a b _ (by omega)).mono ?_; rintro e w' ⟨rfl, rfl⟩)
  refine (positioned_any F l c (a ++ b) w hF wl wc hab).mono ?_
  rintro e w1 ⟨p, rfl, hp, zp, g1, t1⟩
  have Hp : Hid (p.toList = posn l c (a ++ b).toList) := hp
  have hF1 : F.told.answers w1.tape := by rw [t1]; exact hF
  clear hp t1
  go_wp2_with fail
  refine (positioned_any F l c a w1 hF1 wl wc (by omega)).mono ?_
  rintro e w2 ⟨pa, rfl, hpa, zpa, g2, t2⟩
  have Hpa : Hid (pa.toList = posn l c a.toList) := hpa
  have hF2 : F.told.answers w2.tape := by rw [t2]; exact hF1
  clear hpa t2
  go_wp2_with fail
  refine (positioned_any F l2 c2 (a ++ b) w2 hF2 wl2 wc2 hab).mono ?_
  rintro e w3 ⟨q, rfl, hq, zq, g3, t3⟩
  have Hq : Hid (q.toList = posn l2 c2 (a ++ b).toList) := hq
  clear hq t3
  have e1 : (p.toList == (pa ++ b).toList) = true := by
    rw [beq_iff_eq, append_list, Hpa.out, Hp.out, append_list, posn_append]
  obtain ⟨r, hr⟩ := posn_opens l c (a ++ b).toList
  have ho := opens_at p opening r (by rw [Hp.out, hr, opening_list])
  have Ho : Hid (opening.size ≤ p.size ∧ ∀ (k : Nat) (hk : k < opening.size) (hk2 : k < p.size), p[k] = opening[k]) := ho
  have Hsame : Hid (((p.toList == q.toList) == ((l == l2) && (c == c2))) = true) := same_text l c l2 c2 _ p q Hp.out Hq.out
  clear ho hr
  go_wp2_with fail
  refine (opens_yes p opening w3 zp Ho.out.1 (fun k hk => Ho.out.2 k hk (Nat.lt_of_lt_of_le hk Ho.out.1))).mono ?_
  rintro e w4 ⟨rfl, n, rfl⟩
  have G : Grown w (w3.drewN n) := grown_drewN (grown_trans (grown_trans g1 g2) g3) n
  clear g1 g2 g3 hF1 hF2 hF
  by_cases hl : (l == l2) = true
  · by_cases hc : (c == c2) = true
    · have hpq : (p.toList == q.toList) = true := by have := Hsame.out; rw [hl, hc] at this; simpa using this
      go_wp2
      go_ret
      exact ⟨rfl, G⟩
    · have hc' : (c == c2) = false := by simpa using hc
      have hpq : (p.toList == q.toList) = false := by have := Hsame.out; rw [hl, hc'] at this; simpa using this
      clear hc
      go_wp2
      go_ret
      exact ⟨rfl, G⟩
  · have hl' : (l == l2) = false := by simpa using hl
    have hpq : (p.toList == q.toList) = false := by have := Hsame.out; rw [hl'] at this; simpa using this
    clear hl
    go_wp2
    go_ret
    exact ⟨rfl, G⟩

end Go.Proofs.Qxb6616009aFmt
