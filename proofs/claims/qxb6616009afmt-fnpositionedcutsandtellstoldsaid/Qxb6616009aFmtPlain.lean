/-
  THE PLAIN LAW (no Go in sight): the text 'line L, column C: M' tells L and C apart, and M stands last.
-/
import Derived.Lib.ItoaNum
namespace Go.Proofs.Qxb6616009aFmt
open Go

/-- The text: line, column, message. -/
def said (l c : Int) (m : List UInt8) : List UInt8 :=
  [108, 105, 110, 101, 32] ++ (Lib.itoa l ++ ([44, 32, 99, 111, 108, 117, 109, 110, 32] ++ (Lib.itoa c ++ ([58, 32] ++ m))))

/-- The whole text of 'positioned'. -/
def posn (l c : Int) (m : List UInt8) : List UInt8 := [116, 111, 109, 108, 58, 32] ++ said l c m

theorem dec_step (u : Nat) (h : ¬ u < 10) : Lib.decDigits u = Lib.decDigits (u / 10) ++ [UInt8.ofNat (48 + u % 10)] := by
  rw [Lib.decDigits, dif_neg h]

theorem dec_small (u : Nat) (h : u < 10) : Lib.decDigits u = [UInt8.ofNat (48 + u)] := by
  rw [Lib.decDigits, dif_pos h]

theorem byte_nat (k : Nat) (h : k < 10) : (UInt8.ofNat (48 + k)).toNat = 48 + k := by
  rw [UInt8.toNat_ofNat']; omega

def numOf (l : List UInt8) : Nat := l.foldl (fun a d => a * 10 + (d.toNat - 48)) 0

theorem numOf_dec (u : Nat) : numOf (Lib.decDigits u) = u := by
  induction u using Nat.strongRecOn with
  | _ u ih =>
    by_cases h : u < 10
    · rw [dec_small u h]
      simp only [numOf, List.foldl_cons, List.foldl_nil, byte_nat u h]
      omega
    · have e := ih (u / 10) (by omega)
      rw [dec_step u h]
      simp only [numOf, List.foldl_append, List.foldl_cons, List.foldl_nil, byte_nat (u % 10) (by omega)] at e ⊢
      rw [e]
      omega

theorem dec_digits (u : Nat) : ∀ d ∈ Lib.decDigits u, 48 ≤ d.toNat ∧ d.toNat ≤ 57 := by
  induction u using Nat.strongRecOn with
  | _ u ih =>
    intro d hd
    by_cases h : u < 10
    · rw [dec_small u h] at hd
      have e : d = UInt8.ofNat (48 + u) := by simpa using hd
      rw [e, byte_nat u h]
      omega
    · rw [dec_step u h] at hd
      rcases List.mem_append.1 hd with hd | hd
      · exact ih (u / 10) (by omega) d hd
      · have e : d = UInt8.ofNat (48 + u % 10) := by simpa using hd
        rw [e, byte_nat (u % 10) (by omega)]
        omega

theorem dec_inj {u v : Nat} (h : Lib.decDigits u = Lib.decDigits v) : u = v := by
  rw [← numOf_dec u, ← numOf_dec v, h]

theorem itoa_no (n : Int) (d : UInt8) (h : d.toNat = 44 ∨ d.toNat = 58) : d ∉ Lib.itoa n := by
  intro hd
  unfold Lib.itoa at hd
  by_cases hn : n < 0
  · rw [if_pos hn] at hd
    rcases List.mem_cons.1 hd with e | hd
    · rw [e] at h
      have e45 : (45 : UInt8).toNat = 45 := rfl
      rw [e45] at h
      omega
    · have := dec_digits _ d hd
      omega
  · rw [if_neg hn] at hd
    have := dec_digits _ d hd
    omega

theorem dec_no_minus (u : Nat) (r : List UInt8) (h : Lib.decDigits u = 45 :: r) : False := by
  have := dec_digits u 45 (by rw [h]; exact List.mem_cons_self)
  have e45 : (45 : UInt8).toNat = 45 := rfl
  rw [e45] at this
  omega

theorem itoa_inj {a b : Int} (h : Lib.itoa a = Lib.itoa b) : a = b := by
  unfold Lib.itoa at h
  by_cases ha : a < 0
  · by_cases hb : b < 0
    · rw [if_pos ha, if_pos hb] at h
      have := dec_inj (List.cons.inj h).2
      omega
    · rw [if_pos ha, if_neg hb] at h
      exact (dec_no_minus _ _ h.symm).elim
  · by_cases hb : b < 0
    · rw [if_neg ha, if_pos hb] at h
      exact (dec_no_minus _ _ h).elim
    · rw [if_neg ha, if_neg hb] at h
      have := dec_inj h
      omega

/-- A text that is cut at the first sign d has one cut. -/
theorem cut_one (d : UInt8) : ∀ (x y r t : List UInt8), d ∉ x → d ∉ y → x ++ d :: r = y ++ d :: t → x = y ∧ r = t
  | [], [], r, t, _, _, h => ⟨rfl, (List.cons.inj h).2⟩
  | [], b :: y, r, t, _, hy, h => by
    have e := (List.cons.inj h).1
    exact (hy (by rw [e]; exact List.mem_cons_self)).elim
  | a :: x, [], r, t, hx, _, h => by
    have e := (List.cons.inj h).1
    exact (hx (by rw [← e]; exact List.mem_cons_self)).elim
  | a :: x, b :: y, r, t, hx, hy, h => by
    have e := List.cons.inj h
    have ih := cut_one d x y r t (fun k => hx (List.mem_cons_of_mem _ k)) (fun k => hy (List.mem_cons_of_mem _ k)) e.2
    exact ⟨by rw [e.1, ih.1], ih.2⟩

theorem posn_append (l c : Int) (a b : List UInt8) : posn l c (a ++ b) = posn l c a ++ b := by
  simp [posn, said]

theorem posn_inj {l c l2 c2 : Int} {m : List UInt8} (h : posn l c m = posn l2 c2 m) : l = l2 ∧ c = c2 := by
  unfold posn said at h
  have h1 := List.append_cancel_left (List.append_cancel_left h)
  have h2 := cut_one 44 _ _ _ _ (itoa_no l 44 (Or.inl rfl)) (itoa_no l2 44 (Or.inl rfl)) h1
  have h3 := List.append_cancel_left (as := [32, 99, 111, 108, 117, 109, 110, 32]) h2.2
  have h4 := cut_one 58 _ _ _ _ (itoa_no c 58 (Or.inr rfl)) (itoa_no c2 58 (Or.inr rfl)) h3
  exact ⟨itoa_inj h2.1, itoa_inj h4.1⟩

/-- 'toml: line ' -/
def opener : List UInt8 := [116, 111, 109, 108, 58, 32, 108, 105, 110, 101, 32]

theorem posn_opens (l c : Int) (m : List UInt8) : ∃ r, posn l c m = opener ++ r := by
  exact ⟨_, by unfold posn said; rw [← List.append_assoc]; rfl⟩

theorem posn_length (l c : Int) (m : List UInt8) : (posn l c m).length = (Lib.itoa l).length + (Lib.itoa c).length + m.length + 22 := by
  simp [posn, said]
  omega

end Go.Proofs.Qxb6616009aFmt
