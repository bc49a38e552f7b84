/-
  THE WALK of the law itself (3), where the size guards let the call by.
-/
import Derived.Test.Qxb6616635aWalkA
import Derived.Test.Qxb6616635aGuard
import Derived.Test.Qxb6616635aEq
namespace Go.Proofs.Qxb6616635a.okey
open Go.RowKit

set_option maxHeartbeats 1000000 in
theorem law_main (a b c d e f : ByteArray) (w : World) (h1 : a.size ≤ 131072) (h2 : b.size ≤ 131072) (h3 : c.size ≤ 131072) (h4 : d.size ≤ 131072) (h5 : e.size ≤ 131072) (h6 : f.size ≤ 131072) :
    Calls Try.prog 3 #[.string a, .string b, .string c, .string d, .string e, .string f] w fun x w' => x = .returned (.bool true) ∧ Below w.heap.size w w' := by
  have hsum : a.size + b.size + c.size + d.size + e.size + f.size ≤ 1048576 := by omega
  have s29 : ∀ i r t : ByteArray, (Try.prog.info? 29).map (·.size) = some (polA i r t).size := fun i r t => by rw [polA_size]; exact size29
  have s31 : ∀ r t : ByteArray, (Try.prog.info? 31).map (·.size) = some (keyA r t).size := fun r t => by rw [keyA_size]; exact size31
  have S29 : Hid (∀ i r t : ByteArray, (Try.prog.info? 29).map (·.size) = some (polA i r t).size) := s29
  have S31 : Hid (∀ r t : ByteArray, (Try.prog.info? 31).map (·.size) = some (keyA r t).size) := s31
  clear s29 s31
  go_enter Try.func3, Try.ntmps3
  go_wp2_with (first
    | (refine wpList_whole (by rfl) 29 _ rfl 56 rfl b1 rfl 29 (polA a b c) (k4 _ _ _ (by have := r2.lt; omega) (r2.keep bel3)) _ Try.underlying29 rfl (S29.out a b c) ?_)
    | (refine wpList_put rfl 29 _ _ rfl (.tmp 14) rfl b3 (polA d e f) rfl rfl 29 _ r3 (S29.out d e f) (by rw [polA_size, polA_size]) (polA_one d e f) ?_; intro w4 r4 k4 bel4)
    | (refine wpList_alloc rfl 29 rfl 14 rfl _ alloc29 ?_; intro b3 w3 hb3 r3 bel3)
    | (refine wpList_put rfl 29 _ _ rfl (.tmp 13) rfl b1 (polA a b c) rfl rfl 29 _ r1 (S29.out a b c) (by rw [polA_size, polA_size]) (polA_one a b c) ?_; intro w2 r2 k2 bel2)
    | (refine wpList_alloc rfl 29 rfl 13 rfl _ alloc29 ?_; intro b1 w1 hb1 r1 bel1)
    | (refine wpList_made rfl 29 [(0, .tmp 52), (1, .tmp 53), (2, .tmp 54)] rfl 55 rfl [(0, .string d), (1, .string e), (2, .string f)] rfl (polA d e f) (build29 d e f) ?_)
    | (refine wpList_made rfl 29 [(0, .tmp 48), (1, .tmp 49), (2, .tmp 50)] rfl 51 rfl [(0, .string a), (1, .string b), (2, .string c)] rfl (polA a b c) (build29 a b c) ?_)
    | (go_at_call 4; refine (bytes_yes a b c d e f _ hsum).mono ?_; rintro x w' ⟨rfl, rfl⟩))
  have hz2 : w.heap.size ≤ w2.heap.size := Nat.le_trans bel1.size (bel2 w.heap.size hb1).size
  have z4 : Below w.heap.size w w4 := ((bel1.trans (bel2 _ hb1)).trans (bel3.mono hz2)).trans (bel4 _ (by omega))
  clear r1 r2 k2 bel1 bel2 bel3 bel4 r3 k4
  refine (okey5 a b c _).mono ?_
  rintro x w5 ⟨rfl, bel5⟩
  have z5 := below_trans z4 bel5 (Nat.le_refl _)
  have rB5 := r4.keep bel5
  clear r4 bel5
  go_wp2_with (first
    | (refine wpList_whole (by rfl) 29 _ rfl 58 rfl b3 rfl 29 (polA d e f) (k7 _ _ _ (by have := rB5.lt; omega) (rB5.keep bel6)) _ Try.underlying29 rfl (S29.out d e f) ?_)
    | (refine wpList_put rfl 31 _ _ rfl (.tmp 15) rfl b6 (keyA b c) rfl rfl 31 _ r6 (S31.out b c) (by rw [keyA_size, keyA_size]) (keyA_one b c) ?_; intro w7 r7 k7 bel7)
    | (refine wpList_alloc rfl 31 rfl 15 rfl _ alloc31 ?_; intro b6 w6 hb6 r6 bel6))
  have hz5 := z5.size
  have z7 : Below w.heap.size w w7 := (z5.trans (bel6.mono hz5)).trans (bel7 _ (by omega))
  clear bel6 bel7 k7 r6 z4
  refine (okey5 d e f _).mono ?_
  rintro x w8 ⟨rfl, bel8⟩
  have z8 := below_trans z7 bel8 (Nat.le_refl _)
  have rA8 := r7.keep bel8
  have hz8 := z8.size
  clear r7 bel8 z5 z7 rB5
  cases q1 : (b.toList == e.toList) with
  | false =>
    have hq : ((b.toList == e.toList) && (c.toList == f.toList)) = false := by rw [q1]; rfl
    go_wp2_with (first
      | (refine wpList_whole (by rfl) 31 _ rfl 74 rfl b6 rfl 31 (keyA b c) (k10 _ _ _ (by have := rA8.lt; omega) (rA8.keep bel9)) _ Try.underlying31 rfl (S31.out b c) ?_)
      | (refine wpList_eql (by rfl) 31 _ _ _ rfl (keyA b c) (keyA e f) rfl rfl (guard31 _ _ _ _) (.bool false) (fun w => by rw [eql31, hq]) ?_)
      | (refine wpList_whole (by rfl) 31 _ rfl 69 rfl b9 rfl 31 (keyA e f) r10 _ Try.underlying31 rfl (S31.out e f) ?_)
      | (refine wpList_whole (by rfl) 31 _ rfl 68 rfl b6 rfl 31 (keyA b c) (k10 _ _ _ (by have := rA8.lt; omega) (rA8.keep bel9)) _ Try.underlying31 rfl (S31.out b c) ?_)
      | (refine wpList_put rfl 31 _ _ rfl (.tmp 16) rfl b9 (keyA e f) rfl rfl 31 _ r9 (S31.out e f) (by rw [keyA_size, keyA_size]) (keyA_one e f) ?_; intro w10 r10 k10 bel10)
      | (refine wpList_alloc rfl 31 rfl 16 rfl _ alloc31 ?_; intro b9 w9 hb9 r9 bel9))
    have z10 : Below w.heap.size w w10 := (z8.trans (bel9.mono hz8)).trans (bel10 _ (by omega))
    clear r9 r10 k10 bel9 bel10 rA8 z8
    refine (parts6 b c _).mono ?_
    rintro x w11 ⟨rfl, bel11⟩
    have z11 := below_trans z10 bel11 (Nat.le_refl _)
    have hz11 := z11.size
    clear z10 bel11
    go_wp2_with (first
      | (refine wpList_eql (by rfl) 25 _ _ _ rfl zs zs rfl rfl (guard25 _ _ _ _) (.bool true) eql25 ?_)
      | (refine wpList_whole (by rfl) 24 _ rfl 89 rfl b14 rfl 24 zs r14 _ Try.underlying24 rfl (by rw [zs_size]; exact size24) ?_)
      | (refine wpList_whole (by rfl) 25 _ rfl 88 rfl b12 rfl 25 zs (r13.keep bel14) _ Try.underlying25 rfl (by rw [zs_size]; exact size25) ?_)
      | (refine wpList_alloc rfl 24 rfl 21 rfl zs alloc24 ?_; intro b14 w14 hb14 r14 bel14)
      | (refine wpList_put rfl 25 _ _ rfl (.tmp 20) rfl b12 zs rfl rfl 25 zs r12 (by rw [zs_size]; exact size25) rfl zs_one ?_; intro w13 r13 k13 bel13)
      | (refine wpList_alloc rfl 25 rfl 20 rfl zs alloc25 ?_; intro b12 w12 hb12 r12 bel12))
    have z13 : Below w.heap.size w w13 := (z11.trans (bel12.mono hz11)).trans (bel13 _ (by omega))
    go_ret
    exact ⟨rfl, below_trans z13 bel14 (Nat.le_refl _)⟩
  | true =>
    cases q2 : (c.toList == f.toList) with
    | false =>
      have hq : ((b.toList == e.toList) && (c.toList == f.toList)) = false := by rw [q1, q2]; rfl
      go_wp2_with (first
        | (refine wpList_whole (by rfl) 31 _ rfl 74 rfl b6 rfl 31 (keyA b c) (k10 _ _ _ (by have := rA8.lt; omega) (rA8.keep bel9)) _ Try.underlying31 rfl (S31.out b c) ?_)
        | (refine wpList_eql (by rfl) 31 _ _ _ rfl (keyA b c) (keyA e f) rfl rfl (guard31 _ _ _ _) (.bool false) (fun w => by rw [eql31, hq]) ?_)
        | (refine wpList_whole (by rfl) 31 _ rfl 69 rfl b9 rfl 31 (keyA e f) r10 _ Try.underlying31 rfl (S31.out e f) ?_)
        | (refine wpList_whole (by rfl) 31 _ rfl 68 rfl b6 rfl 31 (keyA b c) (k10 _ _ _ (by have := rA8.lt; omega) (rA8.keep bel9)) _ Try.underlying31 rfl (S31.out b c) ?_)
        | (refine wpList_put rfl 31 _ _ rfl (.tmp 16) rfl b9 (keyA e f) rfl rfl 31 _ r9 (S31.out e f) (by rw [keyA_size, keyA_size]) (keyA_one e f) ?_; intro w10 r10 k10 bel10)
        | (refine wpList_alloc rfl 31 rfl 16 rfl _ alloc31 ?_; intro b9 w9 hb9 r9 bel9))
      have z10 : Below w.heap.size w w10 := (z8.trans (bel9.mono hz8)).trans (bel10 _ (by omega))
      clear r9 r10 k10 bel9 bel10 rA8 z8
      refine (parts6 b c _).mono ?_
      rintro x w11 ⟨rfl, bel11⟩
      have z11 := below_trans z10 bel11 (Nat.le_refl _)
      have hz11 := z11.size
      clear z10 bel11
      go_wp2_with (first
        | (refine wpList_eql (by rfl) 25 _ _ _ rfl zs zs rfl rfl (guard25 _ _ _ _) (.bool true) eql25 ?_)
        | (refine wpList_whole (by rfl) 24 _ rfl 89 rfl b14 rfl 24 zs r14 _ Try.underlying24 rfl (by rw [zs_size]; exact size24) ?_)
        | (refine wpList_whole (by rfl) 25 _ rfl 88 rfl b12 rfl 25 zs (r13.keep bel14) _ Try.underlying25 rfl (by rw [zs_size]; exact size25) ?_)
        | (refine wpList_alloc rfl 24 rfl 21 rfl zs alloc24 ?_; intro b14 w14 hb14 r14 bel14)
        | (refine wpList_put rfl 25 _ _ rfl (.tmp 20) rfl b12 zs rfl rfl 25 zs r12 (by rw [zs_size]; exact size25) rfl zs_one ?_; intro w13 r13 k13 bel13)
        | (refine wpList_alloc rfl 25 rfl 20 rfl zs alloc25 ?_; intro b12 w12 hb12 r12 bel12))
      have z13 : Below w.heap.size w w13 := (z11.trans (bel12.mono hz11)).trans (bel13 _ (by omega))
      go_ret
      exact ⟨rfl, below_trans z13 bel14 (Nat.le_refl _)⟩
    | true =>
      have hq : ((b.toList == e.toList) && (c.toList == f.toList)) = true := by rw [q1, q2]; rfl
      go_wp2_with (first
        | (refine wpList_whole (by rfl) 31 _ rfl 74 rfl b6 rfl 31 (keyA b c) (k10 _ _ _ (by have := rA8.lt; omega) (rA8.keep bel9)) _ Try.underlying31 rfl (S31.out b c) ?_)
        | (refine wpList_eql (by rfl) 31 _ _ _ rfl (keyA b c) (keyA e f) rfl rfl (guard31 _ _ _ _) (.bool true) (fun w => by rw [eql31, hq]) ?_)
        | (refine wpList_whole (by rfl) 31 _ rfl 69 rfl b9 rfl 31 (keyA e f) r10 _ Try.underlying31 rfl (S31.out e f) ?_)
        | (refine wpList_whole (by rfl) 31 _ rfl 68 rfl b6 rfl 31 (keyA b c) (k10 _ _ _ (by have := rA8.lt; omega) (rA8.keep bel9)) _ Try.underlying31 rfl (S31.out b c) ?_)
        | (refine wpList_put rfl 31 _ _ rfl (.tmp 16) rfl b9 (keyA e f) rfl rfl 31 _ r9 (S31.out e f) (by rw [keyA_size, keyA_size]) (keyA_one e f) ?_; intro w10 r10 k10 bel10)
        | (refine wpList_alloc rfl 31 rfl 16 rfl _ alloc31 ?_; intro b9 w9 hb9 r9 bel9))
      have z10 : Below w.heap.size w w10 := (z8.trans (bel9.mono hz8)).trans (bel10 _ (by omega))
      clear r9 r10 k10 bel9 bel10 rA8 z8
      refine (parts6 b c _).mono ?_
      rintro x w11 ⟨rfl, bel11⟩
      have z11 := below_trans z10 bel11 (Nat.le_refl _)
      have hz11 := z11.size
      clear z10 bel11
      go_wp2_with (first
        | (refine wpList_eql (by rfl) 25 _ _ _ rfl zs zs rfl rfl (guard25 _ _ _ _) (.bool true) eql25 ?_)
        | (refine wpList_whole (by rfl) 24 _ rfl 89 rfl b14 rfl 24 zs r14 _ Try.underlying24 rfl (by rw [zs_size]; exact size24) ?_)
        | (refine wpList_whole (by rfl) 25 _ rfl 88 rfl b12 rfl 25 zs (r13.keep bel14) _ Try.underlying25 rfl (by rw [zs_size]; exact size25) ?_)
        | (refine wpList_alloc rfl 24 rfl 21 rfl zs alloc24 ?_; intro b14 w14 hb14 r14 bel14)
        | (refine wpList_put rfl 25 _ _ rfl (.tmp 20) rfl b12 zs rfl rfl 25 zs r12 (by rw [zs_size]; exact size25) rfl zs_one ?_; intro w13 r13 k13 bel13)
        | (refine wpList_alloc rfl 25 rfl 20 rfl zs alloc25 ?_; intro b12 w12 hb12 r12 bel12))
      have z13 : Below w.heap.size w w13 := (z11.trans (bel12.mono hz11)).trans (bel13 _ (by omega))
      go_ret
      exact ⟨rfl, below_trans z13 bel14 (Nat.le_refl _)⟩

end Go.Proofs.Qxb6616635a.okey
