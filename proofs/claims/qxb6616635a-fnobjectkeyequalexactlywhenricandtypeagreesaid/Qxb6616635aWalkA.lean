/-
  THE WALKS of Object.Key (8), Policy.objectKey (7), ZZobjectKey (5) and ZZobjectKeyParts (6).
-/
import Derived.Test.Qxb6616635aRowLaws
namespace Go.Proofs.Qxb6616635a.okey
open Go.RowKit

set_option maxHeartbeats 400000 in
theorem key8 (w : World) : Calls Try.prog 8 #[.agg objA] w fun e w' => e = .returned (.agg zs) ∧ Below w.heap.size w w' := by
  go_enter Try.func8, Try.ntmps8
  go_wp2_with (first
    | (refine wpList_box rfl 27 _ rfl objA rfl ?_; intro b0 w0 hb0 r0 bel0)
    | (refine wpList_alloc rfl 25 rfl 2 rfl zs alloc25 ?_; intro b1 w1 hb1 r1 bel1; have r0' := r0.keep bel1)
    | (refine wpList_part rfl 25 _ rfl b0 1 rfl objA zs 27 r0' obj_zs _ Try.underlying25 rfl (by rw [zs_size]; exact size25) ?_)
    | (refine wpList_put rfl 25 _ _ rfl _ rfl b1 zs rfl rfl 25 zs r1 (by rw [zs_size]; exact size25) rfl zs_one ?_; intro w2 r2 k2 bel2))
  refine bodyPost_ret (v := .agg zs) (results_cell_row Try.results8 _ _ b1 25 zs (0, 0) _ rfl r2 Try.underlying25 rfl (by rw [zs_size]; exact size25)) rfl ⟨rfl, ?_⟩
  have h1 := bel0.size
  exact (below_trans bel0 bel1 (Nat.le_refl _)).trans (bel2 _ (by omega))

set_option maxHeartbeats 400000 in
theorem okey7 (i r t : ByteArray) (w : World) : Calls Try.prog 7 #[.agg (polA i r t)] w fun e w' => e = .returned (.agg (keyA r t)) ∧ Below w.heap.size w w' := by
  go_enter Try.func7, Try.ntmps7
  go_wp2_with (first
    | (refine wpList_box rfl 29 _ rfl (polA i r t) rfl ?_; intro b0 w0 hb0 r0 bel0)
    | (refine wpList_alloc rfl 31 rfl 2 rfl (keyA ⟨#[]⟩ ⟨#[]⟩) alloc31 ?_; intro b1 w1 hb1 r1 bel1; have r0' := r0.keep bel1))
  have hlt := r0.lt
  have hs0 := bel0.size
  refine wp_region_held_drew (S := fun w' => Row w' b0 (polA i r t) 29 ∧ (∃ old, Row w' b1 old 31 ∧ old.size = 34) ∧ Below w.heap.size w w') (by kernel_rfl)
    ⟨r0'.drew, ⟨_, r1.drew, keyA_size _ _⟩, (below_trans bel0 bel1 (Nat.le_refl _)).drew⟩ (fun hHeld => ?_)
  simp only [Act.put, List.setIfInBounds_toArray, List.set_cons_zero, List.set_cons_succ]
  refine wpAnyH_take (i := 0) (v := _) rfl (by kernel_rfl) (by kernel_rfl) (by kernel_rfl) (fun _ _ _ h => h) (yields_field (by rfl) 29 _ _ rfl b0 1 rfl (field29a b0)) hHeld ?_
  refine wpAnyH_take (i := 1) (v := _) rfl (by kernel_rfl) (by kernel_rfl) (by kernel_rfl) (fun _ _ _ h => h) (yields_load (by rfl) 9 _ rfl ⟨b0, 1, none⟩ rfl (.string r) (fun w' h => pol_ric h.1)) hHeld ?_
  refine wpAnyH_take (i := 2) (v := _) rfl (by kernel_rfl) (by kernel_rfl) (by kernel_rfl) (fun _ _ _ h => h) (yields_field (by rfl) 29 _ _ rfl b0 2 rfl (field29b b0)) hHeld ?_
  refine wpAnyH_take (i := 3) (v := _) rfl (by kernel_rfl) (by kernel_rfl) (by kernel_rfl) (fun _ _ _ h => h) (yields_load (by rfl) 9 _ rfl ⟨b0, 2, none⟩ rfl (.string t) (fun w' h => pol_typ h.1)) hHeld ?_
  refine wpAnyH_take (i := 4) (v := _) rfl (by kernel_rfl) (by kernel_rfl) (by kernel_rfl) (fun _ _ _ h => h) (yields_field (by rfl) 29 _ _ rfl b0 3 rfl (field29c b0)) hHeld ?_
  refine wpAnyH_take (i := 5) (v := _) rfl (by kernel_rfl) (by kernel_rfl) (by kernel_rfl) (fun _ _ _ h => h) (yields_load (by rfl) 27 _ rfl ⟨b0, 3, none⟩ rfl (.agg objA) (fun w' h => pol_part h.1)) hHeld ?_
  refine wpAnyH_ready (rs := [6]) (by kernel_rfl) (by simp) ?_
  refine AllReadyH.cons rfl (fun K hK => ?_) AllReadyH.nil
  rw [if_pos (by rfl)]
  simp only [Act.put, List.setIfInBounds_toArray, List.set_cons_zero, List.set_cons_succ, List.getElem_toArray, List.getElem_cons_zero, List.getElem_cons_succ]
  go_simp
  refine (key8 _).mono ?_
  rintro e w2 ⟨rfl, bel2⟩
  obtain ⟨q0, ⟨old, q1, qs⟩, q2⟩ := hHeld
  refine hK.out _ _ ⟨q0.keep bel2, ⟨old, q1.keep bel2, qs⟩, below_trans q2 bel2 (Nat.le_refl _)⟩ (fun hHeld2 => ?_)
  clear hK K
  refine wpAnyH_take (i := 7) (v := _) rfl (by kernel_rfl) (by kernel_rfl) (by kernel_rfl) (fun _ _ _ h => h) (yields_made (by rfl) 31 [(0, .tmp 4), (1, .tmp 6), (2, .tmp 9)] rfl [(0, .string r), (1, .string t), (2, .agg zs)] rfl (.agg (keyA r t)) (build31 r t)) hHeld2 ?_
  obtain ⟨p0, ⟨old2, p1, ps⟩, p2⟩ := hHeld2
  have s31 : (Try.prog.info? 31).map (·.size) = some (keyA r t).size := by rw [keyA_size]; exact size31
  have hold : old2.size = (keyA r t).size := by rw [ps, keyA_size]
  refine any_put 8 (by kernel_rfl) rfl (by rfl) 31 _ _ rfl b1 (keyA r t) rfl rfl 31 old2 p1 s31 hold (keyA_one r t) ?_
  intro w3 r3 k3 bel3
  have fin : Below w.heap.size w w3 := p2.trans (bel3 _ (by omega))
  refine ⟨⟨k3 _ _ _ (by omega) p0, ⟨_, r3, keyA_size r t⟩, fin⟩, ?_⟩
  refine wpAnyH_done (by kernel_rfl) ?_ _
  go_wp2
  refine bodyPost_ret (v := .agg (keyA r t)) (results_cell_row Try.results7 _ _ b1 31 (keyA r t) (0, 0) _ rfl r3 Try.underlying31 rfl (by rw [keyA_size]; exact size31)) rfl ⟨rfl, fin⟩

set_option maxHeartbeats 400000 in
theorem okey5 (i r t : ByteArray) (w : World) : Calls Try.prog 5 #[.agg (polA i r t)] w fun e w' => e = .returned (.agg (keyA r t)) ∧ Below w.heap.size w w' := by
  go_enter Try.func5, Try.ntmps5
  go_wp2_with (first
    | (refine wpList_box rfl 29 _ rfl (polA i r t) rfl ?_; intro b0 w0 hb0 r0 bel0)
    | (refine wpList_alloc rfl 31 rfl 2 rfl (keyA ⟨#[]⟩ ⟨#[]⟩) alloc31 ?_; intro b1 w1 hb1 r1 bel1; have r0' := r0.keep bel1)
    | (refine wpList_whole (by rfl) 29 _ rfl 3 rfl b0 rfl 29 (polA i r t) r0' _ Try.underlying29 rfl (by rw [polA_size]; exact size29) ?_)
    | (go_at_call 7; refine (okey7 i r t _).mono ?_; rintro e w2 ⟨rfl, bel2⟩; have r1' := r1.keep bel2)
    | (refine wpList_put rfl 31 _ _ rfl _ rfl b1 (keyA r t) rfl rfl 31 _ r1' (by rw [keyA_size]; exact size31) (by rw [keyA_size, keyA_size]) (keyA_one r t) ?_; intro w3 r3 k3 bel3))
  have hs0 := bel0.size
  refine bodyPost_ret (v := .agg (keyA r t)) (results_cell_row Try.results5 _ _ b1 31 (keyA r t) (0, 0) _ rfl r3 Try.underlying31 rfl (by rw [keyA_size]; exact size31)) rfl ⟨rfl, ?_⟩
  exact (below_trans (below_trans bel0 bel1 (Nat.le_refl _)) bel2 (Nat.le_refl _)).trans (bel3 _ (by omega))

theorem results3_row {P : Program} {fn : Func} {p q g : Tmp} {ty : TypeId} (h : fn.results = #[.tmp p, .tmp q, .cell g ty]) (tmps : Array Value) (w : World) (b : Nat) (t : TypeId) (cs : Array Value) (d : TypeDesc)
    (hp : tmps.getD g undef = .pointer (some ⟨b, 0, none⟩)) (hg : Row w b cs t)
    (hu : P.underlying ty = some d) (hd : d.isRow = true) (hi : (P.info? ty).map (·.size) = some cs.size) :
    (results fn tmps).run P w = .ok (.tuple #[tmps.getD p undef, tmps.getD q undef, .agg cs]) w := by
  have hl := run_loadVar_mid (P := P) w b 0 ty cs.toList d (range_of_row hg (row_zero cs)) hu hd (by rw [hi]; simp)
  simp only [Array.toArray_toList] at hl
  have hp' : tmps[g]?.getD undef = .pointer (some ⟨b, 0, none⟩) := by simpa using hp
  simp [results, h, hp', asAddr, hl]

set_option maxHeartbeats 400000 in
theorem parts6 (r t : ByteArray) (w : World) : Calls Try.prog 6 #[.agg (keyA r t)] w fun e w' => e = .returned (.tuple #[.string r, .string t, .agg zs]) ∧ Below w.heap.size w w' := by
  go_enter Try.func6, Try.ntmps6
  go_wp2_with (first
    | (refine wpList_box rfl 31 _ rfl (keyA r t) rfl ?_; intro b0 w0 hb0 r0 bel0)
    | (refine wpList_alloc rfl 25 rfl 4 rfl zs alloc25 ?_; intro b1 w1 hb1 r1 bel1; have r0' := r0.keep bel1))
  have hlt := r0.lt
  have hs0 := bel0.size
  refine wp_region_held_drew (S := fun w' => Row w' b0 (keyA r t) 31 ∧ Row w' b1 zs 25 ∧ Below w.heap.size w w') (by kernel_rfl)
    ⟨r0'.drew, r1.drew, (below_trans bel0 bel1 (Nat.le_refl _)).drew⟩ (fun hHeld => ?_)
  simp only [Act.put, List.setIfInBounds_toArray, List.set_cons_zero, List.set_cons_succ]
  refine wpAnyH_take (i := 0) (v := _) rfl (by kernel_rfl) (by kernel_rfl) (by kernel_rfl) (fun _ _ _ h => h) (yields_field (by rfl) 31 _ _ rfl b0 0 rfl (field31a b0)) hHeld ?_
  refine wpAnyH_take (i := 1) (v := _) rfl (by kernel_rfl) (by kernel_rfl) (by kernel_rfl) (fun _ _ _ h => h) (yields_load (by rfl) 9 _ rfl ⟨b0, 0, none⟩ rfl (.string r) (fun w' h => key_ric h.1)) hHeld ?_
  refine wpAnyH_take (i := 2) (v := _) rfl (by kernel_rfl) (by kernel_rfl) (by kernel_rfl) (fun _ _ _ h => h) (yields_field (by rfl) 31 _ _ rfl b0 1 rfl (field31b b0)) hHeld ?_
  refine wpAnyH_take (i := 3) (v := _) rfl (by kernel_rfl) (by kernel_rfl) (by kernel_rfl) (fun _ _ _ h => h) (yields_load (by rfl) 9 _ rfl ⟨b0, 1, none⟩ rfl (.string t) (fun w' h => key_typ h.1)) hHeld ?_
  refine wpAnyH_take (i := 4) (v := _) rfl (by kernel_rfl) (by kernel_rfl) (by kernel_rfl) (fun _ _ _ h => h) (yields_field (by rfl) 31 _ _ rfl b0 2 rfl (field31c b0)) hHeld ?_
  refine wpAnyH_take (i := 5) (v := _) rfl (by kernel_rfl) (by kernel_rfl) (by kernel_rfl) (fun _ _ _ h => h) (yields_load (by rfl) 25 _ rfl ⟨b0, 2, none⟩ rfl (.agg zs) (fun w' h => key_part h.1)) hHeld ?_
  refine wpAnyH_take (i := 6) (v := _) rfl (by kernel_rfl) (by kernel_rfl) (by kernel_rfl) (fun _ _ _ h => h) (yields_copy (by rfl) _ rfl (.string r) rfl) hHeld ?_
  refine wpAnyH_take (i := 7) (v := _) rfl (by kernel_rfl) (by kernel_rfl) (by kernel_rfl) (fun _ _ _ h => h) (yields_copy (by rfl) _ rfl (.string t) rfl) hHeld ?_
  simp only [Act.put, List.setIfInBounds_toArray, List.set_cons_zero, List.set_cons_succ, List.getElem_toArray, List.getElem_cons_zero, List.getElem_cons_succ]
  obtain ⟨p0, p1, p2⟩ := hHeld
  have s25 : (Try.prog.info? 25).map (·.size) = some zs.size := by rw [zs_size]; exact size25
  refine any_put 8 (by kernel_rfl) rfl (by rfl) 25 _ _ rfl b1 zs rfl rfl 25 zs p1 s25 rfl zs_one ?_
  intro w3 r3 k3 bel3
  have fin : Below w.heap.size w w3 := p2.trans (bel3 _ (by omega))
  refine ⟨⟨k3 _ _ _ (by omega) p0, r3, fin⟩, ?_⟩
  refine wpAnyH_done (by kernel_rfl) ?_ _
  go_wp2
  refine bodyPost_ret (v := .tuple #[.string r, .string t, .agg zs]) (results3_row Try.results6 _ _ b1 25 zs _ rfl r3 Try.underlying25 rfl (by rw [zs_size]; exact size25)) rfl ⟨rfl, fin⟩

end Go.Proofs.Qxb6616635a.okey
