/-
  LAWS FOR WHOLE ROWS, said of a world that is a letter: a block 'b' holds the cells 'cs' ('Row'); what a new block, a whole load, a part's load and a whole store do to it. Over any program. And the program's own closed facts (types 9, 24, 25, 27, 29, 31).
-/
import Derived.Test.Qxb6616635aRows
import Derived.WalkKit
import Derived.WalkSpells
import Derived.Deep.MidRow
import Derived.Deep.WholeRow
import Derived.Deep.RegionHeld3
namespace Go.Proofs.Qxb6616635a.okey
open Go.RowKit

/-- Block b holds the cells cs (no cell of it is frozen). -/
def Row (w : World) (b : Nat) (cs : Array Value) (t : TypeId) : Prop := w.heap[b]? = some (.cells cs t (0, 0))

theorem Row.lt {w : World} {b : Nat} {cs : Array Value} {t : TypeId} (h : Row w b cs t) : b < w.heap.size := by
  unfold Row at h
  exact (Array.getElem?_eq_some_iff.1 h).1

theorem Row.keep {w w' : World} {b : Nat} {cs : Array Value} {t : TypeId} (h : Row w b cs t) (hb : Below w.heap.size w w') : Row w' b cs t := by
  unfold Row
  rw [hb.block b h.lt]
  exact h

theorem Row.drew {w : World} {b : Nat} {cs : Array Value} {t : TypeId} (h : Row w b cs t) : Row w.drew b cs t := h

theorem below_trans {B : Nat} {a b c : World} (h : Below B a b) (k : Below b.heap.size b c) (hB : B ≤ a.heap.size) : Below B a c :=
  h.trans (k.mono (Nat.le_trans hB h.size))

section
variable {P : Program} {ops : Array Oper} {rest : List Oper} {o : Oper} {a : Act} {w : World} {Q : Exit → Act → World → Prop}

theorem wpList_wanted (hw : Region.wanted o (yielded ops a.tmps) = true) (h : ∀ K : Act → World → Prop, (∀ a w, wpList P ops Q rest a w → K a w) → o.wp P a w K Q) : wpList P ops Q (o :: rest) a w :=
  wpList_step fun K hK => by rw [if_pos hw]; exact h K hK

theorem wp_run {K : Act → World → Prop} {v : Value} {w' : World} (h : (execOp a.eval o).run P w = .ok (.value v) w') (k : K (a.put o.dst v) w') : o.wp P a w K Q := by
  unfold Oper.wp
  rw [h]
  exact k

/-- An operation that gives v and leaves the world. -/
theorem wpList_run (hw : Region.wanted o (yielded ops a.tmps) = true) (v : Value) (h : (execOp a.eval o).run P w = .ok (.value v) w) (k : wpList P ops Q rest (a.put o.dst v) w) : wpList P ops Q (o :: rest) a w :=
  wpList_wanted hw fun _ hK => wp_run h (hK _ _ k)

theorem row_alloc (w : World) (cs : Array Value) (t : TypeId) : Row (w.alloc (.cells cs t)) w.heap.size cs t := heap_alloc_new w _

theorem below_alloc (w : World) (ob : Obj) : Below w.heap.size w (w.alloc ob) := (Below.refl _ w).alloc (Nat.le_refl _) ob

/-- A new block. -/
theorem wpList_new (hgd : o.guard = none) (cs : Array Value) (ty : TypeId)
    (hrun : (execOp a.eval o).run P w = .ok (.value (.pointer (some ⟨w.heap.size, 0, none⟩))) (w.alloc (.cells cs ty)))
    (h : ∀ b w', w.heap.size ≤ b → Row w' b cs ty → Below w.heap.size w w' → wpList P ops Q rest (a.put o.dst (.pointer (some ⟨b, 0, none⟩))) w') :
    wpList P ops Q (o :: rest) a w :=
  wpList_plain hgd fun _ hK => wp_run hrun (hK _ _ (h _ _ (Nat.le_refl _) (row_alloc w cs ty) (below_alloc w _)))

theorem wpList_alloc (hgd : o.guard = none) (ty : TypeId) (ho : o.op = .alloc ty) (d : Tmp) (_hd : o.dst = some d) (cs : Array Value)
    (hz : ∀ w : World, (Instr.alloc ty true (.tuple #[])).run P w = .ok (.pointer (some ⟨w.heap.size, 0, none⟩)) (w.alloc (.cells cs ty)))
    (h : ∀ b w', w.heap.size ≤ b → Row w' b cs ty → Below w.heap.size w w' → wpList P ops Q rest (a.put o.dst (.pointer (some ⟨b, 0, none⟩))) w') :
    wpList P ops Q (o :: rest) a w :=
  wpList_new hgd cs ty (by unfold execOp; simp only [ho, Sem.run_bind, hz w, Result.andThen_ok, Sem.run_pure]) h

theorem wpList_box (hgd : o.guard = none) (ty : TypeId) (x : Operand) (ho : o.op = .box ty x) (cs : Array Value) (hx : a.eval x = .agg cs)
    (h : ∀ b w', w.heap.size ≤ b → Row w' b cs ty → Below w.heap.size w w' → wpList P ops Q rest (a.put o.dst (.pointer (some ⟨b, 0, none⟩))) w') :
    wpList P ops Q (o :: rest) a w :=
  wpList_new hgd cs ty (by unfold execOp; simp only [ho, hx]; rfl) h

theorem range_of_row {b off : Nat} {big cs : Array Value} {t : TypeId} (hr : Row w b big t) (hc : ∀ j v, cs.toList[j]? = some v → big[off + j]? = some v) : w.rangeAt b off cs.toList := fun j v hv => by
  rw [cell_of_row w b (off + j) big t (0, 0) hr]
  exact hc j v hv

theorem run_part {b off : Nat} {big cs : Array Value} {t : TypeId} (ty : TypeId) (hr : Row w b big t) (hc : ∀ j v, cs.toList[j]? = some v → big[off + j]? = some v) (u : TypeDesc)
    (hu : P.underlying ty = some u) (hd : u.isRow = true) (hi : (P.info? ty).map (·.size) = some cs.size) :
    (Instr.loadAt ty (.pointer (some ⟨b, off, none⟩))).run P w = .ok (.agg cs) w := by
  have := run_loadAt_mid (P := P) w b off ty cs.toList u (range_of_row hr hc) hu hd (by rw [hi]; simp)
  rw [this]

theorem row_zero (cs : Array Value) : ∀ j v, cs.toList[j]? = some v → cs[0 + j]? = some v := fun j v h => by
  rw [Nat.zero_add]
  simpa using h

/-- The load of a whole row. -/
theorem wpList_whole (hw : Region.wanted o (yielded ops a.tmps) = true) (ty : TypeId) (x : Operand) (ho : o.op = .load ty x) (d : Tmp) (_hd : o.dst = some d)
    (b : Nat) (hx : a.eval x = .pointer (some ⟨b, 0, none⟩)) (t : TypeId) (cs : Array Value) (hr : Row w b cs t) (u : TypeDesc)
    (hu : P.underlying ty = some u) (hd : u.isRow = true) (hi : (P.info? ty).map (·.size) = some cs.size)
    (k : wpList P ops Q rest (a.put o.dst (.agg cs)) w) : wpList P ops Q (o :: rest) a w :=
  wpList_wanted hw fun _ hK => wp_run (by unfold execOp; simp only [ho, hx, Sem.run_bind, run_part ty hr (row_zero cs) u hu hd hi, Result.andThen_ok, Sem.run_pure]) (hK _ _ k)

/-- The load of a part of a row. -/
theorem wpList_part (hgd : o.guard = none) (ty : TypeId) (x : Operand) (ho : o.op = .load ty x)
    (b off : Nat) (hx : a.eval x = .pointer (some ⟨b, off, none⟩)) (big cs : Array Value) (t : TypeId) (hr : Row w b big t) (hc : ∀ j v, cs.toList[j]? = some v → big[off + j]? = some v) (u : TypeDesc)
    (hu : P.underlying ty = some u) (hd : u.isRow = true) (hi : (P.info? ty).map (·.size) = some cs.size)
    (k : wpList P ops Q rest (a.put o.dst (.agg cs)) w) : wpList P ops Q (o :: rest) a w :=
  wpList_plain hgd fun _ hK => wp_run (by unfold execOp; simp only [ho, hx, Sem.run_bind, run_part ty hr hc u hu hd hi, Result.andThen_ok, Sem.run_pure]) (hK _ _ k)

theorem row_setRow {b : Nat} {old cs : Array Value} {t : TypeId} (hr : Row w b old t) : Row (w.setRow b cs) b cs t := setRow_heap w b old cs t _ hr

theorem row_setRow_other {b b' : Nat} {cs cs' : Array Value} {t : TypeId} (hne : b' ≠ b) (hr : Row w b' cs' t) : Row (w.setRow b cs) b' cs' t := by
  unfold Row
  rw [setRow_other w b b' cs hne]
  exact hr

theorem below_setRow (B b : Nat) (cs : Array Value) (hB : B ≤ b) : Below B w (w.setRow b cs) :=
  ⟨rfl, rfl, rfl, by simp, fun k hk => setRow_other w b k cs (by omega)⟩

/-- The store of a whole row. -/
theorem wp_put {K : Act → World → Prop} (ty : TypeId) (x y : Operand) (ho : o.op = .store ty x y)
    (b : Nat) (cs : Array Value) (hx : a.eval x = .pointer (some ⟨b, 0, none⟩)) (hy : a.eval y = .agg cs)
    (t : TypeId) (old : Array Value) (hr : Row w b old t) (hi : (P.info? ty).map (·.size) = some cs.size)
    (hold : old.size = cs.size) (h1 : cs.all (·.oneCell') = true)
    (h : ∀ w', Row w' b cs t → (∀ b' cs' t', b' ≠ b → Row w b' cs' t' → Row w' b' cs' t') → (∀ B, B ≤ b → Below B w w') → K (a.put o.dst undef) w') : o.wp P a w K Q :=
  wp_store_row ty x y ho b cs hx hy t old hr hi hold h1 (h _ (row_setRow hr) (fun _ _ _ hne hr' => row_setRow_other hne hr') (fun B hB => below_setRow B b cs hB))

theorem step_put {K : Act → World → Prop} {E : Prop} (hw : Region.wanted o (yielded ops a.tmps) = true) (ty : TypeId) (x y : Operand) (ho : o.op = .store ty x y)
    (b : Nat) (cs : Array Value) (hx : a.eval x = .pointer (some ⟨b, 0, none⟩)) (hy : a.eval y = .agg cs)
    (t : TypeId) (old : Array Value) (hr : Row w b old t) (hi : (P.info? ty).map (·.size) = some cs.size)
    (hold : old.size = cs.size) (h1 : cs.all (·.oneCell') = true)
    (h : ∀ w', Row w' b cs t → (∀ b' cs' t', b' ≠ b → Row w b' cs' t' → Row w' b' cs' t') → (∀ B, B ≤ b → Below B w w') → K (a.put o.dst undef) w') : if Region.wanted o (yielded ops a.tmps) = true then o.wp P a w K Q else E := by
  rw [if_pos hw]
  exact wp_put ty x y ho b cs hx hy t old hr hi hold h1 h

theorem wpList_put (hgd : o.guard = none) (ty : TypeId) (x y : Operand) (ho : o.op = .store ty x y) (d : Operand) (_hd : x = d)
    (b : Nat) (cs : Array Value) (hx : a.eval x = .pointer (some ⟨b, 0, none⟩)) (hy : a.eval y = .agg cs)
    (t : TypeId) (old : Array Value) (hr : Row w b old t) (hi : (P.info? ty).map (·.size) = some cs.size)
    (hold : old.size = cs.size) (h1 : cs.all (·.oneCell') = true)
    (h : ∀ w', Row w' b cs t → (∀ b' cs' t', b' ≠ b → Row w b' cs' t' → Row w' b' cs' t') → (∀ B, B ≤ b → Below B w w') → wpList P ops Q rest (a.put o.dst undef) w') : wpList P ops Q (o :: rest) a w :=
  wpList_plain hgd fun _ hK => wp_put ty x y ho b cs hx hy t old hr hi hold h1 (fun w' r1 r2 r3 => hK _ _ (h w' r1 r2 r3))

/-- A build. -/
theorem wpList_made (hgd : o.guard = none) (ty : TypeId) (parts : List (Nat × Operand)) (ho : o.op = .build ty parts.toArray) (d : Tmp) (_hd : o.dst = some d) (vals : List (Nat × Value)) (hv : (parts.map fun (i, x) => (i, a.eval x)) = vals) (cs : Array Value)
    (hrun : ∀ w : World, (Instr.build ty vals.toArray).run P w = .ok (.agg cs) w)
    (k : wpList P ops Q rest (a.put o.dst (.agg cs)) w) : wpList P ops Q (o :: rest) a w :=
  wpList_plain hgd fun _ hK => wp_run (by unfold execOp; simp only [ho, Sem.run_bind, List.map_toArray, hv, hrun w, Result.andThen_ok, Sem.run_pure]) (hK _ _ k)

theorem run_cell (ty : TypeId) (ad : Addr) (v : Value) (u : TypeDesc) (hu : P.underlying ty = some u) (hd : u.isRow = false) (hc : w.cell? ad = some v) :
    (Instr.loadAt ty (.pointer (some ad))).run P w = .ok v w := by
  have hagg : (isAgg ty).run P w = .ok false w := by
    unfold isAgg
    rw [Sem.run_bind, run_underlying hu w]
    cases u <;> simp_all
  simp [Instr.loadAt, Instr.sureAddr, loadVar, Sem.run_bind, hagg, run_load, hc]

/-! ### In a region that draws its order -/
variable {S : World → Prop}

theorem yields_run (hw : Region.wanted o (yielded ops a.tmps) = true) (v : Value) (h : ∀ w, S w → (execOp a.eval o).run P w = .ok (.value v) w) : YieldsIf P ops S o v a := .inl ⟨hw, h⟩

theorem yields_field (hw : Region.wanted o (yielded ops a.tmps) = true) (s : TypeId) (x : Operand) (f : Nat) (ho : o.op = .fieldAddr s x f) (b off : Nat) (hx : a.eval x = .pointer (some ⟨b, 0, none⟩))
    (hrun : ∀ w : World, (Instr.fieldAt s (.pointer (some ⟨b, 0, none⟩)) f).run P w = .ok (.pointer (some ⟨b, off, none⟩)) w) : YieldsIf P ops S o (.pointer (some ⟨b, off, none⟩)) a :=
  yields_run hw _ fun w _ => by unfold execOp; simp only [ho, hx, Sem.run_bind, hrun w, Result.andThen_ok, Sem.run_pure]

theorem yields_load (hw : Region.wanted o (yielded ops a.tmps) = true) (ty : TypeId) (x : Operand) (ho : o.op = .load ty x) (ad : Addr) (hx : a.eval x = .pointer (some ad)) (v : Value)
    (hrun : ∀ w : World, S w → (Instr.loadAt ty (.pointer (some ad))).run P w = .ok v w) : YieldsIf P ops S o v a :=
  yields_run hw _ fun w hS => by unfold execOp; simp only [ho, hx, Sem.run_bind, hrun w hS, Result.andThen_ok, Sem.run_pure]

theorem yields_made (hw : Region.wanted o (yielded ops a.tmps) = true) (ty : TypeId) (parts : List (Nat × Operand)) (ho : o.op = .build ty parts.toArray) (vals : List (Nat × Value)) (hv : (parts.map fun (i, x) => (i, a.eval x)) = vals) (v : Value)
    (hrun : ∀ w : World, (Instr.build ty vals.toArray).run P w = .ok v w) : YieldsIf P ops S o v a :=
  yields_run hw _ fun w _ => by unfold execOp; simp only [ho, Sem.run_bind, List.map_toArray, hv, hrun w, Result.andThen_ok, Sem.run_pure]

/-- The store of a whole row, where nothing else may come up. -/
theorem any_put {md : Region.Mode} {fuel : Nat} {listed : Array Bool} (i : Nat) (hr0 : Region.ready md ops listed = [i]) (hoi : ops[i]? = some o)
    (hw : Region.wanted o (yielded ops a.tmps) = true) (ty : TypeId) (x y : Operand) (ho : o.op = .store ty x y)
    (b : Nat) (cs : Array Value) (hx : a.eval x = .pointer (some ⟨b, 0, none⟩)) (hy : a.eval y = .agg cs)
    (t : TypeId) (old : Array Value) (hr : Row w b old t) (hi : (P.info? ty).map (·.size) = some cs.size)
    (hold : old.size = cs.size) (h1 : cs.all (·.oneCell') = true)
    (h : ∀ w', Row w' b cs t → (∀ b' cs' t', b' ≠ b → Row w b' cs' t' → Row w' b' cs' t') → (∀ B, B ≤ b → Below B w w') → S w' ∧ wpAnyH P md ops Q S fuel (listed.setIfInBounds i true) (a.put o.dst undef) w') :
    wpAnyH P md ops Q S (fuel + 1) listed a w :=
  wpAnyH_ready hr0 (by simp) (AllReadyH.cons hoi (fun _ hK => step_put hw ty x y ho b cs hx hy t old hr hi hold h1 (fun w' r1 r2 r3 => hK.out _ _ (h w' r1 r2 r3).1 (fun _ => (h w' r1 r2 r3).2))) AllReadyH.nil)

theorem yields_copy (hw : Region.wanted o (yielded ops a.tmps) = true) (x : Operand) (ho : o.op = .assign x) (v : Value) (hv : a.eval x = v) : YieldsIf P ops S o v a :=
  yields_run hw _ fun w _ => by unfold execOp; simp only [ho, hv, Sem.run_pure]

end

/-! ### The program's rows -/

def zs : Array Value := Array.replicate 32 (.int .u8 0)
def objA : Array Value := #[.slice none 0 0] ++ zs
def polA (i r t : ByteArray) : Array Value := #[.string i, .string r, .string t, .slice none 0 0] ++ zs
def keyA (r t : ByteArray) : Array Value := #[.string r, .string t] ++ zs

theorem zs_size : zs.size = 32 := by simp [zs]
theorem objA_size : objA.size = 33 := by simp [objA, zs_size]
theorem polA_size (i r t : ByteArray) : (polA i r t).size = 36 := by simp [polA, zs_size]
theorem keyA_size (r t : ByteArray) : (keyA r t).size = 34 := by simp [keyA, zs_size]

theorem zs_one : zs.all (·.oneCell') = true := by decide +kernel
theorem polA_one (i r t : ByteArray) : (polA i r t).all (·.oneCell') = true := by kernel_rfl
theorem keyA_one (r t : ByteArray) : (keyA r t).all (·.oneCell') = true := by kernel_rfl

theorem size24 : (Try.prog.info? 24).map (·.size) = some 32 := by kernel_rfl
theorem size25 : (Try.prog.info? 25).map (·.size) = some 32 := by kernel_rfl
theorem size27 : (Try.prog.info? 27).map (·.size) = some 33 := by kernel_rfl
theorem size29 : (Try.prog.info? 29).map (·.size) = some 36 := by kernel_rfl
theorem size31 : (Try.prog.info? 31).map (·.size) = some 34 := by kernel_rfl

theorem alloc24 (w : World) : (Instr.alloc 24 true (.tuple #[])).run Try.prog w = .ok (.pointer (some ⟨w.heap.size, 0, none⟩)) (w.alloc (.cells zs 24)) := by kernel_rfl
theorem alloc25 (w : World) : (Instr.alloc 25 true (.tuple #[])).run Try.prog w = .ok (.pointer (some ⟨w.heap.size, 0, none⟩)) (w.alloc (.cells zs 25)) := by kernel_rfl
theorem alloc29 (w : World) : (Instr.alloc 29 true (.tuple #[])).run Try.prog w = .ok (.pointer (some ⟨w.heap.size, 0, none⟩)) (w.alloc (.cells (polA ⟨#[]⟩ ⟨#[]⟩ ⟨#[]⟩) 29)) := by kernel_rfl
theorem alloc31 (w : World) : (Instr.alloc 31 true (.tuple #[])).run Try.prog w = .ok (.pointer (some ⟨w.heap.size, 0, none⟩)) (w.alloc (.cells (keyA ⟨#[]⟩ ⟨#[]⟩) 31)) := by kernel_rfl

theorem build29 (i r t : ByteArray) (w : World) : (Instr.build 29 #[(0, .string i), (1, .string r), (2, .string t)]).run Try.prog w = .ok (.agg (polA i r t)) w := by kernel_rfl
theorem build31 (r t : ByteArray) (w : World) : (Instr.build 31 #[(0, .string r), (1, .string t), (2, .agg zs)]).run Try.prog w = .ok (.agg (keyA r t)) w := by kernel_rfl

theorem append_at (x zs : Array Value) (n : Nat) (hn : x.size = n) (j : Nat) (v : Value) (h : zs.toList[j]? = some v) : (x ++ zs)[n + j]? = some v := by
  rw [Array.getElem?_append_right (by omega), show n + j - x.size = j by omega]
  simpa using h

theorem obj_zs : ∀ j v, zs.toList[j]? = some v → objA[1 + j]? = some v := fun j v h => append_at _ zs 1 rfl j v h
theorem key_zs (r t : ByteArray) : ∀ j v, zs.toList[j]? = some v → (keyA r t)[2 + j]? = some v := fun j v h => append_at _ zs 2 rfl j v h
theorem pol_obj (i r t : ByteArray) : ∀ j v, objA.toList[j]? = some v → (polA i r t)[3 + j]? = some v := fun j v h => by
  have e : polA i r t = #[.string i, .string r, .string t] ++ objA := by simp [polA, objA]
  rw [e]
  exact append_at _ objA 3 rfl j v h

theorem field27 (b : Nat) (w : World) : (Instr.fieldAt 27 (.pointer (some ⟨b, 0, none⟩)) 1).run Try.prog w = .ok (.pointer (some ⟨b, 1, none⟩)) w := by kernel_rfl
theorem field29a (b : Nat) (w : World) : (Instr.fieldAt 29 (.pointer (some ⟨b, 0, none⟩)) 1).run Try.prog w = .ok (.pointer (some ⟨b, 1, none⟩)) w := by kernel_rfl
theorem field29b (b : Nat) (w : World) : (Instr.fieldAt 29 (.pointer (some ⟨b, 0, none⟩)) 2).run Try.prog w = .ok (.pointer (some ⟨b, 2, none⟩)) w := by kernel_rfl
theorem field29c (b : Nat) (w : World) : (Instr.fieldAt 29 (.pointer (some ⟨b, 0, none⟩)) 3).run Try.prog w = .ok (.pointer (some ⟨b, 3, none⟩)) w := by kernel_rfl
theorem field31a (b : Nat) (w : World) : (Instr.fieldAt 31 (.pointer (some ⟨b, 0, none⟩)) 0).run Try.prog w = .ok (.pointer (some ⟨b, 0, none⟩)) w := by kernel_rfl
theorem field31b (b : Nat) (w : World) : (Instr.fieldAt 31 (.pointer (some ⟨b, 0, none⟩)) 1).run Try.prog w = .ok (.pointer (some ⟨b, 1, none⟩)) w := by kernel_rfl
theorem field31c (b : Nat) (w : World) : (Instr.fieldAt 31 (.pointer (some ⟨b, 0, none⟩)) 2).run Try.prog w = .ok (.pointer (some ⟨b, 2, none⟩)) w := by kernel_rfl

theorem pol_ric {w : World} {b : Nat} {i r t : ByteArray} (h : Row w b (polA i r t) 29) : (Instr.loadAt 9 (.pointer (some ⟨b, 1, none⟩))).run Try.prog w = .ok (.string r) w :=
  run_cell 9 ⟨b, 1, none⟩ _ _ Try.underlying9 rfl (by rw [cell_of_row w b 1 _ _ _ h]; unfold polA; rw [Array.getElem?_append_left (by simp)]; rfl)
theorem pol_typ {w : World} {b : Nat} {i r t : ByteArray} (h : Row w b (polA i r t) 29) : (Instr.loadAt 9 (.pointer (some ⟨b, 2, none⟩))).run Try.prog w = .ok (.string t) w :=
  run_cell 9 ⟨b, 2, none⟩ _ _ Try.underlying9 rfl (by rw [cell_of_row w b 2 _ _ _ h]; unfold polA; rw [Array.getElem?_append_left (by simp)]; rfl)
theorem pol_part {w : World} {b : Nat} {i r t : ByteArray} (h : Row w b (polA i r t) 29) : (Instr.loadAt 27 (.pointer (some ⟨b, 3, none⟩))).run Try.prog w = .ok (.agg objA) w :=
  run_part 27 h (pol_obj i r t) _ Try.underlying27 rfl (by rw [objA_size]; exact size27)
theorem key_ric {w : World} {b : Nat} {r t : ByteArray} (h : Row w b (keyA r t) 31) : (Instr.loadAt 9 (.pointer (some ⟨b, 0, none⟩))).run Try.prog w = .ok (.string r) w :=
  run_cell 9 ⟨b, 0, none⟩ _ _ Try.underlying9 rfl (by rw [cell_of_row w b 0 _ _ _ h]; unfold keyA; rw [Array.getElem?_append_left (by simp)]; rfl)
theorem key_typ {w : World} {b : Nat} {r t : ByteArray} (h : Row w b (keyA r t) 31) : (Instr.loadAt 9 (.pointer (some ⟨b, 1, none⟩))).run Try.prog w = .ok (.string t) w :=
  run_cell 9 ⟨b, 1, none⟩ _ _ Try.underlying9 rfl (by rw [cell_of_row w b 1 _ _ _ h]; unfold keyA; rw [Array.getElem?_append_left (by simp)]; rfl)
theorem key_part {w : World} {b : Nat} {r t : ByteArray} (h : Row w b (keyA r t) 31) : (Instr.loadAt 25 (.pointer (some ⟨b, 2, none⟩))).run Try.prog w = .ok (.agg zs) w :=
  run_part 25 h (key_zs r t) _ Try.underlying25 rfl (by rw [zs_size]; exact size25)

end Go.Proofs.Qxb6616635a.okey
