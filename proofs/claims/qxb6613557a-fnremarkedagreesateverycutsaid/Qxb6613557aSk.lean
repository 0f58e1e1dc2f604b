/-
  The skill: a struct of 77 cells, kept folded. The closure, slices.Clone at it.
-/
import Derived.Test.Qxb6613557aLeaf
import Derived.Laws.Tables
import Derived.Laws.AppendOwn
import Derived.Deep.OwnRows
import Derived.Deep.DeepCutAuto
namespace Go.Proofs.Qxb6613557a
open Go.RowKit

theorem heap_at {w : World} (o : Obj) (n : Nat) (hn : n = w.heap.size) : (w.alloc o).heap[n]? = some o := by
  subst hn
  show (w.heap.push o)[w.heap.size]? = _
  simp
theorem heap_past {w : World} (o : Obj) (n : Nat) (hn : n < w.heap.size) : (w.alloc o).heap[n]? = w.heap[n]? := Below.heap_alloc w o n hn
theorem heap_drew {w : World} (n : Nat) : w.drew.heap[n]? = w.heap[n]? := rfl

theorem setCells_one (b : Nat) : ∀ (vs : List Value) (o : Nat) (w : World) (C : Array Value) (t : TypeId), b = w.heap.size → o + vs.length ≤ C.size →
    ∃ D : Array Value, (w.alloc (.cells C t)).setCells b o vs = w.alloc (.cells D t) ∧ D.size = C.size ∧ (∀ j, j < o → D[j]? = C[j]?) ∧ (∀ j, j < vs.length → D[o + j]? = vs[j]?) ∧ (∀ j, o + vs.length ≤ j → D[j]? = C[j]?)
  | [], o, w, C, t, _, _ => ⟨C, rfl, rfl, fun _ _ => rfl, fun _ h => by simp at h, fun _ _ => rfl⟩
  | v :: vs, o, w, C, t, hb, hs => by
    have e : (w.alloc (.cells C t)).setCells b o (v :: vs) = ((w.alloc (.cells C t)).setCell ⟨b, o, none⟩ v).setCells b (o + 1) vs := rfl
    rw [e, World.setCell_alloc_at C t b o v hb]
    simp at hs
    obtain ⟨D, h1, h2, h3, h4, h5⟩ := setCells_one b vs (o + 1) w (C.setIfInBounds o v) t hb (by simp; omega)
    refine ⟨D, h1, by simpa using h2, ?_, ?_, ?_⟩
    · intro j hj
      rw [h3 j (by omega), Array.getElem?_setIfInBounds_ne (by omega)]
    · intro j hj
      cases j with
      | zero =>
        rw [Nat.add_zero, h3 o (by omega)]
        simp [Array.getElem?_setIfInBounds]
        omega
      | succ j =>
        have := h4 j (by simpa using hj)
        rw [show o + (j + 1) = o + 1 + j by omega, this]
        simp
    · intro j hj
      simp at hj
      rw [h5 j (by omega), Array.getElem?_setIfInBounds_ne (by omega)]

/-- A whole block, new, overwritten whole. -/
theorem setCells_whole (w : World) (C : Array Value) (t : TypeId) (vs : List Value) (b : Nat) (hb : b = w.heap.size) (hl : vs.length = C.size) : (w.alloc (.cells C t)).setCells b 0 vs = w.alloc (.cells vs.toArray t) := by
  obtain ⟨D, h1, h2, _, h4, _⟩ := setCells_one b vs 0 w C t hb (by omega)
  rw [h1]
  congr 2
  apply Array.ext_getElem?
  intro j
  by_cases hj : j < vs.length
  · have := h4 j hj
    simpa using this
  · rw [Array.getElem?_eq_none (by omega)]
    simp
    omega

/-- A whole struct stored into the last block, new and as long. -/
theorem wpList_store_new {P : Program} {ops : Array Oper} {rest : List Oper} {op : Oper} {a : Act} {W : World} {Q : Exit → Act → World → Prop} (hgd : op.guard = none) (ty : TypeId) (x y : Operand) (ho : op.op = .store ty x y)
    (n : Nat) (C cells : Array Value) (t : TypeId) (hx : a.eval x = .pointer (some ⟨n, 0, none⟩)) (hy : a.eval y = .agg cells) (hn : n = W.heap.size) (hC : C.size = cells.size)
    (hi : (P.info? ty).map (·.size) = some cells.size) (h1 : cells.all (·.oneCell') = true)
    (h : wpList P ops Q rest (a.put op.dst undef) (W.alloc (.cells cells t))) : wpList P ops Q (op :: rest) a (W.alloc (.cells C t)) := by
  refine wpList_store_mid hgd ty x y ho n 0 cells hx hy ?_ hi h1 ?_
  · intro j hj
    rw [Nat.zero_add, World.cell?_alloc_at C t n j hn, World.frozen?_alloc_at C t n j hn]
    refine ⟨?_, rfl⟩
    rw [Array.getElem?_eq_getElem (by omega)]
    rfl
  · rw [setCells_whole W C t cells.toList n hn (by simp; omega)]
    simpa using h

/-- A whole struct stored into an old block of the call's own, as long. -/
theorem Below.setCells {B : Nat} {a : World} (b : Nat) (hb : B ≤ b) : ∀ (vs : List Value) (o : Nat) (w : World), Below B a w → Below B a (w.setCells b o vs)
  | [], _, _, h => h
  | v :: vs, o, w, h => Below.setCells b hb vs (o + 1) (w.setCell ⟨b, o, none⟩ v) (h.setCell (p := ⟨b, o, none⟩) hb v)

theorem setCell_heap {w : World} {b o : Nat} {v : Value} {C : Array Value} {t : TypeId} (h : w.heap[b]? = some (.cells C t)) : (w.setCell ⟨b, o, none⟩ v).heap[b]? = some (.cells (C.setIfInBounds o v) t) := by
  simp [World.setCell, Array.getElem?_modify, h]
theorem setCells_heap (b : Nat) : ∀ (vs : List Value) (o : Nat) (w : World) (C : Array Value) (t : TypeId), w.heap[b]? = some (.cells C t) → o + vs.length ≤ C.size →
    ∃ D : Array Value, (w.setCells b o vs).heap[b]? = some (.cells D t) ∧ D.size = C.size ∧ (∀ j, j < o → D[j]? = C[j]?) ∧ (∀ j, j < vs.length → D[o + j]? = vs[j]?) ∧ (∀ j, o + vs.length ≤ j → D[j]? = C[j]?)
  | [], o, w, C, t, h, _ => ⟨C, h, rfl, fun _ _ => rfl, fun _ h => by simp at h, fun _ _ => rfl⟩
  | v :: vs, o, w, C, t, h, hs => by
    have e : w.setCells b o (v :: vs) = (w.setCell ⟨b, o, none⟩ v).setCells b (o + 1) vs := rfl
    rw [e]
    simp at hs
    obtain ⟨D, h1, h2, h3, h4, h5⟩ := setCells_heap b vs (o + 1) (w.setCell ⟨b, o, none⟩ v) (C.setIfInBounds o v) t (setCell_heap h) (by simp; omega)
    refine ⟨D, h1, by simpa using h2, ?_, ?_, ?_⟩
    · intro j hj
      rw [h3 j (by omega), Array.getElem?_setIfInBounds_ne (by omega)]
    · intro j hj
      cases j with
      | zero =>
        rw [Nat.add_zero, h3 o (by omega)]
        simp [Array.getElem?_setIfInBounds]
        omega
      | succ j =>
        have := h4 j (by simpa using hj)
        rw [show o + (j + 1) = o + 1 + j by omega, this]
        simp
    · intro j hj
      simp at hj
      rw [h5 j (by omega), Array.getElem?_setIfInBounds_ne (by omega)]
theorem setCells_heap_whole {w : World} {b : Nat} {C : Array Value} {t : TypeId} (cells : Array Value) (h : w.heap[b]? = some (.cells C t)) (hl : C.size = cells.size) : (w.setCells b 0 cells.toList).heap[b]? = some (.cells cells t) := by
  obtain ⟨D, h1, h2, _, h4, _⟩ := setCells_heap b cells.toList 0 w C t h (by simp; omega)
  rw [h1]
  congr 2
  apply Array.ext_getElem?
  intro j
  by_cases hj : j < cells.size
  · have := h4 j (by simpa using hj)
    simpa using this
  · rw [Array.getElem?_eq_none (by omega), Array.getElem?_eq_none (by omega)]

theorem cell_of_heap {w : World} {b : Nat} {C : Array Value} {t : TypeId} (h : w.heap[b]? = some (.cells C t)) (j : Nat) : w.cell? ⟨b, j, none⟩ = C[j]? := by
  unfold World.cell?
  simp [h]
theorem frozen_of_heap {w : World} {b : Nat} {C : Array Value} {t : TypeId} (h : w.heap[b]? = some (.cells C t)) (j : Nat) : w.frozen? ⟨b, j, none⟩ = false := by
  unfold World.frozen?
  simp [h]


theorem lt_of_heap {w : World} {g : Nat} {o : Obj} (h : w.heap[g]? = some o) : g < w.heap.size := by
  apply Classical.byContradiction
  intro hn
  rw [Array.getElem?_eq_none (by omega)] at h
  cases h
theorem heap_next {w w' : World} {g : Nat} {o : Obj} (h : w.heap[g]? = some o) (hb : Below w.heap.size w w') : w'.heap[g]? = some o := (hb.block g (lt_of_heap h)).trans h
theorem heap_alloc {w : World} {g : Nat} {o : Obj} (h : w.heap[g]? = some o) (o' : Obj) : (w.alloc o').heap[g]? = some o := (heap_past _ _ (lt_of_heap h)).trans h
theorem heap_1 (w : World) (A : Obj) : (w.alloc A).heap[w.heap.size]? = some A := heap_at _ _ rfl
theorem Below.refl_alloc (w : World) (o : Obj) : Below w.heap.size w (w.alloc o) := (Below.refl _ _).alloc (Nat.le_refl _) _
theorem below_cell {w w' : World} {a : Addr} {v : Value} (h : w.cell? a = some v) (hb : Below w.heap.size w w') : w'.cell? a = some v := by
  rw [hb.cell (cell_lt h)]
  exact h

/-- The zero skill; a skill that bears a description and a status. -/
noncomputable def skArr (d s : ByteArray) : Array Value := (Try.zeroCells42.setIfInBounds 2 (.string d)).setIfInBounds 9 (.string s)
theorem zero42_size : Try.zeroCells42.size = 77 := by kernel_rfl
theorem zero42_one : Try.zeroCells42.all (·.oneCell') = true := by kernel_rfl
theorem info42 : (Try.prog.info? 42).map (fun i => (i.zero, i.size, i.bytes)) = some (some (.agg Try.zeroCells42), 77, 272) := by kernel_rfl
theorem size42 : (Try.prog.info? 42).map (·.size) = some 77 := by kernel_rfl
theorem built42 (d s : ByteArray) : Try.prog.built 42 [(2, .string d), (9, .string s)] = some (skArr d s) := by kernel_rfl
theorem skArr_size (d s : ByteArray) : (skArr d s).size = 77 := by simp [skArr]
theorem all_set {cs : Array Value} (h : cs.all (·.oneCell') = true) (i : Nat) (v : Value) (hv : v.oneCell' = true) : (cs.setIfInBounds i v).all (·.oneCell') = true := by
  rw [Array.all_eq_true_iff_forall_mem] at h ⊢
  intro x hx
  rcases Array.mem_or_eq_of_mem_setIfInBounds hx with hx | hx
  · exact h x hx
  · subst hx; exact hv
theorem skArr_one (d s : ByteArray) : (skArr d s).all (·.oneCell') = true := all_set (all_set zero42_one 2 _ rfl) 9 _ rfl
theorem skArr_2 (d s : ByteArray) : (skArr d s)[2]? = some (.string d) := by
  unfold skArr
  rw [Array.getElem?_setIfInBounds_ne (by omega), Array.getElem?_setIfInBounds_self_of_lt (by rw [zero42_size]; omega)]
theorem skArr_9 (d s : ByteArray) : (skArr d s)[9]? = some (.string s) := by
  unfold skArr
  rw [Array.getElem?_setIfInBounds_self_of_lt (by rw [Array.size_setIfInBounds, zero42_size]; omega)]
theorem skArr_mark (d s : ByteArray) : (skArr d s).setIfInBounds 9 (.string d) = skArr d d := by
  unfold skArr
  rw [Array.setIfInBounds_setIfInBounds]

theorem al42 {ops : Array Oper} {rest : List Oper} {o : Oper} {a : Act} {w : World} {Q : Exit → Act → World → Prop} (hgd : o.guard = none) (ho : o.op = .alloc 42)
    (h : wpList Try.prog ops Q rest (a.put o.dst (.pointer (some ⟨w.heap.size, 0, none⟩))) (w.alloc (.cells Try.zeroCells42 42))) : wpList Try.prog ops Q (o :: rest) a w :=
  wpList_plain hgd fun K hK => by
    have hi := info42
    cases hq : Try.prog.info? 42 with
    | none => simp [hq] at hi
    | some i =>
      simp [hq] at hi
      obtain ⟨h1, h2, h3⟩ := hi
      unfold Oper.wp execOp
      simp only [ho, Instr.alloc]
      simp [zeroValue, typeInfo, hq, h1, newVar, newRow, Value.cells]
      exact hK _ _ h
theorem ld42 {ops : Array Oper} {rest : List Oper} {o : Oper} {a : Act} {w : World} {Q : Exit → Act → World → Prop} (hgd : o.guard = none) (x : Operand) (ho : o.op = .load 42 x) (g : Nat) (cs : Array Value)
    (hx : a.eval x = .pointer (some ⟨g, 0, none⟩)) (hs : cs.size = 77) (hg : w.heap[g]? = some (.cells cs 42)) (h : wpList Try.prog ops Q rest (a.put o.dst (.agg cs)) w) : wpList Try.prog ops Q (o :: rest) a w :=
  wpList_load_row hgd 42 x ho g hx 42 cs (0, 0) _ hg Try.underlying42 rfl (by rw [size42, hs]) h
theorem st42 {ops : Array Oper} {rest : List Oper} {o : Oper} {a : Act} {W : World} {Q : Exit → Act → World → Prop} (hgd : o.guard = none) (x y : Operand) (ho : o.op = .store 42 x y) (n : Nat) (C cells : Array Value)
    (hx : a.eval x = .pointer (some ⟨n, 0, none⟩)) (hy : a.eval y = .agg cells) (hs : cells.size = 77) (h1 : cells.all (·.oneCell') = true) (hC : C.size = 77) (hn : n = W.heap.size)
    (h : wpList Try.prog ops Q rest (a.put o.dst undef) (W.alloc (.cells cells 42))) : wpList Try.prog ops Q (o :: rest) a (W.alloc (.cells C 42)) :=
  wpList_store_new hgd 42 x y ho n C cells 42 hx hy hn (by omega) (by rw [size42, hs]) h1 h
theorem so42 {ops : Array Oper} {rest : List Oper} {o : Oper} {a : Act} {w : World} {Q : Exit → Act → World → Prop} (hgd : o.guard = none) (x y : Operand) (ho : o.op = .store 42 x y) (n : Nat) (C cells : Array Value)
    (hx : a.eval x = .pointer (some ⟨n, 0, none⟩)) (hy : a.eval y = .agg cells) (hs : cells.size = 77) (h1 : cells.all (·.oneCell') = true) (hC : C.size = 77) (hg : w.heap[n]? = some (.cells C 42))
    (h : wpList Try.prog ops Q rest (a.put o.dst undef) (w.setCells n 0 cells.toList)) : wpList Try.prog ops Q (o :: rest) a w := by
  refine wpList_store_mid hgd 42 x y ho n 0 cells hx hy ?_ (by rw [size42, hs]) h1 h
  intro j hj
  rw [Nat.zero_add, cell_of_heap hg, frozen_of_heap hg, Array.getElem?_eq_getElem (by omega)]
  exact ⟨rfl, rfl⟩
theorem ret42 {fn : Func} {p : Tmp} (h : fn.results = #[.cell p 42]) (tmps : Array Value) (w : World) (g : Nat) (cs : Array Value) (hp : tmps.getD p undef = .pointer (some ⟨g, 0, none⟩)) (hs : cs.size = 77) (hg : w.heap[g]? = some (.cells cs 42)) :
    (results fn tmps).run Try.prog w = .ok (.agg cs) w :=
  results_cell_row h tmps w g 42 cs (0, 0) _ hp hg Try.underlying42 rfl (by rw [size42, hs])

set_option maxRecDepth 100000 in
set_option maxHeartbeats 1000000 in
/-- The closure: the status that the description spells. -/
theorem mark_any (d s : ByteArray) (w : World) :
    Calls Try.prog 45 #[.agg (skArr d s)] w fun e w' => e = .returned (.agg (skArr d d)) ∧ Below w.heap.size w w' := by
  have hs' := hideIt (show ((skArr d s).setIfInBounds 9 (.string d)).size = 77 by rw [skArr_mark]; exact skArr_size d d)
  have h1' := hideIt (show ((skArr d s).setIfInBounds 9 (.string d)).all (·.oneCell') = true by rw [skArr_mark]; exact skArr_one d d)
  have D0 := hideIt (heap_alloc (heap_1 w (.cells (skArr d s) 42)) (.cells Try.zeroCells42 42))
  have D1 := hideIt (heap_alloc (heap_1 w (.cells ((skArr d s).setIfInBounds 9 (.string d)) 42)) (.cells Try.zeroCells42 42))
  have c2 : ((w.alloc (.cells (skArr d s) 42)).alloc (.cells Try.zeroCells42 42)).cell? ⟨w.heap.size, 2, none⟩ = some (.string d) := (cell_of_heap D0.out 2).trans (skArr_2 d s)
  have c9 : ((w.alloc (.cells (skArr d s) 42)).alloc (.cells Try.zeroCells42 42)).cell? ⟨w.heap.size, 9, none⟩ = some (.string s) := (cell_of_heap D0.out 9).trans (skArr_9 d s)
  have f9 := frozen_of_heap D0.out 9
  have e1 : (w.alloc (.cells (skArr d s) 42)).heap.size = w.heap.size + 1 := by simp
  go_enter Try.func45, Try.ntmps45
  go_wp2_with (first | refine al42 rfl rfl ?_ | refine ld42 rfl _ rfl w.heap.size ((skArr d s).setIfInBounds 9 (.string d)) rfl hs'.out D1.out ?_ | refine st42 rfl _ _ rfl _ _ _ rfl rfl hs'.out h1'.out zero42_size ?hn ?_)
  case hn => simp
  refine bodyPost_ret (ret42 Try.results45 _ _ (w.heap.size + 1) _ rfl hs'.out (heap_at _ _ (by simp))) rfl ⟨by rw [skArr_mark], ?_⟩
  exact ((Below.refl _ _).alloc (Nat.le_refl _) _).alloc (by simp) _

/-- A row of skills in a block: descriptions and statuses. -/
def SkRow (C : Array Value) (n : Nat) (v s : Nat → ByteArray) : Prop := ∀ j, j < n → ∀ i, i < 77 → C[j * 77 + i]? = (skArr (v j) (s j))[i]?
def SkAt (w : World) (b n : Nat) (v s : Nat → ByteArray) : Prop := ∃ C, w.heap[b]? = some (.cells C 42) ∧ SkRow C n v s
theorem SkAt.below {w w' : World} {b n : Nat} {v s : Nat → ByteArray} (h : SkAt w b n v s) (hb : Below w.heap.size w w') : SkAt w' b n v s := by
  obtain ⟨C, h1, h2⟩ := h
  exact ⟨C, heap_next h1 hb, h2⟩
theorem SkAt.cell {w : World} {b n : Nat} {v s : Nat → ByteArray} (h : SkAt w b n v s) {j : Nat} (hj : j < n) (i : Nat) (hi : i < 77) : w.cell? ⟨b, j * 77 + i, none⟩ = (skArr (v j) (s j))[i]? := by
  obtain ⟨C, h1, h2⟩ := h
  rw [cell_of_heap h1]
  exact h2 j hj i hi
theorem SkAt.range {w : World} {b n : Nat} {v s : Nat → ByteArray} (h : SkAt w b n v s) {j : Nat} (hj : j < n) : w.rangeAt b (j * 77) (skArr (v j) (s j)).toList := fun i u hu => by
  have hi : i < 77 := by
    have := (List.getElem?_eq_some_iff.1 hu).1
    rw [Array.length_toList, skArr_size] at this
    exact this
  rw [h.cell hj i hi]
  simpa using hu
theorem ldm42 {ops : Array Oper} {rest : List Oper} {o : Oper} {a : Act} {w : World} {Q : Exit → Act → World → Prop} (hgd : o.guard = none) (x : Operand) (ho : o.op = .load 42 x) (b k : Nat) (cs : Array Value)
    (hx : a.eval x = .pointer (some ⟨b, k, none⟩)) (hs : cs.size = 77) (hc : w.rangeAt b k cs.toList) (h : wpList Try.prog ops Q rest (a.put o.dst (.agg cs)) w) : wpList Try.prog ops Q (o :: rest) a w :=
  wpList_load_mid hgd 42 x ho b k hx cs.toList _ hc Try.underlying42 rfl (by rw [size42]; simp [hs]) (by simpa using h)

theorem nil53 (w : World) (a : Option Addr) (n c : Nat) : (binOp .eql 53 (.slice a n c) (.slice none 0 0)).run Try.prog w = .ok (.bool a.isNone) w := Lib.run_eql_slice_nil w 53 42 a n c 0 0 Try.underlying53
theorem nil23 (w : World) (a : Option Addr) (n c : Nat) : (binOp .eql 23 (.slice a n c) (.slice none 0 0)).run Try.prog w = .ok (.bool a.isNone) w := Lib.run_eql_slice_nil w 23 9 a n c 0 0 Try.underlying23

/-- The cells of a row of skills, one behind the other. -/
theorem row_cells {C : Array Value} {n : Nat} {v s : Nat → ByteArray} (h : SkRow C n v s) : ∃ xs : List Value, xs.length = n * 77 ∧ (∀ (j : Nat) (u : Value), xs[j]? = some u → C[j]? = some u) ∧ (∀ u ∈ xs, u.oneCell' = true) ∧ (∀ j, j < n → ∀ i, i < 77 → xs[j * 77 + i]? = (skArr (v j) (s j))[i]?) := by
  have hlen : n * 77 ≤ C.size := by
    cases n with
    | zero => omega
    | succ n =>
      have h1 := h n (by omega) 76 (by omega)
      have h2 : (skArr (v n) (s n))[76]? = some ((skArr (v n) (s n))[76]'(by rw [skArr_size]; omega)) := Array.getElem?_eq_getElem _
      rw [h2] at h1
      have := (Array.getElem?_eq_some_iff.1 h1).1
      omega
  refine ⟨C.toList.take (n * 77), by simp; omega, ?_, ?_, ?_⟩
  · intro j u hj
    rw [List.getElem?_take] at hj
    split at hj
    · simpa using hj
    · cases hj
  · intro u hu
    obtain ⟨j, hj⟩ := List.getElem?_of_mem hu
    rw [List.getElem?_take] at hj
    split at hj
    · rename_i hlt
      have e : j = (j / 77) * 77 + j % 77 := by omega
      have h1 := h (j / 77) (by omega) (j % 77) (by omega)
      rw [← e] at h1
      have h2 : C[j]? = some u := by simpa using hj
      rw [h2] at h1
      have h3 := Array.mem_of_getElem? h1.symm
      exact (Array.all_eq_true_iff_forall_mem.1 (skArr_one (v (j / 77)) (s (j / 77)))) u h3
    · cases hj
  · intro j hj i hi
    rw [List.getElem?_take, if_pos (by omega)]
    have := h j hj i hi
    simpa using this
attribute [irreducible] skArr
end Go.Proofs.Qxb6613557a
