import Derived.Test.Qxb6608758aDoorLeaf
import Derived.Deep.MidRow
namespace Go.Proofs.Qxb6608758aDoor
open Go.RowKit

theorem heap_at {w : World} (o : Obj) (n : Nat) (hn : n = w.heap.size) : (w.alloc o).heap[n]? = some o := by
  subst hn
  show (w.heap.push o)[w.heap.size]? = _
  simp
theorem heap_past {w : World} (o : Obj) (n : Nat) (hn : n < w.heap.size) : (w.alloc o).heap[n]? = w.heap[n]? := Below.heap_alloc w o n hn
theorem heap_drew {w : World} (n : Nat) : w.drew.heap[n]? = w.heap[n]? := rfl

theorem setCells_one (b : Nat) : ∀ (vs : List Value) (o : Nat) (w : World) (C : Array Value) (t : TypeId), b = w.heap.size → o + vs.length ≤ C.size →
    ∃ D : Array Value, (w.alloc (.cells C t)).setCells b o vs = w.alloc (.cells D t) ∧ D.size = C.size ∧ (∀ j, j < o → D[j]? = C[j]?) ∧ (∀ j, j < vs.length → D[o + j]? = vs[j]?) ∧ (∀ j, o + vs.length ≤ j → D[j]? = C[j]?)
  | [], o, w, C, t, _, _ => ⟨C, rfl, rfl, fun _ _ => rfl, fun _ h => by simp at h, fun _ _ => rfl⟩
  | v :: vs, o, w, C, t, hb, hs => by
    have e : (w.alloc (.cells C t)).setCells b o (v :: vs) = ((w.alloc (.cells C t)).setCell ⟨b, o, none⟩ v).setCells b (o + 1) vs := rfl
    rw [e, World.setCell_alloc_at C t b o v hb]
    simp at hs
    obtain ⟨D, h1, h2, h3, h4, h5⟩ := setCells_one b vs (o + 1) w (C.setIfInBounds o v) t hb (by simp; omega)
    refine ⟨D, h1, by simpa using h2, ?_, ?_, ?_⟩
    · intro j hj
      rw [h3 j (by omega), Array.getElem?_setIfInBounds_ne (by omega)]
    · intro j hj
      cases j with
      | zero =>
        rw [Nat.add_zero, h3 o (by omega)]
        simp [Array.getElem?_setIfInBounds]
        omega
      | succ j =>
        have := h4 j (by simpa using hj)
        rw [show o + (j + 1) = o + 1 + j by omega, this]
        simp
    · intro j hj
      simp at hj
      rw [h5 j (by omega), Array.getElem?_setIfInBounds_ne (by omega)]

/-- A whole block, new, overwritten whole. -/
theorem setCells_whole (w : World) (C : Array Value) (t : TypeId) (vs : List Value) (b : Nat) (hb : b = w.heap.size) (hl : vs.length = C.size) : (w.alloc (.cells C t)).setCells b 0 vs = w.alloc (.cells vs.toArray t) := by
  obtain ⟨D, h1, h2, _, h4, _⟩ := setCells_one b vs 0 w C t hb (by omega)
  rw [h1]
  congr 2
  apply Array.ext_getElem?
  intro j
  by_cases hj : j < vs.length
  · have := h4 j hj
    simpa using this
  · rw [Array.getElem?_eq_none (by omega)]
    simp
    omega

/-- A whole struct stored into the last block, new and as long. -/
theorem wpList_store_new {P : Program} {ops : Array Oper} {rest : List Oper} {op : Oper} {a : Act} {W : World} {Q : Exit → Act → World → Prop} (hgd : op.guard = none) (ty : TypeId) (x y : Operand) (ho : op.op = .store ty x y)
    (n : Nat) (C cells : Array Value) (t : TypeId) (hx : a.eval x = .pointer (some ⟨n, 0, none⟩)) (hy : a.eval y = .agg cells) (hn : n = W.heap.size) (hC : C.size = cells.size)
    (hi : (P.info? ty).map (·.size) = some cells.size) (h1 : cells.all (·.oneCell') = true)
    (h : wpList P ops Q rest (a.put op.dst undef) (W.alloc (.cells cells t))) : wpList P ops Q (op :: rest) a (W.alloc (.cells C t)) := by
  refine wpList_store_mid hgd ty x y ho n 0 cells hx hy ?_ hi h1 ?_
  · intro j hj
    rw [Nat.zero_add, World.cell?_alloc_at C t n j hn, World.frozen?_alloc_at C t n j hn]
    refine ⟨?_, rfl⟩
    rw [Array.getElem?_eq_getElem (by omega)]
    rfl
  · rw [setCells_whole W C t cells.toList n hn (by simp; omega)]
    simpa using h

theorem heap_3 (w : World) (A B C : Obj) : (((w.alloc A).alloc B).alloc C).heap[w.heap.size]? = some A := by
  rw [heap_past _ _ (by simp; omega), heap_past _ _ (by simp), heap_at _ _ rfl]
theorem heap_2 (w : World) (A B : Obj) : ((w.alloc A).alloc B).heap[w.heap.size]? = some A := by
  rw [heap_past _ _ (by simp), heap_at _ _ rfl]
theorem heap_1 (w : World) (A : Obj) : (w.alloc A).heap[w.heap.size]? = some A := heap_at _ _ rfl
theorem info50 : (Tryd.prog.info? 50).map (·.size) = some 17 := by kernel_rfl
theorem info47 : (Tryd.prog.info? 47).map (·.size) = some 10 := by kernel_rfl
theorem info26 : (Tryd.prog.info? 26).map (·.size) = some 10 := by kernel_rfl
theorem all_set {cs : Array Value} (h : cs.all (·.oneCell') = true) (i : Nat) (v : Value) (hv : v.oneCell' = true) : (cs.setIfInBounds i v).all (·.oneCell') = true := by
  rw [Array.all_eq_true_iff_forall_mem] at h ⊢
  intro x hx
  rcases Array.mem_or_eq_of_mem_setIfInBounds hx with h1 | h1
  · exact h x h1
  · rw [h1]; exact hv

theorem ld50 {ops : Array Oper} {rest : List Oper} {o : Oper} {a : Act} {w : World} {Q : Exit → Act → World → Prop} (hgd : o.guard = none) (x : Operand) (ho : o.op = .load 50 x) (g : Nat) (cs : Array Value)
    (hx : a.eval x = .pointer (some ⟨g, 0, none⟩)) (hs : cs.size = 17) (hg : w.heap[g]? = some (.cells cs 50)) (h : wpList Tryd.prog ops Q rest (a.put o.dst (.agg cs)) w) : wpList Tryd.prog ops Q (o :: rest) a w :=
  wpList_load_row hgd 50 x ho g hx 50 cs (0, 0) _ hg Tryd.underlying50 rfl (by rw [info50, hs]) h
theorem st50 {ops : Array Oper} {rest : List Oper} {o : Oper} {a : Act} {W : World} {Q : Exit → Act → World → Prop} (hgd : o.guard = none) (x y : Operand) (ho : o.op = .store 50 x y) (n : Nat) (C cells : Array Value)
    (hx : a.eval x = .pointer (some ⟨n, 0, none⟩)) (hy : a.eval y = .agg cells) (hs : cells.size = 17) (h1 : cells.all (·.oneCell') = true) (hC : C.size = 17) (hn : n = W.heap.size)
    (h : wpList Tryd.prog ops Q rest (a.put o.dst undef) (W.alloc (.cells cells 50))) : wpList Tryd.prog ops Q (o :: rest) a (W.alloc (.cells C 50)) :=
  wpList_store_new hgd 50 x y ho n C cells 50 hx hy hn (by omega) (by rw [info50, hs]) h1 h
theorem ret50 {fn : Func} {p : Tmp} (h : fn.results = #[.cell p 50]) (tmps : Array Value) (w : World) (g : Nat) (cs : Array Value) (hp : tmps.getD p undef = .pointer (some ⟨g, 0, none⟩)) (hs : cs.size = 17) (hg : w.heap[g]? = some (.cells cs 50)) :
    (results fn tmps).run Tryd.prog w = .ok (.agg cs) w :=
  results_cell_row h tmps w g 50 cs (0, 0) _ hp hg Tryd.underlying50 rfl (by rw [info50, hs])

set_option maxHeartbeats 400000 in
theorem withLinks_any (cs : Array Value) (x : Value) (hs : cs.size = 17) (hx : cs[16]? = some x) (h1 : cs.all (·.oneCell') = true) (db nx : ByteArray) (w : World) :
    Calls Tryd.prog 12 #[.agg cs, .agg #[.string db, .string nx]] w fun e w' => ∃ g, e = .returned (.agg (cs.setIfInBounds 16 (.pointer (some ⟨g, 0, none⟩)))) ∧ w.heap.size ≤ g ∧ g < w'.heap.size ∧ w'.cell? ⟨g, 0, none⟩ = some (.string db) ∧ w'.cell? ⟨g, 1, none⟩ = some (.string nx) ∧ Below w.heap.size w w' := by
  have hs' : (cs.setIfInBounds 16 (.pointer (some ⟨w.heap.size + 1, 0, none⟩))).size = 17 := by simp [hs]
  have HS : Hid (cs.size = 17) := hs
  have h1' := all_set h1 16 (.pointer (some ⟨w.heap.size + 1, 0, none⟩)) rfl
  have H1 : Hid ((cs.setIfInBounds 16 (.pointer (some ⟨w.heap.size + 1, 0, none⟩))).all (·.oneCell') = true) := h1'
  have HS' : Hid ((cs.setIfInBounds 16 (.pointer (some ⟨w.heap.size + 1, 0, none⟩))).size = 17) := hs'
  clear h1 h1' hs' hs
  go_enter Tryd.func12, Tryd.ntmps12
  go_wp2_with (first | refine ld50 rfl _ rfl w.heap.size (cs.setIfInBounds 16 (.pointer (some ⟨w.heap.size + 1, 0, none⟩))) rfl HS'.out ?hg ?_ | refine st50 rfl _ _ rfl _ _ _ rfl rfl HS'.out H1.out rfl ?hn ?_)
  case hg => exact heap_3 _ _ _ _
  case hn => simp
  refine bodyPost_ret (ret50 Tryd.results12 _ _ (w.heap.size + 1 + 1) _ rfl HS'.out (heap_at _ _ (by simp))) rfl ⟨w.heap.size + 1, rfl, by omega, by simp, by simp [go_sem], by simp [go_sem], ?_⟩
  exact (((Below.refl _ _).alloc (Nat.le_refl _) _).alloc (by simp) _).alloc (by simp; omega) _

/-! ### The meta as a list of values; the document -/
structure MV where
  rep : ByteArray
  api : ByteArray
  sch : ByteArray
  mo : Bool
  dr : Option Addr
  da : Option Addr
  ts : ByteArray
  pa : Option Addr
  pl : Nat
  pc : Nat
  im : ByteArray
  wa : Option Addr
  wl : Nat
  wc : Nat
def MV.arr (m : MV) : Array Value := #[.string m.rep, .string m.api, .string m.sch, .bool m.mo, .pointer m.dr, .pointer m.da, .string m.ts, .slice m.pa m.pl m.pc, .string m.im, .slice m.wa m.wl m.wc]
def docArr (dv : Value) (ia : Option Addr) (il ic : Nat) (m : MV) (lk : Option Addr) : Array Value :=
  #[.string s11, .string sOpt, .string s120, dv, .slice ia il ic, .slice none 0 0, .string m.rep, .string m.api, .string m.sch, .bool m.mo, .pointer m.dr, .pointer m.da, .string m.ts, .slice m.pa m.pl m.pc, .string m.im, .slice m.wa m.wl m.wc, .pointer lk]
theorem docArr_size (dv : Value) (ia : Option Addr) (il ic : Nat) (m : MV) (lk : Option Addr) : (docArr dv ia il ic m lk).size = 17 := rfl
theorem docArr_one (t : TypeId) (v : Value) (ia : Option Addr) (il ic : Nat) (m : MV) (lk : Option Addr) : (docArr (.iface t v) ia il ic m lk).all (·.oneCell') = true := by simp [docArr, Value.oneCell']
theorem docArr_links (dv : Value) (ia : Option Addr) (il ic : Nat) (m : MV) (lk lk' : Option Addr) : (docArr dv ia il ic m lk).setIfInBounds 16 (.pointer lk') = docArr dv ia il ic m lk' := rfl
theorem docArr_inc (dv : Value) (ia ia' : Option Addr) (il ic il' ic' : Nat) (m : MV) (lk : Option Addr) : (docArr dv ia il ic m lk).setIfInBounds 4 (.slice ia' il' ic') = docArr dv ia' il' ic' m lk := rfl

/-- jsonapi, as the program's text lays it. -/
def Laid (w : World) : Prop := w.cell? ⟨0, 0, none⟩ = some (.string s11) ∧ w.cell? ⟨0, 1, none⟩ = some (.string sOpt) ∧ w.cell? ⟨0, 2, none⟩ = some (.string s120) ∧ 0 < w.heap.size
theorem Laid.below {w w' : World} {B : Nat} (h : Laid w) (hb : Below B w w') (hB : 0 < B) : Laid w' := by
  obtain ⟨a, b, c, d⟩ := h
  refine ⟨?_, ?_, ?_, Nat.lt_of_lt_of_le d hb.size⟩
  · rw [hb.cell (p := ⟨0, 0, none⟩) hB]; exact a
  · rw [hb.cell (p := ⟨0, 1, none⟩) hB]; exact b
  · rw [hb.cell (p := ⟨0, 2, none⟩) hB]; exact c

def resV (t id : ByteArray) : Value := .agg #[.string t, .string id, .nilIface, .nilIface]

theorem withLinks_doc (t : TypeId) (v : Value) (ia : Option Addr) (il ic : Nat) (m : MV) (lk : Option Addr) (db nx : ByteArray) (w : World) :
    Calls Tryd.prog 12 #[.agg (docArr (.iface t v) ia il ic m lk), .agg #[.string db, .string nx]] w fun e w' => ∃ g, e = .returned (.agg (docArr (.iface t v) ia il ic m (some ⟨g, 0, none⟩))) ∧ w'.cell? ⟨g, 0, none⟩ = some (.string db) ∧ w'.cell? ⟨g, 1, none⟩ = some (.string nx) ∧ g < w'.heap.size ∧ Below w.heap.size w w' := by
  refine (withLinks_any _ _ (docArr_size _ _ _ _ _ _) rfl (docArr_one _ _ _ _ _ _ _) db nx w).mono ?_
  rintro e w' ⟨g, rfl, h1, h2, h3, h4, h5⟩
  exact ⟨g, by rw [docArr_links], h3, h4, h2, h5⟩

set_option maxHeartbeats 1000000 in
theorem single_any (t id : ByteArray) (m : MV) (w : World) (hl : Laid w) :
    Calls Tryd.prog 17 #[resV t id, .agg m.arr] w fun e w' => e = .returned (.agg (docArr (.iface 60 (resV t id)) none 0 0 m none)) ∧ Below w.heap.size w w' := by
  obtain ⟨rep, api, sch, mo, dr, da, ts, pa, pl, pc, im, wa, wl, wc⟩ := m
  obtain ⟨g0, g1, g2, g3⟩ := hl
  simp only [MV.arr, resV]
  have K : Hid ((#[Value.string s11, .string sOpt, .string s120, .iface 60 (.agg #[.string t, .string id, .nilIface, .nilIface]), .slice none 0 0, .slice none 0 0, .string rep, .string api, .string sch, .bool mo, .pointer dr, .pointer da, .string ts, .slice pa pl pc, .string im, .slice wa wl wc, .pointer none] : Array Value).all (·.oneCell') = true) := docArr_one 60 _ none 0 0 ⟨rep, api, sch, mo, dr, da, ts, pa, pl, pc, im, wa, wl, wc⟩ none
  go_enter Tryd.func17, Tryd.ntmps17
  go_wp2_with (first | refine st50 rfl _ _ rfl _ _ _ rfl rfl rfl K.out rfl ?hn ?_)
  case hn => simp
  refine bodyPost_ret (ret50 Tryd.results17 _ _ (w.heap.size + 1 + 1) _ rfl rfl (heap_at _ _ (by simp))) rfl ⟨rfl, ?_⟩
  exact (((Below.refl _ _).alloc (Nat.le_refl _) _).alloc (by simp) _).alloc (by simp; omega) _

theorem assert60 (v : Value) (w : World) : (Instr.typeAssert (.iface 60 v) 20 60 true).run Tryd.prog w = .ok (.tuple #[v, .bool true]) w := by kernel_rfl
theorem assert9 (v : Value) (w : World) : (Instr.typeAssert (.iface 9 v) 20 9 true).run Tryd.prog w = .ok (.tuple #[v, .bool true]) w := by kernel_rfl
set_option maxHeartbeats 1000000 in
theorem dataRes_any (t id : ByteArray) (ia : Option Addr) (il ic : Nat) (m : MV) (lk : Option Addr) (w : World) :
    Calls Tryd.prog 18 #[.agg (docArr (.iface 60 (resV t id)) ia il ic m lk)] w fun e w' => e = .returned (.tuple #[.string t, .string id, .bool true]) ∧ Below w.heap.size w w' := by
  have g3 : (docArr (.iface 60 (resV t id)) ia il ic m lk)[3]? = some (.iface 60 (.agg #[.string t, .string id, .nilIface, .nilIface])) := rfl
  have hs : Hid ((docArr (.iface 60 (resV t id)) ia il ic m lk).size = 17) := rfl
  generalize docArr (.iface 60 (resV t id)) ia il ic m lk = D at *
  have ha := assert60
  go_enter Tryd.func18, Tryd.ntmps18
  go_wp2
  go_quiet (fail)
  go_wp2
  go_ret3
  exact ⟨rfl, below_drewN (((Below.refl _ _).alloc (Nat.le_refl _) _).alloc (by simp) _) _⟩

set_option maxHeartbeats 1000000 in
theorem dataStr_any (info : ByteArray) (ia : Option Addr) (il ic : Nat) (m : MV) (lk : Option Addr) (w : World) :
    Calls Tryd.prog 25 #[.agg (docArr (.iface 9 (.string info)) ia il ic m lk)] w fun e w' => e = .returned (.tuple #[.string info, .bool true]) ∧ Below w.heap.size w w' := by
  have g3 : (docArr (.iface 9 (.string info)) ia il ic m lk)[3]? = some (.iface 9 (.string info)) := rfl
  have hs : Hid ((docArr (.iface 9 (.string info)) ia il ic m lk).size = 17) := rfl
  generalize docArr (.iface 9 (.string info)) ia il ic m lk = D at *
  have ha := assert9
  go_enter Tryd.func25, Tryd.ntmps25
  go_wp2
  go_ret2
  exact ⟨rfl, (Below.refl _ _).alloc (Nat.le_refl _) _⟩

set_option maxHeartbeats 1000000 in
theorem entryInfo_any (info : ByteArray) (m : MV) (w : World) (hl : Laid w) :
    Calls Tryd.prog 23 #[.iface 9 (.string info), .agg m.arr] w fun e w' => e = .returned (.agg (docArr (.iface 9 (.string info)) none 0 0 m none)) ∧ Below w.heap.size w w' := by
  obtain ⟨rep, api, sch, mo, dr, da, ts, pa, pl, pc, im, wa, wl, wc⟩ := m
  obtain ⟨g0, g1, g2, g3⟩ := hl
  simp only [MV.arr]
  have K : Hid ((#[Value.string s11, .string sOpt, .string s120, .iface 9 (.string info), .slice none 0 0, .slice none 0 0, .string rep, .string api, .string sch, .bool mo, .pointer dr, .pointer da, .string ts, .slice pa pl pc, .string im, .slice wa wl wc, .pointer none] : Array Value).all (·.oneCell') = true) := docArr_one 9 _ none 0 0 ⟨rep, api, sch, mo, dr, da, ts, pa, pl, pc, im, wa, wl, wc⟩ none
  go_enter Tryd.func23, Tryd.ntmps23
  go_wp2_with (first | refine st50 rfl _ _ rfl _ _ _ rfl rfl rfl K.out rfl ?hn ?_)
  case hn => simp
  refine bodyPost_ret (ret50 Tryd.results23 _ _ (w.heap.size + 1) _ rfl rfl (heap_at _ _ (by simp))) rfl ⟨rfl, ?_⟩
  exact ((Below.refl _ _).alloc (Nat.le_refl _) _).alloc (by simp) _

/-- A whole struct stored into an old block of the call's own, as long. -/
theorem Below.setCells {B : Nat} {a : World} (b : Nat) (hb : B ≤ b) : ∀ (vs : List Value) (o : Nat) (w : World), Below B a w → Below B a (w.setCells b o vs)
  | [], _, _, h => h
  | v :: vs, o, w, h => Below.setCells b hb vs (o + 1) (w.setCell ⟨b, o, none⟩ v) (h.setCell (p := ⟨b, o, none⟩) hb v)

theorem setCell_heap {w : World} {b o : Nat} {v : Value} {C : Array Value} {t : TypeId} (h : w.heap[b]? = some (.cells C t)) : (w.setCell ⟨b, o, none⟩ v).heap[b]? = some (.cells (C.setIfInBounds o v) t) := by
  simp [World.setCell, Array.getElem?_modify, h]
theorem setCells_heap (b : Nat) : ∀ (vs : List Value) (o : Nat) (w : World) (C : Array Value) (t : TypeId), w.heap[b]? = some (.cells C t) → o + vs.length ≤ C.size →
    ∃ D : Array Value, (w.setCells b o vs).heap[b]? = some (.cells D t) ∧ D.size = C.size ∧ (∀ j, j < o → D[j]? = C[j]?) ∧ (∀ j, j < vs.length → D[o + j]? = vs[j]?) ∧ (∀ j, o + vs.length ≤ j → D[j]? = C[j]?)
  | [], o, w, C, t, h, _ => ⟨C, h, rfl, fun _ _ => rfl, fun _ h => by simp at h, fun _ _ => rfl⟩
  | v :: vs, o, w, C, t, h, hs => by
    have e : w.setCells b o (v :: vs) = (w.setCell ⟨b, o, none⟩ v).setCells b (o + 1) vs := rfl
    rw [e]
    simp at hs
    obtain ⟨D, h1, h2, h3, h4, h5⟩ := setCells_heap b vs (o + 1) (w.setCell ⟨b, o, none⟩ v) (C.setIfInBounds o v) t (setCell_heap h) (by simp; omega)
    refine ⟨D, h1, by simpa using h2, ?_, ?_, ?_⟩
    · intro j hj
      rw [h3 j (by omega), Array.getElem?_setIfInBounds_ne (by omega)]
    · intro j hj
      cases j with
      | zero =>
        rw [Nat.add_zero, h3 o (by omega)]
        simp [Array.getElem?_setIfInBounds]
        omega
      | succ j =>
        have := h4 j (by simpa using hj)
        rw [show o + (j + 1) = o + 1 + j by omega, this]
        simp
    · intro j hj
      simp at hj
      rw [h5 j (by omega), Array.getElem?_setIfInBounds_ne (by omega)]
theorem setCells_heap_whole {w : World} {b : Nat} {C : Array Value} {t : TypeId} (cells : Array Value) (h : w.heap[b]? = some (.cells C t)) (hl : C.size = cells.size) : (w.setCells b 0 cells.toList).heap[b]? = some (.cells cells t) := by
  obtain ⟨D, h1, h2, _, h4, _⟩ := setCells_heap b cells.toList 0 w C t h (by simp; omega)
  rw [h1]
  congr 2
  apply Array.ext_getElem?
  intro j
  by_cases hj : j < cells.size
  · have := h4 j (by simpa using hj)
    simpa using this
  · rw [Array.getElem?_eq_none (by omega), Array.getElem?_eq_none (by omega)]

theorem cell_of_heap {w : World} {b : Nat} {C : Array Value} {t : TypeId} (h : w.heap[b]? = some (.cells C t)) (j : Nat) : w.cell? ⟨b, j, none⟩ = C[j]? := by
  unfold World.cell?
  simp [h]
theorem frozen_of_heap {w : World} {b : Nat} {C : Array Value} {t : TypeId} (h : w.heap[b]? = some (.cells C t)) (j : Nat) : w.frozen? ⟨b, j, none⟩ = false := by
  unfold World.frozen?
  simp [h]

/-- A whole struct stored into a block that is known whole, as long. -/
theorem so50 {ops : Array Oper} {rest : List Oper} {o : Oper} {a : Act} {w : World} {Q : Exit → Act → World → Prop} (hgd : o.guard = none) (x y : Operand) (ho : o.op = .store 50 x y) (n : Nat) (C cells : Array Value)
    (hx : a.eval x = .pointer (some ⟨n, 0, none⟩)) (hy : a.eval y = .agg cells) (hs : cells.size = 17) (h1 : cells.all (·.oneCell') = true) (hC : C.size = 17) (hg : w.heap[n]? = some (.cells C 50))
    (h : wpList Tryd.prog ops Q rest (a.put o.dst undef) (w.setCells n 0 cells.toList)) : wpList Tryd.prog ops Q (o :: rest) a w := by
  refine wpList_store_mid hgd 50 x y ho n 0 cells hx hy ?_ (by rw [info50, hs]) h1 h
  intro j hj
  rw [Nat.zero_add, cell_of_heap hg, frozen_of_heap hg, Array.getElem?_eq_getElem (by omega)]
  exact ⟨rfl, rfl⟩

set_option maxHeartbeats 1000000 in
theorem zzEntry_any (info : ByteArray) (m : MV) (w : World) (hl : Laid w) :
    Calls Tryd.prog 10 #[.string info, .agg m.arr] w fun e w' => e = .returned (.agg (docArr (.iface 9 (.string info)) none 0 0 m none)) ∧ Below w.heap.size w w' := by
  obtain ⟨rep, api, sch, mo, dr, da, ts, pa, pl, pc, im, wa, wl, wc⟩ := m
  simp only [MV.arr]
  go_enter Tryd.func10, Tryd.ntmps10
  go_wp2_with fail
  refine (entryInfo_any info ⟨rep, api, sch, mo, dr, da, ts, pa, pl, pc, im, wa, wl, wc⟩ _ ?_).mono ?_
  · exact (hl.below ((Below.refl w.heap.size w).alloc (Nat.le_refl _) _) hl.2.2.2).below ((Below.refl (w.heap.size + 1) _).alloc (by simp) _) (by omega)
  rintro e w1 ⟨rfl, hb⟩
  have hg := hb.block (w.heap.size + 1) (by simp)
  rw [heap_at _ _ (by simp)] at hg
  have HG := hg
  have hbb := (((Below.refl w.heap.size w).alloc (Nat.le_refl _) _).alloc (by simp) _).trans (hb.mono (by simp; omega))
  have HB : Hid (Below w.heap.size w w1) := hbb
  clear hb hbb hg
  have HH : Hid (w1.heap[w.heap.size + 1]? = some (.cells _ 50)) := HG
  clear HG
  generalize hD : docArr (.iface 9 (.string info)) none 0 0 ⟨rep, api, sch, mo, dr, da, ts, pa, pl, pc, im, wa, wl, wc⟩ none = D
  have HS : Hid (D.size = 17) := by rw [← hD]; rfl
  have H1 : Hid (D.all (·.oneCell') = true) := by rw [← hD]; exact docArr_one _ _ _ _ _ _ _
  have HD := show Hid (_ = D) from hD
  clear hD
  go_wp2_with (first | refine so50 rfl _ _ rfl (w.heap.size + 1) _ D rfl rfl HS.out H1.out rfl HH.out ?_)
  refine bodyPost_ret (ret50 Tryd.results10 _ _ (w.heap.size + 1) D rfl HS.out (setCells_heap_whole D HH.out (by rw [HS.out]; rfl))) rfl ⟨by rw [HD.out], ?_⟩
  exact Below.setCells _ (by omega) _ _ _ HB.out

abbrev zero50 : Array Value := #[.string ⟨#[]⟩, .string ⟨#[]⟩, .string ⟨#[]⟩, .nilIface, .slice none 0 0, .slice none 0 0, .string ⟨#[]⟩, .string ⟨#[]⟩, .string ⟨#[]⟩, .bool false, .pointer none, .pointer none, .string ⟨#[]⟩, .slice none 0 0, .string ⟨#[]⟩, .slice none 0 0, .pointer none]
theorem nil38 (w : World) (a : Option Addr) (n c : Nat) : (binOp .eql 38 (.slice a n c) (.slice none 0 0)).run Tryd.prog w = .ok (.bool a.isNone) w := Lib.run_eql_slice_nil w 38 60 a n c 0 0 Tryd.underlying38

set_option maxHeartbeats 1000000 in
theorem withInc_some (t : TypeId) (v : Value) (ia : Option Addr) (il ic : Nat) (m : MV) (lk : Option Addr) (a : Addr) (n c : Nat) (w : World) :
    Calls Tryd.prog 13 #[.agg (docArr (.iface t v) ia il ic m lk), .slice (some a) n c] w fun e w' => e = .returned (.agg (docArr (.iface t v) (some a) n c m lk)) ∧ Below w.heap.size w w' := by
  have g4 : (docArr (.iface t v) ia il ic m lk)[4]? = some (.slice ia il ic) := rfl
  have HE := show Hid ((docArr (.iface t v) ia il ic m lk).setIfInBounds 4 (.slice (some a) n c) = docArr (.iface t v) (some a) n c m lk) from docArr_inc _ _ _ _ _ _ _ _ _
  have HS' := show Hid (((docArr (.iface t v) ia il ic m lk).setIfInBounds 4 (.slice (some a) n c)).size = 17) from rfl
  have H1' := show Hid (((docArr (.iface t v) ia il ic m lk).setIfInBounds 4 (.slice (some a) n c)).all (·.oneCell') = true) from all_set (docArr_one _ _ _ _ _ _ _) 4 _ rfl
  have HS := show Hid ((docArr (.iface t v) ia il ic m lk).size = 17) from rfl
  generalize docArr (.iface t v) ia il ic m lk = D at *
  have hnil := nil38
  go_enter Tryd.func13, Tryd.ntmps13
  go_wp2_with (first | refine ld50 rfl _ rfl w.heap.size (D.setIfInBounds 4 (.slice (some a) n c)) rfl HS'.out ?hg ?_ | refine st50 rfl _ _ rfl _ _ _ rfl rfl HS'.out H1'.out rfl ?hn ?_)
  case hg => exact heap_2 _ _ _
  case hn => simp
  refine bodyPost_ret (ret50 Tryd.results13 _ _ (w.heap.size + 1) _ rfl HS'.out (heap_at _ _ (by simp))) rfl ⟨by rw [HE.out], ?_⟩
  exact ((Below.refl _ _).alloc (Nat.le_refl _) _).alloc (by simp) _

set_option maxHeartbeats 1000000 in
theorem withInc_nil (t : TypeId) (v : Value) (ia : Option Addr) (il ic : Nat) (m : MV) (lk : Option Addr) (w : World) :
    Calls Tryd.prog 13 #[.agg (docArr (.iface t v) ia il ic m lk), .slice none 0 0] w fun e w' => ∃ g, e = .returned (.agg (docArr (.iface t v) (some ⟨g, 0, none⟩) 0 0 m lk)) ∧ Below w.heap.size w w' := by
  have g4 : (docArr (.iface t v) ia il ic m lk)[4]? = some (.slice ia il ic) := rfl
  have HE := show Hid (∀ g, (docArr (.iface t v) ia il ic m lk).setIfInBounds 4 (.slice (some ⟨g, 0, none⟩) 0 0) = docArr (.iface t v) (some ⟨g, 0, none⟩) 0 0 m lk) from fun g => docArr_inc _ _ _ _ _ _ _ _ _
  have HS' := show Hid (∀ g, ((docArr (.iface t v) ia il ic m lk).setIfInBounds 4 (.slice (some ⟨g, 0, none⟩) 0 0)).size = 17) from fun _ => rfl
  have H1' := show Hid (∀ g, ((docArr (.iface t v) ia il ic m lk).setIfInBounds 4 (.slice (some ⟨g, 0, none⟩) 0 0)).all (·.oneCell') = true) from fun _ => all_set (docArr_one _ _ _ _ _ _ _) 4 _ rfl
  have HS := show Hid ((docArr (.iface t v) ia il ic m lk).size = 17) from rfl
  generalize docArr (.iface t v) ia il ic m lk = D at *
  have hnil := nil38
  go_enter Tryd.func13, Tryd.ntmps13
  go_wp2_with (first | refine ld50 rfl _ rfl w.heap.size (D.setIfInBounds 4 (.slice (some ⟨w.heap.size + 1 + 1, 0, none⟩) 0 0)) rfl (HS'.out _) ?hg ?_ | refine so50 rfl _ _ rfl (w.heap.size + 1) zero50 _ rfl rfl (HS'.out _) (H1'.out _) rfl ?hh ?_)
  case hg => exact heap_3 _ _ _ _
  case hh => rw [heap_past _ _ (by simp), heap_at _ _ (by simp)]
  refine bodyPost_ret (ret50 Tryd.results13 _ _ (w.heap.size + 1) _ rfl (HS'.out _) (setCells_heap_whole (C := zero50) _ (by rw [heap_past _ _ (by simp), heap_at _ _ (by simp)]) (by rw [HS'.out]; rfl))) rfl ⟨_, by rw [HE.out], ?_⟩
  exact Below.setCells _ (by omega) _ _ _ ((((Below.refl _ _).alloc (Nat.le_refl _) _).alloc (by simp) _).alloc (by simp; omega) _)
end Go.Proofs.Qxb6608758aDoor
