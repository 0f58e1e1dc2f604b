import Derived.Test.Qxb6608758aDoorMem
import Derived.Deep.DeepCutAuto
import Derived.Deep.OwnRows
namespace Go.Proofs.Qxb6608758aDoor
open Go.RowKit

theorem hideIt {p : Prop} (h : p) : Hid p := h
/-- The call's two own blocks stand as they were laid. -/
def Two (w : World) (A B : Array Value) (w' : World) : Prop := Below (w.heap.size + 2) ((w.alloc (.cells A 26)).alloc (.cells B 47)) w'
theorem Two.start (w : World) (A B : Array Value) : Two w A B ((w.alloc (.cells A 26)).alloc (.cells B 47)) := Below.refl _ _
theorem Two.size {w w' : World} {A B : Array Value} (h : Two w A B w') : w.heap.size + 2 ≤ w'.heap.size := by have := Below.size h; simpa using this
theorem Two.next {w w' w'' : World} {A B : Array Value} (h : Two w A B w') (hb : Below w'.heap.size w' w'') : Two w A B w'' := Below.trans h (hb.mono h.size)
theorem Two.drew {w w' : World} {A B : Array Value} (h : Two w A B w') : Two w A B w'.drew := Below.drew h
theorem Two.below {w w' : World} {A B : Array Value} (h : Two w A B w') : Below w.heap.size w w' := (((Below.refl w.heap.size w).alloc (Nat.le_refl _) _).alloc (by simp) _).trans (Below.mono h (by omega))
theorem Two.cellA {w w' : World} {A B : Array Value} (h : Two w A B w') (j : Nat) : w'.cell? ⟨w.heap.size, j, none⟩ = A[j]? := by
  rw [Below.cell h (by simp)]; simp [go_sem]
theorem Two.heapB {w w' : World} {A B : Array Value} (h : Two w A B w') : w'.heap[w.heap.size + 1]? = some (.cells B 47) := by
  rw [Below.block h _ (by omega), heap_at _ _ (by simp)]

/-- A new row behind W, its block number g, filled so far with C. -/
def Fill (W : World) (g : Nat) (E : TypeId) (C : Array Value) (wr : World) : Prop := g = W.heap.size ∧ Below W.heap.size W wr ∧ wr.heap[g]? = some (.cells C E)
theorem Fill.start (W : World) (g : Nat) (hg : g = W.heap.size) (E : TypeId) (C : Array Value) : Fill W g E C (W.alloc (.cells C E)) := ⟨hg, (Below.refl _ _).alloc (Nat.le_refl _) _, heap_at _ _ hg⟩
theorem Fill.set {W wr : World} {g : Nat} {E : TypeId} {C : Array Value} (h : Fill W g E C wr) (j : Nat) (v : Value) : Fill W g E (C.setIfInBounds j v) (wr.setCell ⟨g, j, none⟩ v) :=
  ⟨h.1, h.2.1.setCell (p := ⟨g, j, none⟩) (Nat.le_of_eq h.1.symm) v, setCell_heap h.2.2⟩
theorem Fill.drew {W wr : World} {g : Nat} {E : TypeId} {C : Array Value} (h : Fill W g E C wr) : Fill W g E C wr.drew := ⟨h.1, h.2.1.drew, h.2.2⟩
theorem Fill.cell {W wr : World} {g : Nat} {E : TypeId} {C : Array Value} (h : Fill W g E C wr) (j : Nat) : wr.cell? ⟨g, j, none⟩ = C[j]? := cell_of_heap h.2.2 j
theorem Fill.frozen {W wr : World} {g : Nat} {E : TypeId} {C : Array Value} (h : Fill W g E C wr) (j : Nat) : wr.frozen? ⟨g, j, none⟩ = false := frozen_of_heap h.2.2 j
theorem Fill.old {W wr : World} {g : Nat} {E : TypeId} {C : Array Value} (h : Fill W g E C wr) {a : Addr} {v : Value} (hc : W.cell? a = some v) : wr.cell? a = some v := by rw [h.2.1.cell (cell_lt hc)]; exact hc

theorem Tryd.info5 : (Tryd.prog.info? 5).map (fun i => (i.zero, i.size, i.bytes)) = some (some (.int .u8 0), 1, 1) := by kernel_rfl
theorem make23 (n : Nat) (hn : n ≤ 140737488355328) (w : World) : (Instr.makeSlice 23 (.int .i64 (n : Int)) (.int .i64 (n : Int))).run Tryd.prog w = .ok (.slice (some ⟨w.heap.size, 0, none⟩) n n) (w.alloc (.cells (madeCells #[.int .u8 0] n) 5)) :=
  run_make_row' 23 5 (.int .u8 0) 1 Tryd.underlying23 Tryd.info5 rfl .i64 .i64 n (by omega) (by omega) w

theorem Tryd.info73 : (Tryd.prog.info? 73).map (fun i => (i.zero, i.size, i.bytes)) = some (some (.agg #[.string ⟨#[]⟩, .string ⟨#[]⟩]), 2, 32) := by kernel_rfl
theorem make45 (n : Nat) (hn : n * 32 ≤ 140737488355328) (w : World) : (Instr.makeSlice 45 (.int .i64 (n : Int)) (.int .i64 (n : Int))).run Tryd.prog w = .ok (.slice (some ⟨w.heap.size, 0, none⟩) n n) (w.alloc (.cells (madeCells #[.string ⟨#[]⟩, .string ⟨#[]⟩] (n * 2)) 73)) := by
  obtain ⟨i, hi, hz, hs, hb⟩ := info_parts Tryd.info73
  have hb' : (i.bytes : Int) * (n : Int) ≤ 281474976710656 := by rw [hb]; omega
  have hr := run_make (P := Tryd.prog) w 45 73 i _ Tryd.underlying45 hi hz .i64 .i64 n n (by omega) (Int.le_refl _) hb' (by omega)
  simp only [Int.toNat_natCast, hs] at hr
  exact hr

/-- One meta is another's likeness: all but the addresses. -/
structure Same (m m' : MV) : Prop where
  s1 : m'.rep = m.rep
  s2 : m'.api = m.api
  s3 : m'.sch = m.sch
  s4 : m'.mo = m.mo
  s5 : m'.ts = m.ts
  s6 : m'.im = m.im
  s7 : m'.pl = m.pl
  s8 : m'.wl = m.wl
  s9 : m'.pa = none ↔ m.pa = none
  s10 : m'.wa = none ↔ m.wa = none

abbrev zero47 : Array Value := #[.string ⟨#[]⟩, .string ⟨#[]⟩, .string ⟨#[]⟩, .bool false, .pointer none, .pointer none, .string ⟨#[]⟩, .slice none 0 0, .string ⟨#[]⟩, .slice none 0 0]

theorem PtrAt.set {w : World} {p : Option Addr} {z : Option Int} (h : PtrAt w p z) (g : Nat) (hg : ∀ a, p = some a → g < a.block) (vs : List Value) : PtrAt (w.setCells g 0 vs) p z := by
  rcases h with h | ⟨b, o, k, h1, h2, h3⟩
  · exact .inl h
  · have := hg _ h1
    exact .inr ⟨b, o, k, h1, h2, by rw [World.cell?_setCells_out _ _ _ _ _ (fun e => by simp at e this; omega)]; exact h3⟩
theorem BytesAt.set {w : World} {p : Option Addr} {n c : Nat} {f : Nat → Int} (h : BytesAt w p n c f) (g : Nat) (hg : ∀ a, p = some a → g < a.block) (vs : List Value) : BytesAt (w.setCells g 0 vs) p n c f := by
  rcases h with h | ⟨b, o, sp, h1, h2⟩
  · exact .inl h
  · have := hg _ h1
    exact .inr ⟨b, o, sp, h1, fun j hj => ⟨(h2 j hj).1, by rw [World.cell?_setCells_out _ _ _ _ _ (fun e => by simp at e this; omega)]; exact (h2 j hj).2⟩⟩
theorem PairsAt.set {w : World} {p : Option Addr} {n c : Nat} {s t : Nat → ByteArray} (h : PairsAt w p n c s t) (g : Nat) (hg : ∀ a, p = some a → g < a.block) (vs : List Value) : PairsAt (w.setCells g 0 vs) p n c s t := by
  rcases h with h | ⟨b, o, sp, h1, h2⟩
  · exact .inl h
  · have := hg _ h1
    refine .inr ⟨b, o, sp, h1, fun j hj => ?_⟩
    obtain ⟨a1, a2, a3, a4, a5⟩ := h2 j hj
    exact ⟨a1, by rw [World.cell?_setCells_out _ _ _ _ _ (fun e => by simp at e this; omega)]; exact a2, by rw [World.cell?_setCells_out _ _ _ _ _ (fun e => by simp at e this; omega)]; exact a3, a4, a5⟩
theorem MOK.set {w : World} {m : MV} {zr za : Option Int} {f : Nat → Int} {s t : Nat → ByteArray} (h : MOK w m zr za f s t) (g : Nat) (h1 : ∀ a, m.dr = some a → g < a.block) (h2 : ∀ a, m.da = some a → g < a.block) (h3 : ∀ a, m.pa = some a → g < a.block) (h4 : ∀ a, m.wa = some a → g < a.block) (vs : List Value) :
    MOK (w.setCells g 0 vs) m zr za f s t :=
  ⟨h.dr.set g h1 vs, h.da.set g h2 vs, h.pr.set g h3 vs, h.ws.set g h4 vs, h.pl, h.wl, h.r1, h.r2, h.r3, h.r4, h.r5⟩
/-- The meta's addresses lie at or above a block. -/
def Fresh (n : Nat) (m : MV) : Prop := (∀ a, m.dr = some a → n ≤ a.block) ∧ (∀ a, m.da = some a → n ≤ a.block) ∧ (∀ a, m.pa = some a → n ≤ a.block) ∧ (∀ a, m.wa = some a → n ≤ a.block)
theorem MOK.fresh {w : World} {m : MV} {zr za : Option Int} {f : Nat → Int} {s t : Nat → ByteArray} (h : MOK w m zr za f s t) {n : Nat} (hf : Fresh n m) (g : Nat) (hg : g < n) (vs : List Value) : MOK (w.setCells g 0 vs) m zr za f s t :=
  h.set g (fun a e => Nat.lt_of_lt_of_le hg (hf.1 a e)) (fun a e => Nat.lt_of_lt_of_le hg (hf.2.1 a e)) (fun a e => Nat.lt_of_lt_of_le hg (hf.2.2.1 a e)) (fun a e => Nat.lt_of_lt_of_le hg (hf.2.2.2 a e)) vs
theorem copy_any (p : Option Addr) (z : Option Int) (w : World) (h : PtrAt w p z) :
    Calls Tryd.prog 24 #[.pointer p] w fun e w' => ∃ p', e = .returned (.pointer p') ∧ PtrAt w' p' z ∧ (∀ a, p' = some a → w.heap.size ≤ a.block) ∧ Below w.heap.size w w' := by
  rcases h with ⟨rfl, rfl⟩ | ⟨b, o, k, rfl, rfl, hc⟩
  · refine (copyInt_nil w).mono ?_
    rintro e w' ⟨rfl, rfl⟩
    exact ⟨none, rfl, .inl ⟨rfl, rfl⟩, (fun a h => by cases h), Below.refl _ _⟩
  · refine (copyInt_some b o k w hc).mono ?_
    rintro e w' ⟨rfl, rfl⟩
    exact ⟨_, rfl,   .inr ⟨_, _, _, rfl, rfl, by simp [go_sem]⟩, (fun a h => by cases h; exact Nat.le_refl _), (Below.refl _ _).alloc (Nat.le_refl _) _⟩
theorem Two.box {w w' : World} {c0 c1 c2 c3 c4 c5 c6 c7 c8 c9 : Value} {B : Array Value} (h : Two w #[c0, c1, c2, c3, c4, c5, c6, c7, c8, c9] B w') :
    w'.cell? ⟨w.heap.size, 0, none⟩ = some c0 ∧ w'.cell? ⟨w.heap.size, 1, none⟩ = some c1 ∧ w'.cell? ⟨w.heap.size, 2, none⟩ = some c2 ∧ w'.cell? ⟨w.heap.size, 3, none⟩ = some c3 ∧ w'.cell? ⟨w.heap.size, 4, none⟩ = some c4 ∧ w'.cell? ⟨w.heap.size, 5, none⟩ = some c5 ∧ w'.cell? ⟨w.heap.size, 6, none⟩ = some c6 ∧ w'.cell? ⟨w.heap.size, 8, none⟩ = some c8 :=
  ⟨h.cellA 0, h.cellA 1, h.cellA 2, h.cellA 3, h.cellA 4, h.cellA 5, h.cellA 6, h.cellA 8⟩
theorem Two.box_set {w w' : World} {c0 c1 c2 c3 c4 c5 c6 c7 c8 c9 : Value} {B : Array Value} (h : Two w #[c0, c1, c2, c3, c4, c5, c6, c7, c8, c9] B w') (vs : List Value) :
    (w'.setCells (w.heap.size + 1) 0 vs).cell? ⟨w.heap.size, 0, none⟩ = some c0 ∧ (w'.setCells (w.heap.size + 1) 0 vs).cell? ⟨w.heap.size, 1, none⟩ = some c1 ∧ (w'.setCells (w.heap.size + 1) 0 vs).cell? ⟨w.heap.size, 2, none⟩ = some c2 ∧ (w'.setCells (w.heap.size + 1) 0 vs).cell? ⟨w.heap.size, 3, none⟩ = some c3 ∧ (w'.setCells (w.heap.size + 1) 0 vs).cell? ⟨w.heap.size, 4, none⟩ = some c4 ∧ (w'.setCells (w.heap.size + 1) 0 vs).cell? ⟨w.heap.size, 5, none⟩ = some c5 ∧ (w'.setCells (w.heap.size + 1) 0 vs).cell? ⟨w.heap.size, 6, none⟩ = some c6 ∧ (w'.setCells (w.heap.size + 1) 0 vs).cell? ⟨w.heap.size, 8, none⟩ = some c8 := by
  have e : ∀ j, (w'.setCells (w.heap.size + 1) 0 vs).cell? ⟨w.heap.size, j, none⟩ = w'.cell? ⟨w.heap.size, j, none⟩ := fun j => World.cell?_setCells_out _ _ _ _ _ (fun h => by simp at h)
  rw [e, e, e, e, e, e, e, e]
  exact h.box
theorem info47' : (Tryd.prog.info? 47).map (·.size) = some 10 := by kernel_rfl
theorem Two.zeros {w w' : World} {A : Array Value} (h : Two w A zero47 w') :
    (w'.cell? ⟨w.heap.size + 1, 0, none⟩ = some (.string ⟨#[]⟩) ∧ w'.cell? ⟨w.heap.size + 1, 1, none⟩ = some (.string ⟨#[]⟩) ∧ w'.cell? ⟨w.heap.size + 1, 2, none⟩ = some (.string ⟨#[]⟩) ∧ w'.cell? ⟨w.heap.size + 1, 3, none⟩ = some (.bool false) ∧ w'.cell? ⟨w.heap.size + 1, 4, none⟩ = some (.pointer none) ∧ w'.cell? ⟨w.heap.size + 1, 5, none⟩ = some (.pointer none) ∧ w'.cell? ⟨w.heap.size + 1, 6, none⟩ = some (.string ⟨#[]⟩) ∧ w'.cell? ⟨w.heap.size + 1, 7, none⟩ = some (.slice none 0 0) ∧ w'.cell? ⟨w.heap.size + 1, 8, none⟩ = some (.string ⟨#[]⟩) ∧ w'.cell? ⟨w.heap.size + 1, 9, none⟩ = some (.slice none 0 0)) ∧
    ∀ j, w'.frozen? ⟨w.heap.size + 1, j, none⟩ = false :=
  ⟨⟨cell_of_heap h.heapB 0, cell_of_heap h.heapB 1, cell_of_heap h.heapB 2, cell_of_heap h.heapB 3, cell_of_heap h.heapB 4, cell_of_heap h.heapB 5, cell_of_heap h.heapB 6, cell_of_heap h.heapB 7, cell_of_heap h.heapB 8, cell_of_heap h.heapB 9⟩, fun j => frozen_of_heap h.heapB j⟩

set_option maxRecDepth 100000 in
set_option maxHeartbeats 4000000 in
theorem toMeta_fresh (m : MV) (zr za : Option Int) (f : Nat → Int) (s t : Nat → ByteArray) (w : World) (hm : MOK w m zr za f s t) :
    Calls Tryd.prog 11 #[.agg m.arr] w fun e w' => ∃ m' : MV, e = .returned (.agg m'.arr) ∧ MOK w' m' zr za f s t ∧ Same m m' ∧ Fresh w.heap.size m' ∧ Below w.heap.size w w' := by
  obtain ⟨rep, api, sch, mo, dr, da, ts, pa, pl, pc, im, wa, wl, wq⟩ := m
  simp only [MV.arr]
  obtain ⟨hdr, hda, hpr, hws, hpl, hwl, r1, r2, r3, r4, r5⟩ := hm
  simp only at hdr hda hpr hws hpl hwl r1 r2 r3 r4 r5
  have HDR := hideIt hdr
  have HDA := hideIt hda
  have HPR := hideIt hpr
  have HWS := hideIt hws
  clear hdr hda hpr hws
  have hmk := make23 pl hpl
  have hmk2 := make45 wl hwl
  go_enter Tryd.func11, Tryd.ntmps11
  go_upto_if 9 with fail
  go_cut [3, 4] (fun pv iv wx => ∃ pa' pc', pv = .slice pa' pl pc' ∧ BytesAt wx pa' pl pc' f ∧ (pa' = none ↔ pa = none) ∧ (∀ a, pa' = some a → w.heap.size + 2 ≤ a.block) ∧ Two w #[.string rep, .string api, .string sch, .bool mo, .pointer dr, .pointer da, .string ts, .slice pa pl pc, .string im, .slice wa wl wq] zero47 wx)
  case first =>
    rcases HPR.out with ⟨rfl, rfl, rfl⟩ | ⟨b, o, sp, rfl, hc⟩
    · go_wp2
      go_meet
      case rel => exact ⟨none, 0, rfl, .inl ⟨rfl, rfl, rfl⟩, by simp, (fun a h => by cases h), Two.start _ _ _⟩
    · have HC := hideIt hc
      clear hc
      go_wp2
      have T0 := Two.start w #[.string rep, .string api, .string sch, .bool mo, .pointer dr, .pointer da, .string ts, .slice (some ⟨b, o, sp⟩) pl pc, .string im, .slice wa wl wq] zero47
      generalize hW : (w.alloc (Obj.cells #[.string rep, .string api, .string sch, .bool mo, .pointer dr, .pointer da, .string ts, .slice (some ⟨b, o, sp⟩) pl pc, .string im, .slice wa wl wq] 26)).alloc (Obj.cells zero47 47) = W0 at T0
      have hsz : w.heap.size + 1 + 1 = W0.heap.size := by rw [← hW]; simp
      have HT := hideIt T0
      have HW := hideIt hW
      have HZ := hideIt hsz
      clear T0 hW hsz
      go_loopw [4] (fun i wr => ∃ (k : Nat) (C : Array Value), k ≤ pl ∧ i = .int .i64 k ∧ Fill W0 (w.heap.size + 1 + 1) 5 C wr ∧ C.size = pl ∧ ∀ j, j < k → C[j]? = some (.int .u8 (f j))) (fun i _ => pl - (intOf i).toNat)
      case atStart => exact ⟨0, _, Nat.zero_le _, rfl, Fill.start W0 _ HZ.out _ _, size_madeCells _ _, fun j hj => by omega⟩
      case round =>
        obtain ⟨k, C, hk, rfl, hF, hC, hf⟩ := hrel
        by_cases hlt : k < pl
        · obtain ⟨rfl, c1⟩ := HC.out k hlt
          have hlt' : (k : Int) < (pl : Int) := by omega
          have c1' := hF.old (HT.out.below.cell (cell_lt c1) ▸ c1)
          have c2' := hF.old (HT.out.cellA 7)
          have c3' := hF.cell k
          have f3 := hF.frozen k
          rw [Array.getElem?_eq_getElem (by omega)] at c3'
          generalize C[k]'(by omega) = u at c3'
          have HF := hideIt hF
          have HC2 := hideIt hC
          have Hf := hideIt hf
          clear hF hC hf c1
          go_wp2
          go_roundw
          case rel =>
            refine ⟨k + 1, _, by omega, by go_num, HF.out.set k _, by simp [HC2.out], ?_⟩
            intro j hj
            by_cases hjk : j = k
            · subst hjk
              simp [HC2.out, hlt]
            · rw [Array.getElem?_setIfInBounds_ne (by omega)]
              exact Hf.out j (by omega)
          case measure => simp [intOf]; omega
        · obtain rfl : k = pl := by omega
          clear hk hlt
          have c2' := hF.old (HT.out.cellA 7)
          have HF := hideIt hF
          have HC2 := hideIt hC
          have Hf := hideIt hf
          clear hF hC hf
          go_wp2
          go_meet
          case rel =>
            refine ⟨some ⟨w.heap.size + 1 + 1, 0, none⟩, k, rfl, .inr ⟨_, _, _, rfl, fun j hj => ⟨rfl, ?_⟩⟩, by simp, (fun a h => by cases h; exact Nat.le_refl _), HT.out.next HF.out.2.1⟩
            rw [Nat.zero_add, HF.out.cell j]
            exact Hf.out j (by omega)
  case rest =>
    obtain ⟨pa', pc', rfl, hB, hiff, hfr, hT⟩ := hcut
    have HFR := hideIt hfr
    have HB := hideIt hB
    have HI := hideIt hiff
    have HT := hideIt hT
    have k9 := hT.cellA 9
    simp at k9
    clear hB hiff hfr hT HPR hmk
    rename World => w1
    go_upto_if 31 with fail
    go_cut [5, 6] (fun wv iv wx => ∃ wa' wc', wv = .slice wa' wl wc' ∧ PairsAt wx wa' wl wc' s t ∧ (wa' = none ↔ wa = none) ∧ (∀ a, wa' = some a → w.heap.size + 2 ≤ a.block) ∧ Below w1.heap.size w1 wx)
    case first =>
      rcases HWS.out with ⟨rfl, rfl, rfl⟩ | ⟨b, o, sp, rfl, hc⟩
      · go_wp2
        go_meet
        case rel => exact ⟨none, 0, rfl, .inl ⟨rfl, rfl, rfl⟩, by simp, (fun a h => by cases h), Below.refl _ _⟩
      · have HC := hideIt hc
        clear hc
        go_wp2
        have HTs : w.heap.size + 2 ≤ w1.heap.size := HT.out.size
        go_loopw [6] (fun i wr => ∃ (k : Nat) (C : Array Value), k ≤ wl ∧ i = .int .i64 k ∧ Fill w1 w1.heap.size 73 C wr ∧ C.size = wl * 2 ∧ ∀ j, j < k → C[j * 2]? = some (.string (s j)) ∧ C[j * 2 + 1]? = some (.string (t j))) (fun i _ => wl - (intOf i).toNat)
        case atStart => exact ⟨0, _, Nat.zero_le _, rfl, Fill.start w1 _ rfl _ _, size_madeCells _ _, fun j hj => by omega⟩
        case round =>
          obtain ⟨k, C, hk, rfl, hF, hC, hf⟩ := hrel
          by_cases hlt : k < wl
          · obtain ⟨rfl, c1, c2, l1, l2⟩ := HC.out k hlt
            have hlt' : (k : Int) < (wl : Int) := by omega
            have hbs : b < w.heap.size := cell_lt c1
            have c1' := hF.old (HT.out.below.cell (cell_lt c1) ▸ c1)
            have c2' := hF.old (HT.out.below.cell (cell_lt c2) ▸ c2)
            have c9' := hF.old k9
            have c3' := hF.cell (k * 2)
            have c4' := hF.cell (k * 2 + 1)
            have f3 := hF.frozen (k * 2)
            have f4 := hF.frozen (k * 2 + 1)
            rw [Array.getElem?_eq_getElem (by omega)] at c3' c4'
            generalize C[k * 2]'(by omega) = u3 at c3'
            generalize C[k * 2 + 1]'(by omega) = u4 at c4'
            have HF := hideIt hF
            have HC2 := hideIt hC
            have Hf := hideIt hf
            have HE1 : Hid (∃ x, x = s k) := ⟨_, rfl⟩
            clear hF hC hf c1 c2 k9
            have n1 : w.heap.size ≠ w1.heap.size := by omega
            have n2 : b ≠ w1.heap.size := by omega
            go_wp2
            go_region_held3 (fun w' => w'.cell? ⟨w.heap.size, 9, none⟩ = some (.slice (some ⟨b, o, none⟩) wl wq) ∧ w'.cell? ⟨b, o + k * 2, none⟩ = some (.string (s k)) ∧ w'.cell? ⟨b, o + k * 2 + 1, none⟩ = some (.string (t k))) (first | (refine ⟨?_, ?_, ?_⟩ <;> (show World.cell? (World.setCell (World.setCell wr _ _) _ _) _ = _; rw [World.cell?_setCell_far _ _ _ _ (by simp; omega), World.cell?_setCell_far _ _ _ _ (by simp; omega)]; assumption)) | go_keep) (fail)
            go_wp2
            go_roundw
            case rel =>
              repeat apply Exists.intro
              refine ⟨?_, rfl⟩
              refine ⟨k + 1, _, by omega, by go_num, ((HF.out.set (k * 2) _).set (k * 2 + 1) _).drew, by simp [HC2.out], ?_⟩
              intro j hj
              by_cases hjk : j = k
              · subst hjk
                have := HC2.out
                rw [Array.getElem?_setIfInBounds_ne (by omega)]
                constructor
                · rw [Array.getElem?_setIfInBounds_self_of_lt (by omega)]
                · rw [Array.getElem?_setIfInBounds_self_of_lt (by simp; omega)]
              · rw [Array.getElem?_setIfInBounds_ne (by omega), Array.getElem?_setIfInBounds_ne (by omega), Array.getElem?_setIfInBounds_ne (by omega), Array.getElem?_setIfInBounds_ne (by omega)]
                exact Hf.out j (by omega)
            case measure => simp [intOf]; omega
          · obtain rfl : k = wl := by omega
            clear hk hlt
            have c9' := hF.old k9
            have HF := hideIt hF
            have Hf := hideIt hf
            clear hF hC hf k9
            go_wp2
            go_meet
            case rel =>
              refine ⟨some ⟨w1.heap.size, 0, none⟩, k, rfl, .inr ⟨_, _, _, rfl, fun j hj => ⟨rfl, ?_, ?_, ?_, ?_⟩⟩, by simp, (fun a h => by cases h; exact HTs), HF.out.2.1⟩
              · rw [Nat.zero_add, HF.out.cell]
                exact (Hf.out j hj).1
              · rw [Nat.zero_add, HF.out.cell]
                exact (Hf.out j hj).2
              · exact (HC.out j hj).2.2.2.1
              · exact (HC.out j hj).2.2.2.2
    case rest =>
      obtain ⟨wa', wc', rfl, hP, hiff, hfr, hb2⟩ := hcut
      have HFR2 := hideIt hfr
      have HP := hideIt hP
      have HI2 := hideIt hiff
      have HB2 := hideIt (HB.out.below hb2)
      have HT2 := hideIt (HT.out.next hb2)
      clear hP hiff hfr hb2 HWS hmk2 k9 HB HT
      obtain ⟨k0, k1, k2, k3, k4, k5, k6, k8⟩ := HT2.out.box
      go_wp2_with fail
      go_region_held3 (fun w' => w'.cell? ⟨w.heap.size, 0, none⟩ = some (.string rep) ∧ w'.cell? ⟨w.heap.size, 1, none⟩ = some (.string api) ∧ w'.cell? ⟨w.heap.size, 2, none⟩ = some (.string sch) ∧ w'.cell? ⟨w.heap.size, 3, none⟩ = some (.bool mo) ∧ w'.cell? ⟨w.heap.size, 4, none⟩ = some (.pointer dr) ∧ w'.cell? ⟨w.heap.size, 5, none⟩ = some (.pointer da) ∧ w'.cell? ⟨w.heap.size, 6, none⟩ = some (.string ts) ∧ w'.cell? ⟨w.heap.size, 8, none⟩ = some (.string im))
        (first | (with_reducible exact HT2.out.box) | (with_reducible exact HT2.out.drew.box) | (with_reducible exact HT3.out.box) | (with_reducible exact HT4.out.box) | exact HT4.out.box_set [.string rep, .string api, .string sch, .bool mo, .pointer p1, .pointer p2, .string ts, .slice pa' pl pc', .string im, .slice wa' wl wc'])
        (first
          | (go_at_call_of 24 (Value.pointer dr); refine (copy_any dr zr _ ?_).mono ?_; (exact HDR.out.below HT2.out.drew.below); rintro e w2 ⟨p1, rfl, hp1, ha1, hb1⟩; have HT3 := hideIt (HT2.out.drew.next hb1); have HP1 := hideIt hp1; have HA1 := hideIt ha1; have HBB := hideIt hb1; clear hb1 hp1 ha1)
          | (go_at_call_of 24 (Value.pointer da); refine (copy_any da za _ ?_).mono ?_; (exact HDA.out.below HT3.out.below); rintro e w3 ⟨p2, rfl, hp2, ha2, hb2⟩; have HT4 := hideIt (HT3.out.next hb2); have HP2 := hideIt hp2; have HA2 := hideIt ha2; have HBC := hideIt hb2; obtain ⟨⟨z0, z1, z2, z3, z4, z5, z6, z7, z8, z9⟩, zf⟩ := HT4.out.zeros; clear hb2 hp2 ha2))
      go_wp2
      refine bodyPost_ret (results_cell_row Tryd.results11 _ _ (w.heap.size + 1) 47 #[.string rep, .string api, .string sch, .bool mo, .pointer p1, .pointer p2, .string ts, .slice pa' pl pc', .string im, .slice wa' wl wc'] (0, 0) _ rfl (setCells_heap_whole (C := zero47) #[.string rep, .string api, .string sch, .bool mo, .pointer p1, .pointer p2, .string ts, .slice pa' pl pc', .string im, .slice wa' wl wc'] HT4.out.heapB rfl) Tryd.underlying47 rfl info47') rfl ?_
      have hz2 : w.heap.size + 2 ≤ wc.heap.size := HT2.out.size
      have hz2' : w.heap.size + 2 ≤ wc.drew.heap.size := HT2.out.size
      have hz3 : w.heap.size + 2 ≤ w2.heap.size := HT3.out.size
      refine ⟨⟨rep, api, sch, mo, p1, p2, ts, pa', pl, pc', im, wa', wl, wc'⟩, rfl, ?_, ⟨rfl, rfl, rfl, rfl, rfl, rfl, rfl, rfl, HI.out, HI2.out⟩,
        ⟨(fun a h => Nat.le_trans (by omega) (HA1.out a h)), (fun a h => Nat.le_trans (by omega) (HA2.out a h)), (fun a h => Nat.le_trans (by omega) (HFR.out a h)), (fun a h => Nat.le_trans (by omega) (HFR2.out a h))⟩, ?_⟩
      · have e1 : Below wc.heap.size wc w3 := (Below.trans (Below.drew (Below.refl _ wc)) HBB.out).trans (HBC.out.mono HBB.out.size)
        have k := MOK.set (m := ⟨rep, api, sch, mo, p1, p2, ts, pa', pl, pc', im, wa', wl, wc'⟩) ⟨HP1.out.below HBC.out, HP2.out, HB2.out.below e1, HP.out.below e1, hpl, hwl, r1, r2, r3, r4, r5⟩ (w.heap.size + 1)
          (fun a h => Nat.lt_of_lt_of_le (by omega) (HA1.out a h)) (fun a h => Nat.lt_of_lt_of_le (by omega) (HA2.out a h)) (fun a h => Nat.lt_of_lt_of_le (by omega) (HFR.out a h)) (fun a h => Nat.lt_of_lt_of_le (by omega) (HFR2.out a h))
          [.string rep, .string api, .string sch, .bool mo, .pointer p1, .pointer p2, .string ts, .slice pa' pl pc', .string im, .slice wa' wl wc']
        exact k
      · exact Below.setCells (w.heap.size + 1) (by omega) [.string rep, .string api, .string sch, .bool mo, .pointer p1, .pointer p2, .string ts, .slice pa' pl pc', .string im, .slice wa' wl wc'] 0 _ HT4.out.below
theorem toMeta_any (m : MV) (zr za : Option Int) (f : Nat → Int) (s t : Nat → ByteArray) (w : World) (hm : MOK w m zr za f s t) :
    Calls Tryd.prog 11 #[.agg m.arr] w fun e w' => ∃ m' : MV, e = .returned (.agg m'.arr) ∧ MOK w' m' zr za f s t ∧ Same m m' ∧ Below w.heap.size w w' :=
  (toMeta_fresh m zr za f s t w hm).mono fun _ _ ⟨m', h1, h2, h3, _, h5⟩ => ⟨m', h1, h2, h3, h5⟩
end Go.Proofs.Qxb6608758aDoor
