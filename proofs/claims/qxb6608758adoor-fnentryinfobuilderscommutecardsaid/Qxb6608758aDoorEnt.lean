import Derived.Test.Qxb6608758aDoorInc
import Derived.Test.Qxb6608758aDoorZc
namespace Go.Proofs.Qxb6608758aDoor
open Go.RowKit

theorem below_cell {w w' : World} {a : Addr} {v : Value} (h : w.cell? a = some v) (hb : Below w.heap.size w w') : w'.cell? a = some v := by
  rw [hb.cell (cell_lt h)]
  exact h

set_option maxRecDepth 100000 in
set_option maxHeartbeats 4000000 in
theorem entryBuilt_any (a0 db nx : ByteArray) (m m' : MV) (zr za : Option Int) (f : Nat → Int) (s t : Nat → ByteArray) (b c' gl : Nat) (p : Option Addr) (l c : Nat) (s4 t4 : Nat → ByteArray) (w : World) (hm : MOK w m zr za f s t) (hm' : MOK w m' zr za f s t) (hs : Same m m')
    (hr : ResR w b l s4 t4) (hp : PairsAt w p l c s4 t4) (hl : l * 32 ≤ 140737488355328) (x0 : w.cell? ⟨gl, 0, none⟩ = some (.string db)) (x1 : w.cell? ⟨gl, 1, none⟩ = some (.string nx)) :
    Calls Tryd.prog 15 #[.agg (docArr (.iface 9 (.string a0)) (some ⟨b, 0, none⟩) l c' m' (some ⟨gl, 0, none⟩)), .string a0, .agg m.arr, .string db, .string nx, .slice p l c] w fun e w' => e = .returned (.bool true) ∧ Below w.heap.size w w' := by
  have M0 := hideIt hm
  have M1 := hideIt hm'
  have S0 := hideIt hs
  have R0 := hideIt hr
  have P0 := hideIt hp
  have X0 := hideIt x0
  have X1 := hideIt x1
  clear hm hm' hs hr hp x0 x1
  have HS := hideIt (docArr_size (.iface 9 (.string a0)) (some ⟨b, 0, none⟩) l c' m' (some ⟨gl, 0, none⟩))
  have D1 := hideIt (heap_alloc (heap_1 w (.cells (docArr (.iface 9 (.string a0)) (some ⟨b, 0, none⟩) l c' m' (some ⟨gl, 0, none⟩)) 50)) (.cells m.arr 26))
  have G1 : Hid (((w.alloc (.cells (docArr (.iface 9 (.string a0)) (some ⟨b, 0, none⟩) l c' m' (some ⟨gl, 0, none⟩)) 50)).alloc (.cells m.arr 26)).heap[w.heap.size + 1]? = some (.cells m.arr 26)) := heap_at _ _ (by simp)
  have B1 := hideIt ((Below.refl_alloc w (.cells (docArr (.iface 9 (.string a0)) (some ⟨b, 0, none⟩) l c' m' (some ⟨gl, 0, none⟩)) 50)).alloc (by simp) (.cells m.arr 26))
  go_enter Tryd.func15, Tryd.ntmps15
  go_wp2_with (first | refine ld50 rfl _ rfl w.heap.size (docArr (.iface 9 (.string a0)) (some ⟨b, 0, none⟩) l c' m' (some ⟨gl, 0, none⟩)) rfl HS.out D1.out ?_)
  generalize (w.alloc (.cells (docArr (.iface 9 (.string a0)) (some ⟨b, 0, none⟩) l c' m' (some ⟨gl, 0, none⟩)) 50)).alloc (.cells m.arr 26) = w1 at *
  refine (dataStr_any a0 (some ⟨b, 0, none⟩) l c' m' (some ⟨gl, 0, none⟩) _).mono ?_
  rintro e w2 ⟨rfl, hb⟩
  have D2 := hideIt (heap_next D1.out hb)
  have G2 := hideIt (heap_next G1.out hb)
  have B2 := hideIt (B1.out.trans (hb.mono B1.out.size))
  clear hb D1 G1 B1
  have k16 : w2.cell? ⟨w.heap.size, 16, none⟩ = some (.pointer (some ⟨gl, 0, none⟩)) := cell_of_heap D2.out 16
  have g0 := below_cell X0.out B2.out
  have g1 := below_cell X1.out B2.out
  have j0 : w2.cell? ⟨w.heap.size, 0, none⟩ = some (.string s11) := cell_of_heap D2.out 0
  have j1 : w2.cell? ⟨w.heap.size, 1, none⟩ = some (.string sOpt) := cell_of_heap D2.out 1
  have j2 : w2.cell? ⟨w.heap.size, 2, none⟩ = some (.string s120) := cell_of_heap D2.out 2
  have gb := cell_lt g0
  have gd := cell_lt k16
  simp only at gb gd
  go_wp2_with fail
  refine (jsonapi_any _).mono ?_
  rintro e w3 ⟨rfl, hb⟩
  have D3 := hideIt (heap_next D2.out hb)
  have G3 := hideIt (heap_next G2.out hb)
  have B3 := hideIt (B2.out.trans (hb.mono B2.out.size))
  clear hb D2 G2 B2 k16 g0 g1 j0 j1 j2 gb gd
  have d6 : w3.cell? ⟨w.heap.size, 6, none⟩ = some (.string m'.rep) := cell_of_heap D3.out 6
  have d7 : w3.cell? ⟨w.heap.size, 7, none⟩ = some (.string m'.api) := cell_of_heap D3.out 7
  have d8 : w3.cell? ⟨w.heap.size, 8, none⟩ = some (.string m'.sch) := cell_of_heap D3.out 8
  have d9 : w3.cell? ⟨w.heap.size, 9, none⟩ = some (.bool m'.mo) := cell_of_heap D3.out 9
  have d10 : w3.cell? ⟨w.heap.size, 10, none⟩ = some (.pointer m'.dr) := cell_of_heap D3.out 10
  have d11 : w3.cell? ⟨w.heap.size, 11, none⟩ = some (.pointer m'.da) := cell_of_heap D3.out 11
  have d12 : w3.cell? ⟨w.heap.size, 12, none⟩ = some (.string m'.ts) := cell_of_heap D3.out 12
  have d13 : w3.cell? ⟨w.heap.size, 13, none⟩ = some (.slice m'.pa m'.pl m'.pc) := cell_of_heap D3.out 13
  have d14 : w3.cell? ⟨w.heap.size, 14, none⟩ = some (.string m'.im) := cell_of_heap D3.out 14
  have d15 : w3.cell? ⟨w.heap.size, 15, none⟩ = some (.slice m'.wa m'.wl m'.wc) := cell_of_heap D3.out 15
  have e0 : w3.cell? ⟨w.heap.size + 1, 0, none⟩ = some (.string m.rep) := cell_of_heap G3.out 0
  have e1 : w3.cell? ⟨w.heap.size + 1, 1, none⟩ = some (.string m.api) := cell_of_heap G3.out 1
  have e2 : w3.cell? ⟨w.heap.size + 1, 2, none⟩ = some (.string m.sch) := cell_of_heap G3.out 2
  have e3 : w3.cell? ⟨w.heap.size + 1, 3, none⟩ = some (.bool m.mo) := cell_of_heap G3.out 3
  have e4 : w3.cell? ⟨w.heap.size + 1, 4, none⟩ = some (.pointer m.dr) := cell_of_heap G3.out 4
  have e5 : w3.cell? ⟨w.heap.size + 1, 5, none⟩ = some (.pointer m.da) := cell_of_heap G3.out 5
  have e6 : w3.cell? ⟨w.heap.size + 1, 6, none⟩ = some (.string m.ts) := cell_of_heap G3.out 6
  have e7 : w3.cell? ⟨w.heap.size + 1, 7, none⟩ = some (.slice m.pa m.pl m.pc) := cell_of_heap G3.out 7
  have e8 : w3.cell? ⟨w.heap.size + 1, 8, none⟩ = some (.string m.im) := cell_of_heap G3.out 8
  have e9 : w3.cell? ⟨w.heap.size + 1, 9, none⟩ = some (.slice m.wa m.wl m.wc) := cell_of_heap G3.out 9
  go_wp2_with fail
  refine (metaMatches_any m m' zr za f s t _ (M0.out.below B3.out) (M1.out.below B3.out) S0.out).mono ?_
  rintro e w4 ⟨rfl, hb⟩
  have D4 := hideIt (heap_next D3.out hb)
  have B4 := hideIt (B3.out.trans (hb.mono B3.out.size))
  clear hb B3 G3 D3 d6 d7 d8 d9 d10 d11 d12 d13 d14 d15 e0 e1 e2 e3 e4 e5 e6 e7 e8 e9
  have d4 : w4.cell? ⟨w.heap.size, 4, none⟩ = some (.slice (some ⟨b, 0, none⟩) l c') := cell_of_heap D4.out 4
  go_wp2_with fail
  refine (incMatches_any b c' p l c s4 t4 _ (R0.out.below B4.out) (P0.out.below B4.out) hl).mono ?_
  rintro e w5 ⟨rfl, hb⟩
  have D5 := hideIt (heap_next D4.out hb)
  have B5 := hideIt (B4.out.trans (hb.mono B4.out.size))
  clear hb B4 D4 d4
  have d5 : w5.cell? ⟨w.heap.size, 5, none⟩ = some (.slice none 0 0) := cell_of_heap D5.out 5
  have z39 := nil39
  go_wp2
  go_ret
  exact ⟨rfl, B5.out⟩
end Go.Proofs.Qxb6608758aDoor
