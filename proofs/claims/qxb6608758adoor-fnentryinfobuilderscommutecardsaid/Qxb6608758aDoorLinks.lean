import Derived.Test.Qxb6608758aDoorMatch
import Derived.Test.Qxb6608758aDoorZa
namespace Go.Proofs.Qxb6608758aDoor
open Go.RowKit

theorem nil39 (w : World) (a : Option Addr) (n c : Nat) : (binOp .eql 39 (.slice a n c) (.slice none 0 0)).run Tryd.prog w = .ok (.bool a.isNone) w := Lib.run_eql_slice_nil w 39 _ a n c 0 0 Tryd.underlying39
theorem ld26 {ops : Array Oper} {rest : List Oper} {o : Oper} {a : Act} {w : World} {Q : Exit → Act → World → Prop} (hgd : o.guard = none) (x : Operand) (ho : o.op = .load 26 x) (g : Nat) (m : MV)
    (hx : a.eval x = .pointer (some ⟨g, 0, none⟩)) (hg : w.heap[g]? = some (.cells m.arr 26)) (h : wpList Tryd.prog ops Q rest (a.put o.dst (.agg m.arr)) w) : wpList Tryd.prog ops Q (o :: rest) a w :=
  wpList_load_row hgd 26 x ho g hx 26 m.arr (0, 0) _ hg Tryd.underlying26 rfl (by rw [info26]; rfl) h

set_option maxRecDepth 100000 in
set_option maxHeartbeats 4000000 in
theorem links_walk (a0 a1 a3 a4 a5 a6 : ByteArray) (m : MV) (zr za : Option Int) (f : Nat → Int) (s t : Nat → ByteArray) (w : World) (hm : MOK w m zr za f s t) (hl : Laid w)
    (b0 : a0.size ≤ 9223372036854775807) (b1 : a1.size ≤ 9223372036854775807) (b3 : a3.size ≤ 9223372036854775807) (b4 : a4.size ≤ 9223372036854775807) (b5 : a5.size ≤ 9223372036854775807) (b6 : a6.size ≤ 9223372036854775807) :
    Calls Tryd.prog 4 #[.string a0, .string a1, .agg m.arr, .string a3, .string a4, .string a5, .string a6] w fun e w' => e = .returned (.bool true) ∧ Below w.heap.size w w' := by
  have M0 := hideIt hm
  have L0 := hideIt hl
  clear hm hl
  have B1 := hideIt ((Below.refl w.heap.size w).alloc (Nat.le_refl _) (.cells m.arr 26))
  go_enter Tryd.func4, Tryd.ntmps4
  go_wp2_with (first | refine ld26 rfl _ rfl w.heap.size m rfl ?hg ?_)
  case hg => exact heap_1 _ _
  refine (zzLinks_any a0 a1 a3 a4 a5 a6 m zr za f s t _ (M0.out.below B1.out) b0 b1 b3 b4 b5 b6).mono ?_
  rintro e w1 ⟨⟨r, rfl⟩, hb1⟩
  have G1 := hideIt ((hb1.block w.heap.size (by simp)).trans (heap_1 _ _))
  have B2 := hideIt (B1.out.trans (hb1.mono (by simp)))
  clear hb1 B1
  cases r
  · go_wp2_with fail
    go_ret
    exact ⟨rfl, B2.out⟩
  go_wp2_with fail
  refine (addLen_any _ _ ⟨by omega, by omega⟩ (by omega) (by omega) _).mono ?_
  rintro e w' ⟨q1, rfl, hq1, rfl⟩
  go_wp2_with fail
  refine (addLen_any _ _ hq1 (by omega) (by omega) _).mono ?_
  rintro e w' ⟨q2, rfl, hq2, rfl⟩
  go_wp2_with fail
  refine (addLen_any _ _ hq2 (by omega) (by omega) _).mono ?_
  rintro e w' ⟨q3, rfl, hq3, rfl⟩
  go_wp2_with fail
  refine (addLen_any _ _ hq3 (by omega) (by omega) _).mono ?_
  rintro e w' ⟨q4, rfl, hq4, rfl⟩
  go_wp2_with fail
  refine (addLen_any _ _ hq4 (by omega) (by omega) _).mono ?_
  rintro e w' ⟨q5, rfl, hq5, rfl⟩
  go_wp2_with fail
  refine (addLen_any _ _ hq5 (by omega) (by omega) _).mono ?_
  rintro e w1 ⟨q6, rfl, hq6, rfl⟩
  go_wp2_with (first | refine ld26 rfl _ rfl w.heap.size m rfl G1.out ?_)
  refine (metaBytes_any m zr za f s t q6 hq6 _ (M0.out.below B2.out)).mono ?_
  rintro e w2 ⟨q7, rfl, hq7, hb2⟩
  have lt1 : w.heap.size < w1.heap.size := by
    apply Classical.byContradiction
    intro hn
    have := G1.out
    rw [Array.getElem?_eq_none (by omega)] at this
    cases this
  have G2 := hideIt ((hb2.block w.heap.size lt1).trans G1.out)
  have B3 := hideIt (B2.out.trans (hb2.mono B2.out.size))
  clear hb2 B2 G1 hq1 hq2 hq3 hq4 hq5 hq6
  by_cases hlim : 1048576 < q7
  · go_wp2_with fail
    go_ret
    exact ⟨rfl, B3.out⟩
  go_wp2_with (first | refine ld26 rfl _ rfl w.heap.size m rfl G2.out ?_)
  refine (toMeta_any m zr za f s t _ (M0.out.below B3.out)).mono ?_
  rintro e w3 ⟨m', rfl, hm3, hsame, hb3⟩
  have lt2 : w.heap.size < w2.heap.size := by have := B3.out.size; have := lt1; apply Classical.byContradiction; intro hn; have := G2.out; rw [Array.getElem?_eq_none (by omega)] at this; cases this
  have G3 := hideIt ((hb3.block w.heap.size lt2).trans G2.out)
  have B4 := hideIt (B3.out.trans (hb3.mono B3.out.size))
  have M3 := hideIt hm3
  have S3 := hideIt hsame
  have lt3 : w.heap.size < w3.heap.size := Nat.lt_of_lt_of_le lt2 hb3.size
  clear hb3 B3 G2 hm3 hsame
  go_wp2_with fail
  refine (single_any a0 a1 m' _ (L0.out.below B4.out L0.out.2.2.2)).mono ?_
  rintro e w4 ⟨rfl, hb4⟩
  have G4 := hideIt ((hb4.block w.heap.size lt3).trans G3.out)
  have B5 := hideIt (B4.out.trans (hb4.mono B4.out.size))
  have M4 := hideIt (M3.out.below hb4)
  have lt4 : w.heap.size < w4.heap.size := Nat.lt_of_lt_of_le lt3 hb4.size
  clear hb4 B4 G3 M3 lt1 lt2 lt3
  have HS := hideIt (docArr_size (.iface 60 (resV a0 a1)) none 0 0 m' none)
  have H1 := hideIt (docArr_one 60 (resV a0 a1) none 0 0 m' none)
  go_wp2_with (first | refine st50 rfl _ _ rfl _ _ _ rfl rfl HS.out H1.out rfl rfl ?_ | refine ld50 rfl _ rfl w4.heap.size (docArr (.iface 60 (resV a0 a1)) none 0 0 m' none) rfl HS.out (heap_1 w4 _) ?_)
  refine (withLinks_doc 60 (resV a0 a1) none 0 0 m' none a3 a4 _).mono ?_
  rintro e w5 ⟨g1, rfl, x0, x1, xg, hb5⟩
  have D5 := hideIt ((hb5.block w4.heap.size (by simp)).trans (heap_1 w4 _))
  have G5 := hideIt ((hb5.block w.heap.size (by simp; omega)).trans ((heap_past _ _ lt4).trans G4.out))
  have E5 := (Below.refl w4.heap.size w4).alloc (Nat.le_refl _) (.cells (docArr (.iface 60 (resV a0 a1)) none 0 0 m' none) 50)
  have F5 := E5.trans (hb5.mono (by simp))
  have M5 := hideIt (M4.out.below F5)
  have B6 := hideIt (B5.out.trans (F5.mono B5.out.size))
  have lt5 : w4.heap.size < w5.heap.size := by have := hb5.size; simp at this; omega
  have X0 := hideIt x0
  have X1 := hideIt x1
  have XG := hideIt xg
  clear hb5 E5 F5 M4 B5 G4 x0 x1 xg HS H1
  have HS := hideIt (docArr_size (.iface 60 (resV a0 a1)) none 0 0 m' (some ⟨g1, 0, none⟩))
  have H1 := hideIt (docArr_one 60 (resV a0 a1) none 0 0 m' (some ⟨g1, 0, none⟩))
  go_wp2_with (first | refine st50 rfl _ _ rfl _ _ _ rfl rfl HS.out H1.out rfl rfl ?_ | refine ld50 rfl _ rfl w5.heap.size (docArr (.iface 60 (resV a0 a1)) none 0 0 m' (some ⟨g1, 0, none⟩)) rfl HS.out (heap_1 w5 _) ?_)
  refine (withLinks_doc 60 (resV a0 a1) none 0 0 m' (some ⟨g1, 0, none⟩) a5 a6 _).mono ?_
  rintro e w6 ⟨g2, rfl, y0, y1, yg, hb6⟩
  have D6' := hideIt ((hb6.block w5.heap.size (by simp)).trans (heap_1 w5 _))
  have D6 := hideIt ((hb6.block w4.heap.size (by simp; omega)).trans ((heap_past _ _ lt5).trans D5.out))
  have G6 := hideIt ((hb6.block w.heap.size (by simp; omega)).trans ((heap_past _ _ (by omega)).trans G5.out))
  have E6 := (Below.refl w5.heap.size w5).alloc (Nat.le_refl _) (.cells (docArr (.iface 60 (resV a0 a1)) none 0 0 m' (some ⟨g1, 0, none⟩)) 50)
  have F6 := E6.trans (hb6.mono (by simp))
  have M6 := hideIt (M5.out.below F6)
  have B7 := hideIt (B6.out.trans (F6.mono B6.out.size))
  have X0' := hideIt ((F6.cell XG.out).trans X0.out)
  have X1' := hideIt ((F6.cell XG.out).trans X1.out)
  have lt6 : w5.heap.size < w6.heap.size := by have := hb6.size; simp at this; omega
  have Y0 := hideIt y0
  have Y1 := hideIt y1
  have YG := hideIt yg
  have XL : g1 < w6.heap.size := by have := XG.out; omega
  clear hb6 E6 F6 M5 B6 G5 D5 X0 X1 y0 y1 yg HS H1
  have HS := hideIt (docArr_size (.iface 60 (resV a0 a1)) none 0 0 m' (some ⟨g2, 0, none⟩))
  have H1 := hideIt (docArr_one 60 (resV a0 a1) none 0 0 m' (some ⟨g2, 0, none⟩))
  have k16 : w6.cell? ⟨w4.heap.size, 16, none⟩ = some (.pointer none) := cell_of_heap D6.out 16
  have k17 : w6.cell? ⟨w5.heap.size, 16, none⟩ = some (.pointer (some ⟨g1, 0, none⟩)) := cell_of_heap D6'.out 16
  have lt46 : w4.heap.size < w6.heap.size := by omega
  have lt06 : w.heap.size < w6.heap.size := by omega
  have l0 := X0'.out
  have l1 := X1'.out
  have l2 := Y0.out
  have l3 := Y1.out
  have l4 := YG.out
  have k18 : (docArr (.iface 60 (resV a0 a1)) none 0 0 m' (some ⟨g2, 0, none⟩))[16]? = some (.pointer (some ⟨g2, 0, none⟩)) := rfl
  go_wp2_with (first | refine st50 rfl _ _ rfl _ _ _ rfl rfl HS.out H1.out rfl rfl ?_ | refine ld50 rfl _ rfl w6.heap.size (docArr (.iface 60 (resV a0 a1)) none 0 0 m' (some ⟨g2, 0, none⟩)) rfl HS.out (heap_1 w6 _) ?_)
  refine (dataRes_any a0 a1 none 0 0 m' (some ⟨g2, 0, none⟩) _).mono ?_
  rintro e w7 ⟨rfl, hb7⟩
  have D7 := hideIt ((hb7.block w6.heap.size (by simp)).trans (heap_1 w6 _))
  have G7 := hideIt ((hb7.block w.heap.size (by simp; omega)).trans ((heap_past _ _ lt06).trans G6.out))
  have F7 := ((Below.refl w6.heap.size w6).alloc (Nat.le_refl _) (.cells (docArr (.iface 60 (resV a0 a1)) none 0 0 m' (some ⟨g2, 0, none⟩)) 50)).trans (hb7.mono (by simp))
  have M7 := hideIt (M6.out.below F7)
  have B8 := hideIt (B7.out.trans (F7.mono B7.out.size))
  have lt7 : w6.heap.size < w7.heap.size := by have := hb7.size; simp at this; omega
  clear hb7 F7 M6 B7 G6 D6 D6' HS H1 k16 k17 k18 l0 l1 l2 l3 l4 XL X0' X1' Y0 Y1 YG XG
  have j0 : w7.cell? ⟨w6.heap.size, 0, none⟩ = some (.string s11) := cell_of_heap D7.out 0
  have j1 : w7.cell? ⟨w6.heap.size, 1, none⟩ = some (.string sOpt) := cell_of_heap D7.out 1
  have j2 : w7.cell? ⟨w6.heap.size, 2, none⟩ = some (.string s120) := cell_of_heap D7.out 2
  go_wp2_with fail
  refine (jsonapi_any _).mono ?_
  rintro e w8 ⟨rfl, hb8⟩
  have D8 := hideIt ((hb8.block w6.heap.size lt7).trans D7.out)
  have G8 := hideIt ((hb8.block w.heap.size (by omega)).trans G7.out)
  have M8 := hideIt (M7.out.below hb8)
  have B9 := hideIt (B8.out.trans (hb8.mono B8.out.size))
  have lt8 : w6.heap.size < w8.heap.size := Nat.lt_of_lt_of_le lt7 hb8.size
  clear hb8 M7 B8 G7 D7 j0 j1 j2
  have d6 : w8.cell? ⟨w6.heap.size, 6, none⟩ = some (.string m'.rep) := cell_of_heap D8.out 6
  have d7 : w8.cell? ⟨w6.heap.size, 7, none⟩ = some (.string m'.api) := cell_of_heap D8.out 7
  have d8 : w8.cell? ⟨w6.heap.size, 8, none⟩ = some (.string m'.sch) := cell_of_heap D8.out 8
  have d9 : w8.cell? ⟨w6.heap.size, 9, none⟩ = some (.bool m'.mo) := cell_of_heap D8.out 9
  have d10 : w8.cell? ⟨w6.heap.size, 10, none⟩ = some (.pointer m'.dr) := cell_of_heap D8.out 10
  have d11 : w8.cell? ⟨w6.heap.size, 11, none⟩ = some (.pointer m'.da) := cell_of_heap D8.out 11
  have d12 : w8.cell? ⟨w6.heap.size, 12, none⟩ = some (.string m'.ts) := cell_of_heap D8.out 12
  have d13 : w8.cell? ⟨w6.heap.size, 13, none⟩ = some (.slice m'.pa m'.pl m'.pc) := cell_of_heap D8.out 13
  have d14 : w8.cell? ⟨w6.heap.size, 14, none⟩ = some (.string m'.im) := cell_of_heap D8.out 14
  have d15 : w8.cell? ⟨w6.heap.size, 15, none⟩ = some (.slice m'.wa m'.wl m'.wc) := cell_of_heap D8.out 15
  have e0 : w8.cell? ⟨w.heap.size, 0, none⟩ = some (.string m.rep) := cell_of_heap G8.out 0
  have e1 : w8.cell? ⟨w.heap.size, 1, none⟩ = some (.string m.api) := cell_of_heap G8.out 1
  have e2 : w8.cell? ⟨w.heap.size, 2, none⟩ = some (.string m.sch) := cell_of_heap G8.out 2
  have e3 : w8.cell? ⟨w.heap.size, 3, none⟩ = some (.bool m.mo) := cell_of_heap G8.out 3
  have e4 : w8.cell? ⟨w.heap.size, 4, none⟩ = some (.pointer m.dr) := cell_of_heap G8.out 4
  have e5 : w8.cell? ⟨w.heap.size, 5, none⟩ = some (.pointer m.da) := cell_of_heap G8.out 5
  have e6 : w8.cell? ⟨w.heap.size, 6, none⟩ = some (.string m.ts) := cell_of_heap G8.out 6
  have e7 : w8.cell? ⟨w.heap.size, 7, none⟩ = some (.slice m.pa m.pl m.pc) := cell_of_heap G8.out 7
  have e8 : w8.cell? ⟨w.heap.size, 8, none⟩ = some (.string m.im) := cell_of_heap G8.out 8
  have e9 : w8.cell? ⟨w.heap.size, 9, none⟩ = some (.slice m.wa m.wl m.wc) := cell_of_heap G8.out 9
  go_wp2_with fail
  refine (metaMatches_any m m' zr za f s t _ (M0.out.below B9.out) M8.out S3.out).mono ?_
  rintro e w9 ⟨rfl, hb9⟩
  have D9 := hideIt ((hb9.block w6.heap.size lt8).trans D8.out)
  have B10 := hideIt (B9.out.trans (hb9.mono B9.out.size))
  clear hb9 M8 B9 G8 D8 d6 d7 d8 d9 d10 d11 d12 d13 d14 d15 e0 e1 e2 e3 e4 e5 e6 e7 e8 e9
  have d4 : w9.cell? ⟨w6.heap.size, 4, none⟩ = some (.slice none 0 0) := cell_of_heap D9.out 4
  have d5 : w9.cell? ⟨w6.heap.size, 5, none⟩ = some (.slice none 0 0) := cell_of_heap D9.out 5
  have z38 := nil38
  have z39 := nil39
  go_wp2
  go_ret
  exact ⟨rfl, B10.out⟩
end Go.Proofs.Qxb6608758aDoor
