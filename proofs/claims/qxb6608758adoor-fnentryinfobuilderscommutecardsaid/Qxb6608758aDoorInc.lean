import Derived.Test.Qxb6608758aDoorLinks
import Derived.Test.Qxb6608758aDoorRes
import Derived.Test.Qxb6608758aDoorZb
namespace Go.Proofs.Qxb6608758aDoor
open Go.RowKit

theorem lt_of_heap {w : World} {g : Nat} {o : Obj} (h : w.heap[g]? = some o) : g < w.heap.size := by
  apply Classical.byContradiction
  intro hn
  rw [Array.getElem?_eq_none (by omega)] at h
  cases h
theorem heap_next {w w' : World} {g : Nat} {o : Obj} (h : w.heap[g]? = some o) (hb : Below w.heap.size w w') : w'.heap[g]? = some o := (hb.block g (lt_of_heap h)).trans h
theorem heap_alloc {w : World} {g : Nat} {o : Obj} (h : w.heap[g]? = some o) (o' : Obj) : (w.alloc o').heap[g]? = some o := (heap_past _ _ (lt_of_heap h)).trans h
theorem Below.refl_alloc (w : World) (o : Obj) : Below w.heap.size w (w.alloc o) := (Below.refl _ _).alloc (Nat.le_refl _) _

theorem rangeAt_heap {w : World} {g : Nat} {C : Array Value} {T : TypeId} (h : w.heap[g]? = some (.cells C T)) : w.rangeAt g 0 C.toList := fun j v hv => by
  rw [Nat.zero_add, cell_of_heap h]
  simpa using hv
/-- A load of a whole struct, in every world that meets S. -/
theorem yld {ops : Array Oper} {S : World → Prop} {op : Oper} {a : Act} (hw : Region.wanted op (yielded ops a.tmps) = true) (T : TypeId) (x : Operand) (ho : op.op = .load T x)
    (g : Nat) (hx : a.eval x = .pointer (some ⟨g, 0, none⟩)) (C : Array Value) (d : TypeDesc) (hS : ∀ w, S w → w.heap[g]? = some (.cells C T))
    (hu : Tryd.prog.underlying T = some d) (hd : d.isRow = true) (hi : (Tryd.prog.info? T).map (·.size) = some C.size) : YieldsIf Tryd.prog ops S op (.agg C) a := by
  have := yieldsIf_load_mid (P := Tryd.prog) (ops := ops) (S := S) hw T x ho g 0 hx C.toList d (fun w h => rangeAt_heap (hS w h)) hu hd (by simpa using hi)
  simpa using this
/-- A store of a whole document into a block that is known whole, as one step of a region that draws. -/
theorem sto50 {ops : Array Oper} {o : Oper} {a : Act} {w : World} {K : Act → World → Prop} {Q : Exit → Act → World → Prop} {E : Prop} (hgd : o.guard = none) (x y : Operand) (ho : o.op = .store 50 x y) (n : Nat) (C cells : Array Value)
    (hx : a.eval x = .pointer (some ⟨n, 0, none⟩)) (hy : a.eval y = .agg cells) (hs : cells.size = 17) (h1 : cells.all (·.oneCell') = true) (hC : C.size = 17) (hg : w.heap[n]? = some (.cells C 50))
    (h : K (a.put o.dst undef) (w.setCells n 0 cells.toList)) : if Region.wanted o (yielded ops a.tmps) = true then Oper.wp Tryd.prog o a w K Q else E := by
  have hw : Region.wanted o (yielded ops a.tmps) = true := by simp [Region.wanted, hgd]
  rw [if_pos hw]
  refine wp_store_mid 50 x y ho n 0 cells hx hy ?_ (by rw [info50, hs]) h1 h
  intro j hj
  rw [Nat.zero_add, cell_of_heap hg, frozen_of_heap hg, Array.getElem?_eq_getElem (by omega)]
  exact ⟨rfl, rfl⟩

set_option linter.unusedSimpArgs false in
set_option maxRecDepth 100000 in
set_option maxHeartbeats 8000000 in
theorem inc_walk (a0 a1 : ByteArray) (m : MV) (zr za : Option Int) (f : Nat → Int) (s t : Nat → ByteArray) (p3 p4 : Option Addr) (l3 c3 l4 c4 : Nat) (s3 t3 s4 t4 : Nat → ByteArray) (w : World) (hm : MOK w m zr za f s t) (hl : Laid w)
    (b0 : a0.size ≤ 9223372036854775807) (b1 : a1.size ≤ 9223372036854775807) (h3 : PairsAt w p3 l3 c3 s3 t3) (h4 : PairsAt w p4 l4 c4 s4 t4) (hl3 : l3 * 32 ≤ 140737488355328) (hl4 : l4 * 32 ≤ 140737488355328) :
    Calls Tryd.prog 5 #[.string a0, .string a1, .agg m.arr, .slice p3 l3 c3, .slice p4 l4 c4] w fun e w' => e = .returned (.bool true) ∧ Below w.heap.size w w' := by
  have M0 := hideIt hm
  have L0 := hideIt hl
  have P3 := hideIt h3
  have P4 := hideIt h4
  clear hm hl h3 h4
  have B1 := hideIt (Below.refl_alloc w (.cells m.arr 26))
  go_enter Tryd.func5, Tryd.ntmps5
  go_wp2_with (first | refine ld26 rfl _ rfl w.heap.size m rfl ?hg ?_)
  case hg => exact heap_1 _ _
  refine (zzInc_any a0 a1 m zr za f s t p3 p4 l3 c3 l4 c4 s3 t3 s4 t4 _ (M0.out.below B1.out) b0 b1 (P3.out.below B1.out) (P4.out.below B1.out) hl3 hl4).mono ?_
  rintro e w1 ⟨⟨r, rfl⟩, hb1⟩
  have G1 := hideIt (heap_next (heap_1 _ _) hb1)
  have B2 := hideIt (B1.out.trans (hb1.mono (by simp)))
  clear hb1 B1
  cases r
  · go_wp2_with fail
    go_ret
    exact ⟨rfl, B2.out⟩
  go_wp2_with fail
  refine (addLen_any _ _ ⟨by omega, by omega⟩ (by omega) (by omega) _).mono ?_
  rintro e w' ⟨q1, rfl, hq1, rfl⟩
  go_wp2_with fail
  refine (addLen_any _ _ hq1 (by omega) (by omega) _).mono ?_
  rintro e w1 ⟨q2, rfl, hq2, rfl⟩
  go_wp2_with (first | refine ld26 rfl _ rfl w.heap.size m rfl G1.out ?_)
  refine (metaBytes_any m zr za f s t q2 hq2 _ (M0.out.below B2.out)).mono ?_
  rintro e w2 ⟨q7, rfl, hq7, hb2⟩
  have G2 := hideIt (heap_next G1.out hb2)
  have B3 := hideIt (B2.out.trans (hb2.mono B2.out.size))
  clear hb2 B2 G1 hq1 hq2
  go_wp2_with fail
  refine (resBytes_any p3 l3 c3 s3 t3 q7 hq7 _ (P3.out.below B3.out) hl3).mono ?_
  rintro e w' ⟨q8, rfl, hq8, rfl⟩
  go_wp2_with fail
  refine (resBytes_any p4 l4 c4 s4 t4 q8 hq8 _ (P4.out.below B3.out) hl4).mono ?_
  rintro e w2 ⟨q9, rfl, hq9, rfl⟩
  by_cases hlim : 1048576 < q9
  · go_wp2_with fail
    go_ret
    exact ⟨rfl, B3.out⟩
  go_wp2_with (first | refine ld26 rfl _ rfl w.heap.size m rfl G2.out ?_)
  refine (toMeta_any m zr za f s t _ (M0.out.below B3.out)).mono ?_
  rintro e w3 ⟨m', rfl, hm3, hsame, hb3⟩
  have G3 := hideIt (heap_next G2.out hb3)
  have B4 := hideIt (B3.out.trans (hb3.mono B3.out.size))
  have M3 := hideIt hm3
  have S3 := hideIt hsame
  clear hb3 B3 G2 hm3 hsame hq7 hq8 hq9
  go_wp2_with fail
  refine (single_any a0 a1 m' _ (L0.out.below B4.out L0.out.2.2.2)).mono ?_
  rintro e w4 ⟨rfl, hb4⟩
  have G4 := hideIt (heap_next G3.out hb4)
  have B5 := hideIt (B4.out.trans (hb4.mono B4.out.size))
  have M4 := hideIt (M3.out.below hb4)
  clear hb4 B4 G3 M3
  have HS := hideIt (docArr_size (.iface 60 (resV a0 a1)) none 0 0 m' none)
  have H1 := hideIt (docArr_one 60 (resV a0 a1) none 0 0 m' none)
  go_wp2_with (first | refine st50 rfl _ _ rfl _ _ _ rfl rfl HS.out H1.out rfl rfl ?_)
  have D5 := hideIt (heap_1 w4 (.cells (docArr (.iface 60 (resV a0 a1)) none 0 0 m' none) 50))
  have G5 := hideIt (heap_alloc G4.out (.cells (docArr (.iface 60 (resV a0 a1)) none 0 0 m' none) 50))
  have M5 := hideIt (M4.out.below (Below.refl_alloc w4 (.cells (docArr (.iface 60 (resV a0 a1)) none 0 0 m' none) 50)))
  have B6 := hideIt (B5.out.trans ((Below.refl_alloc w4 (.cells (docArr (.iface 60 (resV a0 a1)) none 0 0 m' none) 50)).mono B5.out.size))
  generalize w4.alloc (.cells (docArr (.iface 60 (resV a0 a1)) none 0 0 m' none) 50) = w5 at *
  generalize w4.heap.size = gd at *
  clear G4 M4 B5
  simp only [Act.put]
  go_cut [13] (fun v wx => ∃ g b c', v = .pointer (some ⟨g, 0, none⟩) ∧ wx.heap[g]? = some (.cells (docArr (.iface 60 (resV a0 a1)) (some ⟨b, 0, none⟩) l3 c' m' none) 50) ∧ ResR wx b l3 s3 t3 ∧ Below w5.heap.size w5 wx)
  case first =>
    refine wp_region_held_drew (S := fun w' => Below w5.heap.size w5 w') (by kernel_rfl) ((Below.refl _ _).drew) (fun hHeld => ?_)
    refine wpAnyH_take (i := 0) (v := .agg (docArr (.iface 60 (resV a0 a1)) none 0 0 m' none)) rfl (by kernel_rfl) (by kernel_rfl) (by kernel_rfl) (fun _ _ _ h => h) (yld (by rfl) 50 _ rfl gd rfl _ _ (fun w' h => heap_next D5.out h) Tryd.underlying50 rfl (by rw [info50]; rfl)) hHeld ?_
    try simp only [Act.put, List.getElem_toArray, List.getElem_cons_zero, List.getElem_cons_succ, List.setIfInBounds_toArray, List.set_cons_zero, List.set_cons_succ]
    refine wpAnyH_take (i := 1) (v := .slice p3 l3 c3) rfl (by kernel_rfl) (by kernel_rfl) (by kernel_rfl) (fun _ _ _ h => h) (Or.inl ⟨by rfl, fun _ _ => rfl⟩) hHeld ?_
    try simp only [Act.put, List.getElem_toArray, List.getElem_cons_zero, List.getElem_cons_succ, List.setIfInBounds_toArray, List.set_cons_zero, List.set_cons_succ]
    refine wpAnyH_ready (rs := [2, 4]) (by kernel_rfl) (by simp) ?_
    refine AllReadyH.cons (o := _) rfl (fun K hK => ?_) ?_
    · go_simp
      refine (toRes_any p3 l3 c3 s3 t3 _ (P3.out.below (B6.out.trans (Below.mono hHeld B6.out.size))) hl3).mono ?_
      rintro e w6 ⟨q, cq, rfl, hres, hfr, hb6⟩
      go_wp2_with fail
      refine hK.out _ _ (Below.trans hHeld (hb6.mono (Below.size hHeld))) (fun hH6 => ?_)
      clear hK K
      try simp only [Act.put, List.getElem_toArray, List.getElem_cons_zero, List.getElem_cons_succ, List.setIfInBounds_toArray, List.set_cons_zero, List.set_cons_succ]
      refine wpAnyH_ready (rs := [3, 4]) (by kernel_rfl) (by simp) ?_
      refine AllReadyH.cons (o := _) rfl (fun K hK => ?_) ?_
      · go_simp
        refine (withInc_any 60 (resV a0 a1) none 0 0 m' none q l3 cq s3 t3 _ hres).mono ?_
        rintro e w7 ⟨b, cb, rfl, hrr, hqb, hb7⟩
        go_wp2_with fail
        refine hK.out _ _ (Below.trans hH6 (hb7.mono (Below.size hH6))) (fun hH7 => ?_)
        clear hK K
        try simp only [Act.put, List.getElem_toArray, List.getElem_cons_zero, List.getElem_cons_succ, List.setIfInBounds_toArray, List.set_cons_zero, List.set_cons_succ]
        refine wpAnyH_ready (rs := [4]) (by kernel_rfl) (by simp) ?_
        refine AllReadyH.cons (o := _) rfl (fun K hK => ?_) ?_
        · go_simp
          have hbA := Below.refl_alloc w7 (.cells zero50 50)
          have hzA := heap_1 w7 (.cells zero50 50)
          refine hK.out _ _ (Below.trans hH7 (Below.mono hbA (Below.size hH7))) (fun hHA => ?_)
          clear hK K
          try simp only [Act.put, List.getElem_toArray, List.getElem_cons_zero, List.getElem_cons_succ, List.setIfInBounds_toArray, List.set_cons_zero, List.set_cons_succ]
          have hr2 := hrr.below hbA
          have hlt := hb7.size
          refine wpAnyH_ready (rs := [5]) (by kernel_rfl) (by simp) ?_
          refine AllReadyH.cons (o := _) rfl (fun K hK => ?_) AllReadyH.nil
          refine sto50 rfl _ _ rfl w7.heap.size zero50 (docArr (.iface 60 (resV a0 a1)) (some ⟨b, 0, none⟩) l3 cb m' none) rfl rfl rfl (docArr_one _ _ _ _ _ _ _) rfl hzA ?_
          have hle : w5.heap.size ≤ w7.heap.size := Below.size hH7
          refine hK.out _ _ (Below.setCells w7.heap.size hle _ 0 _ hHA) (fun hHZ => ?_)
          clear hK K
          try simp only [Act.put, List.getElem_toArray, List.getElem_cons_zero, List.getElem_cons_succ, List.setIfInBounds_toArray, List.set_cons_zero, List.set_cons_succ]
          refine wpAnyH_done (by kernel_rfl) ?_ _
          go_wp2_with fail
          go_meet
          case rel => exact ⟨w7.heap.size, b, cb, rfl, setCells_heap_whole (docArr (.iface 60 (resV a0 a1)) (some ⟨b, 0, none⟩) l3 cb m' none) hzA rfl, ResR.set hr2 w7.heap.size (by rcases hqb with h | h; exact .inl h; rcases ResQ.lt hres h with h' | h'; exact .inl h'; exact .inr (by omega)) _, hHZ⟩
        exact AllReadyH.nil
      refine AllReadyH.cons (o := _) rfl (fun K hK => ?_) ?_
      · go_simp
        have hbA := Below.refl_alloc w6 (.cells zero50 50)
        have hzA := heap_1 w6 (.cells zero50 50)
        refine hK.out _ _ (Below.trans hH6 (Below.mono hbA (Below.size hH6))) (fun hHA => ?_)
        clear hK K
        try simp only [Act.put, List.getElem_toArray, List.getElem_cons_zero, List.getElem_cons_succ, List.setIfInBounds_toArray, List.set_cons_zero, List.set_cons_succ]
        refine wpAnyH_ready (rs := [3]) (by kernel_rfl) (by simp) ?_
        refine AllReadyH.cons (o := _) rfl (fun K hK => ?_) ?_
        · go_simp
          refine (withInc_any 60 (resV a0 a1) none 0 0 m' none q l3 cq s3 t3 _ (hres.below hbA)).mono ?_
          rintro e w7 ⟨b, cb, rfl, hrr, hqb, hb7⟩
          go_wp2_with fail
          refine hK.out _ _ (Below.trans hHA (hb7.mono (Below.size hHA))) (fun hH7 => ?_)
          clear hK K
          try simp only [Act.put, List.getElem_toArray, List.getElem_cons_zero, List.getElem_cons_succ, List.setIfInBounds_toArray, List.set_cons_zero, List.set_cons_succ]
          have hz7 := heap_next hzA hb7
          refine wpAnyH_ready (rs := [5]) (by kernel_rfl) (by simp) ?_
          refine AllReadyH.cons (o := _) rfl (fun K hK => ?_) AllReadyH.nil
          refine sto50 rfl _ _ rfl w6.heap.size zero50 (docArr (.iface 60 (resV a0 a1)) (some ⟨b, 0, none⟩) l3 cb m' none) rfl rfl rfl (docArr_one _ _ _ _ _ _ _) rfl hz7 ?_
          have hle : w5.heap.size ≤ w6.heap.size := Below.size hH6
          refine hK.out _ _ (Below.setCells w6.heap.size hle _ 0 _ hH7) (fun hHZ => ?_)
          clear hK K
          try simp only [Act.put, List.getElem_toArray, List.getElem_cons_zero, List.getElem_cons_succ, List.setIfInBounds_toArray, List.set_cons_zero, List.set_cons_succ]
          refine wpAnyH_done (by kernel_rfl) ?_ _
          go_wp2_with fail
          go_meet
          case rel => exact ⟨w6.heap.size, b, cb, rfl, setCells_heap_whole (docArr (.iface 60 (resV a0 a1)) (some ⟨b, 0, none⟩) l3 cb m' none) hz7 rfl, ResR.set hrr w6.heap.size (by rcases hqb with h | h; exact .inl h; rcases ResQ.lt hres h with h' | h'; exact .inl h'; exact .inr (by omega)) _, hHZ⟩
        exact AllReadyH.nil
      exact AllReadyH.nil
    refine AllReadyH.cons (o := _) rfl (fun K hK => ?_) ?_
    · go_simp
      have hbA := Below.refl_alloc w5.drew (.cells zero50 50)
      have hzA := heap_1 w5.drew (.cells zero50 50)
      refine hK.out _ _ (Below.trans hHeld (Below.mono hbA (Below.size hHeld))) (fun hHA => ?_)
      clear hK K
      try simp only [Act.put, List.getElem_toArray, List.getElem_cons_zero, List.getElem_cons_succ, List.setIfInBounds_toArray, List.set_cons_zero, List.set_cons_succ]
      refine wpAnyH_ready (rs := [2]) (by kernel_rfl) (by simp) ?_
      refine AllReadyH.cons (o := _) rfl (fun K hK => ?_) ?_
      · go_simp
        refine (toRes_any p3 l3 c3 s3 t3 _ (P3.out.below (B6.out.trans (Below.mono hHA B6.out.size))) hl3).mono ?_
        rintro e w6 ⟨q, cq, rfl, hres, hfr, hb6⟩
        go_wp2_with fail
        refine hK.out _ _ (Below.trans hHA (hb6.mono (Below.size hHA))) (fun hH6 => ?_)
        clear hK K
        try simp only [Act.put, List.getElem_toArray, List.getElem_cons_zero, List.getElem_cons_succ, List.setIfInBounds_toArray, List.set_cons_zero, List.set_cons_succ]
        have hz6 := heap_next hzA hb6
        refine wpAnyH_ready (rs := [3]) (by kernel_rfl) (by simp) ?_
        refine AllReadyH.cons (o := _) rfl (fun K hK => ?_) ?_
        · go_simp
          refine (withInc_any 60 (resV a0 a1) none 0 0 m' none q l3 cq s3 t3 _ hres).mono ?_
          rintro e w7 ⟨b, cb, rfl, hrr, hqb, hb7⟩
          go_wp2_with fail
          refine hK.out _ _ (Below.trans hH6 (hb7.mono (Below.size hH6))) (fun hH7 => ?_)
          clear hK K
          try simp only [Act.put, List.getElem_toArray, List.getElem_cons_zero, List.getElem_cons_succ, List.setIfInBounds_toArray, List.set_cons_zero, List.set_cons_succ]
          have hz7 := heap_next hz6 hb7
          refine wpAnyH_ready (rs := [5]) (by kernel_rfl) (by simp) ?_
          refine AllReadyH.cons (o := _) rfl (fun K hK => ?_) AllReadyH.nil
          refine sto50 rfl _ _ rfl w5.heap.size zero50 (docArr (.iface 60 (resV a0 a1)) (some ⟨b, 0, none⟩) l3 cb m' none) rfl rfl rfl (docArr_one _ _ _ _ _ _ _) rfl hz7 ?_
          have hle : w5.heap.size ≤ w5.heap.size := Nat.le_refl _
          refine hK.out _ _ (Below.setCells w5.heap.size hle _ 0 _ hH7) (fun hHZ => ?_)
          clear hK K
          try simp only [Act.put, List.getElem_toArray, List.getElem_cons_zero, List.getElem_cons_succ, List.setIfInBounds_toArray, List.set_cons_zero, List.set_cons_succ]
          refine wpAnyH_done (by kernel_rfl) ?_ _
          go_wp2_with fail
          go_meet
          case rel => exact ⟨w5.heap.size, b, cb, rfl, setCells_heap_whole (docArr (.iface 60 (resV a0 a1)) (some ⟨b, 0, none⟩) l3 cb m' none) hz7 rfl, ResR.set hrr w5.heap.size (by rcases hqb with h | h; exact .inl h; have h9 := hfr _ h; simp at h9; exact .inr (by omega)) _, hHZ⟩
        exact AllReadyH.nil
      exact AllReadyH.nil
    exact AllReadyH.nil
  case rest =>
    obtain ⟨gx, bx, cx, rfl, hX, hRX, hbX⟩ := hcut
    rename World => v1
    have D6 := hideIt (heap_next D5.out hbX)
    have G6 := hideIt (heap_next G5.out hbX)
    have M6 := hideIt (M5.out.below hbX)
    have B7 := hideIt (B6.out.trans (hbX.mono B6.out.size))
    have X1 := hideIt hX
    have RX1 := hideIt hRX
    clear hX hRX hbX D5 G5 M5 B6 HS H1
    go_wp2_with fail
    try simp only [Act.put]
    go_cut [14] (fun v wx => ∃ g b c', v = .pointer (some ⟨g, 0, none⟩) ∧ wx.heap[g]? = some (.cells (docArr (.iface 60 (resV a0 a1)) (some ⟨b, 0, none⟩) l4 c' m' none) 50) ∧ ResR wx b l4 s4 t4 ∧ Below v1.heap.size v1 wx)
    case first =>
      refine wp_region_held_drew (S := fun w' => Below v1.heap.size v1 w') (by kernel_rfl) ((Below.refl _ _).drew) (fun hHeld => ?_)
      refine wpAnyH_take (i := 0) (v := .agg (docArr (.iface 60 (resV a0 a1)) (some ⟨bx, 0, none⟩) l3 cx m' none)) rfl (by kernel_rfl) (by kernel_rfl) (by kernel_rfl) (fun _ _ _ h => h) (yld (by rfl) 50 _ rfl gx rfl _ _ (fun w' h => heap_next X1.out h) Tryd.underlying50 rfl (by rw [info50]; rfl)) hHeld ?_
      try simp only [Act.put, List.getElem_toArray, List.getElem_cons_zero, List.getElem_cons_succ, List.setIfInBounds_toArray, List.set_cons_zero, List.set_cons_succ]
      refine wpAnyH_take (i := 1) (v := .slice p4 l4 c4) rfl (by kernel_rfl) (by kernel_rfl) (by kernel_rfl) (fun _ _ _ h => h) (Or.inl ⟨by rfl, fun _ _ => rfl⟩) hHeld ?_
      try simp only [Act.put, List.getElem_toArray, List.getElem_cons_zero, List.getElem_cons_succ, List.setIfInBounds_toArray, List.set_cons_zero, List.set_cons_succ]
      refine wpAnyH_ready (rs := [2, 4]) (by kernel_rfl) (by simp) ?_
      refine AllReadyH.cons (o := _) rfl (fun K hK => ?_) ?_
      · go_simp
        refine (toRes_any p4 l4 c4 s4 t4 _ (P4.out.below (B7.out.trans (Below.mono hHeld B7.out.size))) hl4).mono ?_
        rintro e w6 ⟨q, cq, rfl, hres, hfr, hb6⟩
        go_wp2_with fail
        refine hK.out _ _ (Below.trans hHeld (hb6.mono (Below.size hHeld))) (fun hH6 => ?_)
        clear hK K
        try simp only [Act.put, List.getElem_toArray, List.getElem_cons_zero, List.getElem_cons_succ, List.setIfInBounds_toArray, List.set_cons_zero, List.set_cons_succ]
        refine wpAnyH_ready (rs := [3, 4]) (by kernel_rfl) (by simp) ?_
        refine AllReadyH.cons (o := _) rfl (fun K hK => ?_) ?_
        · go_simp
          refine (withInc_any 60 (resV a0 a1) (some ⟨bx, 0, none⟩) l3 cx m' none q l4 cq s4 t4 _ hres).mono ?_
          rintro e w7 ⟨b, cb, rfl, hrr, hqb, hb7⟩
          go_wp2_with fail
          refine hK.out _ _ (Below.trans hH6 (hb7.mono (Below.size hH6))) (fun hH7 => ?_)
          clear hK K
          try simp only [Act.put, List.getElem_toArray, List.getElem_cons_zero, List.getElem_cons_succ, List.setIfInBounds_toArray, List.set_cons_zero, List.set_cons_succ]
          refine wpAnyH_ready (rs := [4]) (by kernel_rfl) (by simp) ?_
          refine AllReadyH.cons (o := _) rfl (fun K hK => ?_) ?_
          · go_simp
            have hbA := Below.refl_alloc w7 (.cells zero50 50)
            have hzA := heap_1 w7 (.cells zero50 50)
            refine hK.out _ _ (Below.trans hH7 (Below.mono hbA (Below.size hH7))) (fun hHA => ?_)
            clear hK K
            try simp only [Act.put, List.getElem_toArray, List.getElem_cons_zero, List.getElem_cons_succ, List.setIfInBounds_toArray, List.set_cons_zero, List.set_cons_succ]
            have hr2 := hrr.below hbA
            have hlt := hb7.size
            refine wpAnyH_ready (rs := [5]) (by kernel_rfl) (by simp) ?_
            refine AllReadyH.cons (o := _) rfl (fun K hK => ?_) AllReadyH.nil
            refine sto50 rfl _ _ rfl w7.heap.size zero50 (docArr (.iface 60 (resV a0 a1)) (some ⟨b, 0, none⟩) l4 cb m' none) rfl rfl rfl (docArr_one _ _ _ _ _ _ _) rfl hzA ?_
            have hle : v1.heap.size ≤ w7.heap.size := Below.size hH7
            refine hK.out _ _ (Below.setCells w7.heap.size hle _ 0 _ hHA) (fun hHZ => ?_)
            clear hK K
            try simp only [Act.put, List.getElem_toArray, List.getElem_cons_zero, List.getElem_cons_succ, List.setIfInBounds_toArray, List.set_cons_zero, List.set_cons_succ]
            refine wpAnyH_done (by kernel_rfl) ?_ _
            go_wp2_with fail
            go_meet
            case rel => exact ⟨w7.heap.size, b, cb, rfl, setCells_heap_whole (docArr (.iface 60 (resV a0 a1)) (some ⟨b, 0, none⟩) l4 cb m' none) hzA rfl, ResR.set hr2 w7.heap.size (by rcases hqb with h | h; exact .inl h; rcases ResQ.lt hres h with h' | h'; exact .inl h'; exact .inr (by omega)) _, hHZ⟩
          exact AllReadyH.nil
        refine AllReadyH.cons (o := _) rfl (fun K hK => ?_) ?_
        · go_simp
          have hbA := Below.refl_alloc w6 (.cells zero50 50)
          have hzA := heap_1 w6 (.cells zero50 50)
          refine hK.out _ _ (Below.trans hH6 (Below.mono hbA (Below.size hH6))) (fun hHA => ?_)
          clear hK K
          try simp only [Act.put, List.getElem_toArray, List.getElem_cons_zero, List.getElem_cons_succ, List.setIfInBounds_toArray, List.set_cons_zero, List.set_cons_succ]
          refine wpAnyH_ready (rs := [3]) (by kernel_rfl) (by simp) ?_
          refine AllReadyH.cons (o := _) rfl (fun K hK => ?_) ?_
          · go_simp
            refine (withInc_any 60 (resV a0 a1) (some ⟨bx, 0, none⟩) l3 cx m' none q l4 cq s4 t4 _ (hres.below hbA)).mono ?_
            rintro e w7 ⟨b, cb, rfl, hrr, hqb, hb7⟩
            go_wp2_with fail
            refine hK.out _ _ (Below.trans hHA (hb7.mono (Below.size hHA))) (fun hH7 => ?_)
            clear hK K
            try simp only [Act.put, List.getElem_toArray, List.getElem_cons_zero, List.getElem_cons_succ, List.setIfInBounds_toArray, List.set_cons_zero, List.set_cons_succ]
            have hz7 := heap_next hzA hb7
            refine wpAnyH_ready (rs := [5]) (by kernel_rfl) (by simp) ?_
            refine AllReadyH.cons (o := _) rfl (fun K hK => ?_) AllReadyH.nil
            refine sto50 rfl _ _ rfl w6.heap.size zero50 (docArr (.iface 60 (resV a0 a1)) (some ⟨b, 0, none⟩) l4 cb m' none) rfl rfl rfl (docArr_one _ _ _ _ _ _ _) rfl hz7 ?_
            have hle : v1.heap.size ≤ w6.heap.size := Below.size hH6
            refine hK.out _ _ (Below.setCells w6.heap.size hle _ 0 _ hH7) (fun hHZ => ?_)
            clear hK K
            try simp only [Act.put, List.getElem_toArray, List.getElem_cons_zero, List.getElem_cons_succ, List.setIfInBounds_toArray, List.set_cons_zero, List.set_cons_succ]
            refine wpAnyH_done (by kernel_rfl) ?_ _
            go_wp2_with fail
            go_meet
            case rel => exact ⟨w6.heap.size, b, cb, rfl, setCells_heap_whole (docArr (.iface 60 (resV a0 a1)) (some ⟨b, 0, none⟩) l4 cb m' none) hz7 rfl, ResR.set hrr w6.heap.size (by rcases hqb with h | h; exact .inl h; rcases ResQ.lt hres h with h' | h'; exact .inl h'; exact .inr (by omega)) _, hHZ⟩
          exact AllReadyH.nil
        exact AllReadyH.nil
      refine AllReadyH.cons (o := _) rfl (fun K hK => ?_) ?_
      · go_simp
        have hbA := Below.refl_alloc v1.drew (.cells zero50 50)
        have hzA := heap_1 v1.drew (.cells zero50 50)
        refine hK.out _ _ (Below.trans hHeld (Below.mono hbA (Below.size hHeld))) (fun hHA => ?_)
        clear hK K
        try simp only [Act.put, List.getElem_toArray, List.getElem_cons_zero, List.getElem_cons_succ, List.setIfInBounds_toArray, List.set_cons_zero, List.set_cons_succ]
        refine wpAnyH_ready (rs := [2]) (by kernel_rfl) (by simp) ?_
        refine AllReadyH.cons (o := _) rfl (fun K hK => ?_) ?_
        · go_simp
          refine (toRes_any p4 l4 c4 s4 t4 _ (P4.out.below (B7.out.trans (Below.mono hHA B7.out.size))) hl4).mono ?_
          rintro e w6 ⟨q, cq, rfl, hres, hfr, hb6⟩
          go_wp2_with fail
          refine hK.out _ _ (Below.trans hHA (hb6.mono (Below.size hHA))) (fun hH6 => ?_)
          clear hK K
          try simp only [Act.put, List.getElem_toArray, List.getElem_cons_zero, List.getElem_cons_succ, List.setIfInBounds_toArray, List.set_cons_zero, List.set_cons_succ]
          have hz6 := heap_next hzA hb6
          refine wpAnyH_ready (rs := [3]) (by kernel_rfl) (by simp) ?_
          refine AllReadyH.cons (o := _) rfl (fun K hK => ?_) ?_
          · go_simp
            refine (withInc_any 60 (resV a0 a1) (some ⟨bx, 0, none⟩) l3 cx m' none q l4 cq s4 t4 _ hres).mono ?_
            rintro e w7 ⟨b, cb, rfl, hrr, hqb, hb7⟩
            go_wp2_with fail
            refine hK.out _ _ (Below.trans hH6 (hb7.mono (Below.size hH6))) (fun hH7 => ?_)
            clear hK K
            try simp only [Act.put, List.getElem_toArray, List.getElem_cons_zero, List.getElem_cons_succ, List.setIfInBounds_toArray, List.set_cons_zero, List.set_cons_succ]
            have hz7 := heap_next hz6 hb7
            refine wpAnyH_ready (rs := [5]) (by kernel_rfl) (by simp) ?_
            refine AllReadyH.cons (o := _) rfl (fun K hK => ?_) AllReadyH.nil
            refine sto50 rfl _ _ rfl v1.heap.size zero50 (docArr (.iface 60 (resV a0 a1)) (some ⟨b, 0, none⟩) l4 cb m' none) rfl rfl rfl (docArr_one _ _ _ _ _ _ _) rfl hz7 ?_
            have hle : v1.heap.size ≤ v1.heap.size := Nat.le_refl _
            refine hK.out _ _ (Below.setCells v1.heap.size hle _ 0 _ hH7) (fun hHZ => ?_)
            clear hK K
            try simp only [Act.put, List.getElem_toArray, List.getElem_cons_zero, List.getElem_cons_succ, List.setIfInBounds_toArray, List.set_cons_zero, List.set_cons_succ]
            refine wpAnyH_done (by kernel_rfl) ?_ _
            go_wp2_with fail
            go_meet
            case rel => exact ⟨v1.heap.size, b, cb, rfl, setCells_heap_whole (docArr (.iface 60 (resV a0 a1)) (some ⟨b, 0, none⟩) l4 cb m' none) hz7 rfl, ResR.set hrr v1.heap.size (by rcases hqb with h | h; exact .inl h; have h9 := hfr _ h; simp at h9; exact .inr (by omega)) _, hHZ⟩
          exact AllReadyH.nil
        exact AllReadyH.nil
      exact AllReadyH.nil
    case rest =>
      obtain ⟨gy, b2, cy, rfl, hY, hRY, hbY⟩ := hcut
      rename World => v2
      have D7 := hideIt (heap_next D6.out hbY)
      have G7 := hideIt (heap_next G6.out hbY)
      have M7 := hideIt (M6.out.below hbY)
      have B8 := hideIt (B7.out.trans (hbY.mono B7.out.size))
      have X2 := hideIt (heap_next X1.out hbY)
      have RX2 := hideIt (RX1.out.below hbY)
      have Y2 := hideIt hY
      have RY2 := hideIt hRY
      clear hY hRY hbY D6 G6 M6 B7 X1 RX1
      go_wp2_with fail
      try simp only [Act.put]
      go_cut [15] (fun v wx => ∃ g b c', v = .pointer (some ⟨g, 0, none⟩) ∧ wx.heap[g]? = some (.cells (docArr (.iface 60 (resV a0 a1)) (some ⟨b, 0, none⟩) l4 c' m' none) 50) ∧ ResR wx b l4 s4 t4 ∧ Below v2.heap.size v2 wx)
      case first =>
        refine wp_region_held_drew (S := fun w' => Below v2.heap.size v2 w') (by kernel_rfl) ((Below.refl _ _).drew) (fun hHeld => ?_)
        refine wpAnyH_take (i := 0) (v := .agg (docArr (.iface 60 (resV a0 a1)) none 0 0 m' none)) rfl (by kernel_rfl) (by kernel_rfl) (by kernel_rfl) (fun _ _ _ h => h) (yld (by rfl) 50 _ rfl gd rfl _ _ (fun w' h => heap_next D7.out h) Tryd.underlying50 rfl (by rw [info50]; rfl)) hHeld ?_
        try simp only [Act.put, List.getElem_toArray, List.getElem_cons_zero, List.getElem_cons_succ, List.setIfInBounds_toArray, List.set_cons_zero, List.set_cons_succ]
        refine wpAnyH_take (i := 1) (v := .slice p4 l4 c4) rfl (by kernel_rfl) (by kernel_rfl) (by kernel_rfl) (fun _ _ _ h => h) (Or.inl ⟨by rfl, fun _ _ => rfl⟩) hHeld ?_
        try simp only [Act.put, List.getElem_toArray, List.getElem_cons_zero, List.getElem_cons_succ, List.setIfInBounds_toArray, List.set_cons_zero, List.set_cons_succ]
        refine wpAnyH_ready (rs := [2, 4]) (by kernel_rfl) (by simp) ?_
        refine AllReadyH.cons (o := _) rfl (fun K hK => ?_) ?_
        · go_simp
          refine (toRes_any p4 l4 c4 s4 t4 _ (P4.out.below (B8.out.trans (Below.mono hHeld B8.out.size))) hl4).mono ?_
          rintro e w6 ⟨q, cq, rfl, hres, hfr, hb6⟩
          go_wp2_with fail
          refine hK.out _ _ (Below.trans hHeld (hb6.mono (Below.size hHeld))) (fun hH6 => ?_)
          clear hK K
          try simp only [Act.put, List.getElem_toArray, List.getElem_cons_zero, List.getElem_cons_succ, List.setIfInBounds_toArray, List.set_cons_zero, List.set_cons_succ]
          refine wpAnyH_ready (rs := [3, 4]) (by kernel_rfl) (by simp) ?_
          refine AllReadyH.cons (o := _) rfl (fun K hK => ?_) ?_
          · go_simp
            refine (withInc_any 60 (resV a0 a1) none 0 0 m' none q l4 cq s4 t4 _ hres).mono ?_
            rintro e w7 ⟨b, cb, rfl, hrr, hqb, hb7⟩
            go_wp2_with fail
            refine hK.out _ _ (Below.trans hH6 (hb7.mono (Below.size hH6))) (fun hH7 => ?_)
            clear hK K
            try simp only [Act.put, List.getElem_toArray, List.getElem_cons_zero, List.getElem_cons_succ, List.setIfInBounds_toArray, List.set_cons_zero, List.set_cons_succ]
            refine wpAnyH_ready (rs := [4]) (by kernel_rfl) (by simp) ?_
            refine AllReadyH.cons (o := _) rfl (fun K hK => ?_) ?_
            · go_simp
              have hbA := Below.refl_alloc w7 (.cells zero50 50)
              have hzA := heap_1 w7 (.cells zero50 50)
              refine hK.out _ _ (Below.trans hH7 (Below.mono hbA (Below.size hH7))) (fun hHA => ?_)
              clear hK K
              try simp only [Act.put, List.getElem_toArray, List.getElem_cons_zero, List.getElem_cons_succ, List.setIfInBounds_toArray, List.set_cons_zero, List.set_cons_succ]
              have hr2 := hrr.below hbA
              have hlt := hb7.size
              refine wpAnyH_ready (rs := [5]) (by kernel_rfl) (by simp) ?_
              refine AllReadyH.cons (o := _) rfl (fun K hK => ?_) AllReadyH.nil
              refine sto50 rfl _ _ rfl w7.heap.size zero50 (docArr (.iface 60 (resV a0 a1)) (some ⟨b, 0, none⟩) l4 cb m' none) rfl rfl rfl (docArr_one _ _ _ _ _ _ _) rfl hzA ?_
              have hle : v2.heap.size ≤ w7.heap.size := Below.size hH7
              refine hK.out _ _ (Below.setCells w7.heap.size hle _ 0 _ hHA) (fun hHZ => ?_)
              clear hK K
              try simp only [Act.put, List.getElem_toArray, List.getElem_cons_zero, List.getElem_cons_succ, List.setIfInBounds_toArray, List.set_cons_zero, List.set_cons_succ]
              refine wpAnyH_done (by kernel_rfl) ?_ _
              go_wp2_with fail
              go_meet
              case rel => exact ⟨w7.heap.size, b, cb, rfl, setCells_heap_whole (docArr (.iface 60 (resV a0 a1)) (some ⟨b, 0, none⟩) l4 cb m' none) hzA rfl, ResR.set hr2 w7.heap.size (by rcases hqb with h | h; exact .inl h; rcases ResQ.lt hres h with h' | h'; exact .inl h'; exact .inr (by omega)) _, hHZ⟩
            exact AllReadyH.nil
          refine AllReadyH.cons (o := _) rfl (fun K hK => ?_) ?_
          · go_simp
            have hbA := Below.refl_alloc w6 (.cells zero50 50)
            have hzA := heap_1 w6 (.cells zero50 50)
            refine hK.out _ _ (Below.trans hH6 (Below.mono hbA (Below.size hH6))) (fun hHA => ?_)
            clear hK K
            try simp only [Act.put, List.getElem_toArray, List.getElem_cons_zero, List.getElem_cons_succ, List.setIfInBounds_toArray, List.set_cons_zero, List.set_cons_succ]
            refine wpAnyH_ready (rs := [3]) (by kernel_rfl) (by simp) ?_
            refine AllReadyH.cons (o := _) rfl (fun K hK => ?_) ?_
            · go_simp
              refine (withInc_any 60 (resV a0 a1) none 0 0 m' none q l4 cq s4 t4 _ (hres.below hbA)).mono ?_
              rintro e w7 ⟨b, cb, rfl, hrr, hqb, hb7⟩
              go_wp2_with fail
              refine hK.out _ _ (Below.trans hHA (hb7.mono (Below.size hHA))) (fun hH7 => ?_)
              clear hK K
              try simp only [Act.put, List.getElem_toArray, List.getElem_cons_zero, List.getElem_cons_succ, List.setIfInBounds_toArray, List.set_cons_zero, List.set_cons_succ]
              have hz7 := heap_next hzA hb7
              refine wpAnyH_ready (rs := [5]) (by kernel_rfl) (by simp) ?_
              refine AllReadyH.cons (o := _) rfl (fun K hK => ?_) AllReadyH.nil
              refine sto50 rfl _ _ rfl w6.heap.size zero50 (docArr (.iface 60 (resV a0 a1)) (some ⟨b, 0, none⟩) l4 cb m' none) rfl rfl rfl (docArr_one _ _ _ _ _ _ _) rfl hz7 ?_
              have hle : v2.heap.size ≤ w6.heap.size := Below.size hH6
              refine hK.out _ _ (Below.setCells w6.heap.size hle _ 0 _ hH7) (fun hHZ => ?_)
              clear hK K
              try simp only [Act.put, List.getElem_toArray, List.getElem_cons_zero, List.getElem_cons_succ, List.setIfInBounds_toArray, List.set_cons_zero, List.set_cons_succ]
              refine wpAnyH_done (by kernel_rfl) ?_ _
              go_wp2_with fail
              go_meet
              case rel => exact ⟨w6.heap.size, b, cb, rfl, setCells_heap_whole (docArr (.iface 60 (resV a0 a1)) (some ⟨b, 0, none⟩) l4 cb m' none) hz7 rfl, ResR.set hrr w6.heap.size (by rcases hqb with h | h; exact .inl h; rcases ResQ.lt hres h with h' | h'; exact .inl h'; exact .inr (by omega)) _, hHZ⟩
            exact AllReadyH.nil
          exact AllReadyH.nil
        refine AllReadyH.cons (o := _) rfl (fun K hK => ?_) ?_
        · go_simp
          have hbA := Below.refl_alloc v2.drew (.cells zero50 50)
          have hzA := heap_1 v2.drew (.cells zero50 50)
          refine hK.out _ _ (Below.trans hHeld (Below.mono hbA (Below.size hHeld))) (fun hHA => ?_)
          clear hK K
          try simp only [Act.put, List.getElem_toArray, List.getElem_cons_zero, List.getElem_cons_succ, List.setIfInBounds_toArray, List.set_cons_zero, List.set_cons_succ]
          refine wpAnyH_ready (rs := [2]) (by kernel_rfl) (by simp) ?_
          refine AllReadyH.cons (o := _) rfl (fun K hK => ?_) ?_
          · go_simp
            refine (toRes_any p4 l4 c4 s4 t4 _ (P4.out.below (B8.out.trans (Below.mono hHA B8.out.size))) hl4).mono ?_
            rintro e w6 ⟨q, cq, rfl, hres, hfr, hb6⟩
            go_wp2_with fail
            refine hK.out _ _ (Below.trans hHA (hb6.mono (Below.size hHA))) (fun hH6 => ?_)
            clear hK K
            try simp only [Act.put, List.getElem_toArray, List.getElem_cons_zero, List.getElem_cons_succ, List.setIfInBounds_toArray, List.set_cons_zero, List.set_cons_succ]
            have hz6 := heap_next hzA hb6
            refine wpAnyH_ready (rs := [3]) (by kernel_rfl) (by simp) ?_
            refine AllReadyH.cons (o := _) rfl (fun K hK => ?_) ?_
            · go_simp
              refine (withInc_any 60 (resV a0 a1) none 0 0 m' none q l4 cq s4 t4 _ hres).mono ?_
              rintro e w7 ⟨b, cb, rfl, hrr, hqb, hb7⟩
              go_wp2_with fail
              refine hK.out _ _ (Below.trans hH6 (hb7.mono (Below.size hH6))) (fun hH7 => ?_)
              clear hK K
              try simp only [Act.put, List.getElem_toArray, List.getElem_cons_zero, List.getElem_cons_succ, List.setIfInBounds_toArray, List.set_cons_zero, List.set_cons_succ]
              have hz7 := heap_next hz6 hb7
              refine wpAnyH_ready (rs := [5]) (by kernel_rfl) (by simp) ?_
              refine AllReadyH.cons (o := _) rfl (fun K hK => ?_) AllReadyH.nil
              refine sto50 rfl _ _ rfl v2.heap.size zero50 (docArr (.iface 60 (resV a0 a1)) (some ⟨b, 0, none⟩) l4 cb m' none) rfl rfl rfl (docArr_one _ _ _ _ _ _ _) rfl hz7 ?_
              have hle : v2.heap.size ≤ v2.heap.size := Nat.le_refl _
              refine hK.out _ _ (Below.setCells v2.heap.size hle _ 0 _ hH7) (fun hHZ => ?_)
              clear hK K
              try simp only [Act.put, List.getElem_toArray, List.getElem_cons_zero, List.getElem_cons_succ, List.setIfInBounds_toArray, List.set_cons_zero, List.set_cons_succ]
              refine wpAnyH_done (by kernel_rfl) ?_ _
              go_wp2_with fail
              go_meet
              case rel => exact ⟨v2.heap.size, b, cb, rfl, setCells_heap_whole (docArr (.iface 60 (resV a0 a1)) (some ⟨b, 0, none⟩) l4 cb m' none) hz7 rfl, ResR.set hrr v2.heap.size (by rcases hqb with h | h; exact .inl h; have h9 := hfr _ h; simp at h9; exact .inr (by omega)) _, hHZ⟩
            exact AllReadyH.nil
          exact AllReadyH.nil
        exact AllReadyH.nil
      case rest =>
        obtain ⟨gz, b3, cz, rfl, hZ, hRZ, hbZ⟩ := hcut
        rename World => v3
        have D8 := hideIt (heap_next D7.out hbZ)
        have G8 := hideIt (heap_next G7.out hbZ)
        have M8 := hideIt (M7.out.below hbZ)
        have B9 := hideIt (B8.out.trans (hbZ.mono B8.out.size))
        have X3 := hideIt (heap_next X2.out hbZ)
        have RX3 := hideIt (RX2.out.below hbZ)
        have Y3 := hideIt (heap_next Y2.out hbZ)
        have RY3 := hideIt (RY2.out.below hbZ)
        have Z3 := hideIt hZ
        have RZ3 := hideIt hRZ
        clear hZ hRZ hbZ D7 G7 M7 B8 X2 RX2 Y2 RY2
        have k4 : v3.cell? ⟨gd, 4, none⟩ = some (.slice none 0 0) := cell_of_heap D8.out 4
        have x4 : v3.cell? ⟨gx, 4, none⟩ = some (.slice (some ⟨bx, 0, none⟩) l3 cx) := cell_of_heap X3.out 4
        have y4 : v3.cell? ⟨gy, 4, none⟩ = some (.slice (some ⟨b2, 0, none⟩) l4 cy) := cell_of_heap Y3.out 4
        have z4 : v3.cell? ⟨gz, 4, none⟩ = some (.slice (some ⟨b3, 0, none⟩) l4 cz) := cell_of_heap Z3.out 4
        have z38 := nil38
        have z39 := nil39
        go_wp2_with fail
        refine (incMatches_any bx cx p3 l3 c3 s3 t3 _ RX3.out (P3.out.below B9.out) hl3).mono ?_
        rintro e v4 ⟨rfl, hb4⟩
        have D9 := hideIt (heap_next D8.out hb4)
        have G9 := hideIt (heap_next G8.out hb4)
        have M9 := hideIt (M8.out.below hb4)
        have B10 := hideIt (B9.out.trans (hb4.mono B9.out.size))
        have Y4 := hideIt (heap_next Y3.out hb4)
        have RY4 := hideIt (RY3.out.below hb4)
        have Z4 := hideIt (heap_next Z3.out hb4)
        have RZ4 := hideIt (RZ3.out.below hb4)
        clear hb4 D8 G8 M8 B9 X3 RX3 Y3 RY3 Z3 RZ3 k4 x4 y4 z4
        have y4 : v4.cell? ⟨gy, 4, none⟩ = some (.slice (some ⟨b2, 0, none⟩) l4 cy) := cell_of_heap Y4.out 4
        have z4 : v4.cell? ⟨gz, 4, none⟩ = some (.slice (some ⟨b3, 0, none⟩) l4 cz) := cell_of_heap Z4.out 4
        go_wp2_with fail
        refine (incMatches_any b2 cy p4 l4 c4 s4 t4 _ RY4.out (P4.out.below B10.out) hl4).mono ?_
        rintro e v5 ⟨rfl, hb5⟩
        have G10 := hideIt (heap_next G9.out hb5)
        have M10 := hideIt (M9.out.below hb5)
        have B11 := hideIt (B10.out.trans (hb5.mono B10.out.size))
        have Y5 := hideIt (heap_next Y4.out hb5)
        have Z5 := hideIt (heap_next Z4.out hb5)
        have RZ5 := hideIt (RZ4.out.below hb5)
        clear hb5 D9 G9 M9 B10 Y4 RY4 Z4 RZ4 y4 z4
        have z4 : v5.cell? ⟨gz, 4, none⟩ = some (.slice (some ⟨b3, 0, none⟩) l4 cz) := cell_of_heap Z5.out 4
        go_wp2_with fail
        refine (incMatches_any b3 cz p4 l4 c4 s4 t4 _ RZ5.out (P4.out.below B11.out) hl4).mono ?_
        rintro e v6 ⟨rfl, hb6⟩
        have G11 := hideIt (heap_next G10.out hb6)
        have M11 := hideIt (M10.out.below hb6)
        have B12 := hideIt (B11.out.trans (hb6.mono B11.out.size))
        have Y6 := hideIt (heap_next Y5.out hb6)
        clear hb6 G10 M10 B11 Y5 Z5 RZ5 z4
        have HS := hideIt (docArr_size (.iface 60 (resV a0 a1)) (some ⟨b2, 0, none⟩) l4 cy m' none)
        go_wp2_with (first | refine ld50 rfl _ rfl gy (docArr (.iface 60 (resV a0 a1)) (some ⟨b2, 0, none⟩) l4 cy m' none) rfl HS.out Y6.out ?_)
        refine (dataRes_any a0 a1 (some ⟨b2, 0, none⟩) l4 cy m' none _).mono ?_
        rintro e v7 ⟨rfl, hb7⟩
        have G12 := hideIt (heap_next G11.out hb7)
        have M12 := hideIt (M11.out.below hb7)
        have B13 := hideIt (B12.out.trans (hb7.mono B12.out.size))
        have Y7 := hideIt (heap_next Y6.out hb7)
        clear hb7 G11 M11 B12 Y6 HS
        have j0 : v7.cell? ⟨gy, 0, none⟩ = some (.string s11) := cell_of_heap Y7.out 0
        have j1 : v7.cell? ⟨gy, 1, none⟩ = some (.string sOpt) := cell_of_heap Y7.out 1
        have j2 : v7.cell? ⟨gy, 2, none⟩ = some (.string s120) := cell_of_heap Y7.out 2
        go_wp2_with fail
        refine (jsonapi_any _).mono ?_
        rintro e v8 ⟨rfl, hb8⟩
        have G13 := hideIt (heap_next G12.out hb8)
        have M13 := hideIt (M12.out.below hb8)
        have B14 := hideIt (B13.out.trans (hb8.mono B13.out.size))
        have Y8 := hideIt (heap_next Y7.out hb8)
        clear hb8 G12 M12 B13 Y7 j0 j1 j2
        have d6 : v8.cell? ⟨gy, 6, none⟩ = some (.string m'.rep) := cell_of_heap Y8.out 6
        have d7 : v8.cell? ⟨gy, 7, none⟩ = some (.string m'.api) := cell_of_heap Y8.out 7
        have d8 : v8.cell? ⟨gy, 8, none⟩ = some (.string m'.sch) := cell_of_heap Y8.out 8
        have d9 : v8.cell? ⟨gy, 9, none⟩ = some (.bool m'.mo) := cell_of_heap Y8.out 9
        have d10 : v8.cell? ⟨gy, 10, none⟩ = some (.pointer m'.dr) := cell_of_heap Y8.out 10
        have d11 : v8.cell? ⟨gy, 11, none⟩ = some (.pointer m'.da) := cell_of_heap Y8.out 11
        have d12 : v8.cell? ⟨gy, 12, none⟩ = some (.string m'.ts) := cell_of_heap Y8.out 12
        have d13 : v8.cell? ⟨gy, 13, none⟩ = some (.slice m'.pa m'.pl m'.pc) := cell_of_heap Y8.out 13
        have d14 : v8.cell? ⟨gy, 14, none⟩ = some (.string m'.im) := cell_of_heap Y8.out 14
        have d15 : v8.cell? ⟨gy, 15, none⟩ = some (.slice m'.wa m'.wl m'.wc) := cell_of_heap Y8.out 15
        have e0 : v8.cell? ⟨w.heap.size, 0, none⟩ = some (.string m.rep) := cell_of_heap G13.out 0
        have e1 : v8.cell? ⟨w.heap.size, 1, none⟩ = some (.string m.api) := cell_of_heap G13.out 1
        have e2 : v8.cell? ⟨w.heap.size, 2, none⟩ = some (.string m.sch) := cell_of_heap G13.out 2
        have e3 : v8.cell? ⟨w.heap.size, 3, none⟩ = some (.bool m.mo) := cell_of_heap G13.out 3
        have e4 : v8.cell? ⟨w.heap.size, 4, none⟩ = some (.pointer m.dr) := cell_of_heap G13.out 4
        have e5 : v8.cell? ⟨w.heap.size, 5, none⟩ = some (.pointer m.da) := cell_of_heap G13.out 5
        have e6 : v8.cell? ⟨w.heap.size, 6, none⟩ = some (.string m.ts) := cell_of_heap G13.out 6
        have e7 : v8.cell? ⟨w.heap.size, 7, none⟩ = some (.slice m.pa m.pl m.pc) := cell_of_heap G13.out 7
        have e8 : v8.cell? ⟨w.heap.size, 8, none⟩ = some (.string m.im) := cell_of_heap G13.out 8
        have e9 : v8.cell? ⟨w.heap.size, 9, none⟩ = some (.slice m.wa m.wl m.wc) := cell_of_heap G13.out 9
        go_wp2_with fail
        refine (metaMatches_any m m' zr za f s t _ (M0.out.below B14.out) M13.out S3.out).mono ?_
        rintro e v9 ⟨rfl, hb9⟩
        have Y9 := hideIt (heap_next Y8.out hb9)
        have B15 := hideIt (B14.out.trans (hb9.mono B14.out.size))
        clear hb9 M13 B14 G13 Y8 d6 d7 d8 d9 d10 d11 d12 d13 d14 d15 e0 e1 e2 e3 e4 e5 e6 e7 e8 e9
        have d16 : v9.cell? ⟨gy, 16, none⟩ = some (.pointer none) := cell_of_heap Y9.out 16
        have d5 : v9.cell? ⟨gy, 5, none⟩ = some (.slice none 0 0) := cell_of_heap Y9.out 5
        go_wp2
        go_ret
        exact ⟨rfl, B15.out⟩
end Go.Proofs.Qxb6608758aDoor
