import Derived.Test.Qxb6608758aDoorEnt
namespace Go.Proofs.Qxb6608758aDoor
open Go.RowKit

theorem info33 : (Tryd.prog.info? 33).map (·.size) = some 2 := by kernel_rfl
theorem withLinks_fresh (t : TypeId) (v : Value) (ia : Option Addr) (il ic : Nat) (m : MV) (lk : Option Addr) (db nx : ByteArray) (w : World) :
    Calls Tryd.prog 12 #[.agg (docArr (.iface t v) ia il ic m lk), .agg #[.string db, .string nx]] w fun e w' => ∃ g, e = .returned (.agg (docArr (.iface t v) ia il ic m (some ⟨g, 0, none⟩))) ∧ w.heap.size ≤ g ∧ w'.cell? ⟨g, 0, none⟩ = some (.string db) ∧ w'.cell? ⟨g, 1, none⟩ = some (.string nx) ∧ Below w.heap.size w w' := by
  refine (withLinks_any _ _ (docArr_size _ _ _ _ _ _) rfl (docArr_one _ _ _ _ _ _ _) db nx w).mono ?_
  rintro e w' ⟨g, rfl, h1, h2, h3, h4, h5⟩
  exact ⟨g, by rw [docArr_links], h1, h3, h4, h5⟩

/-- What the two built documents hold. -/
def Built (w : World) (v : Value) (a0 a2 a3 : ByteArray) (m : MV) (zr za : Option Int) (f : Nat → Int) (s t : Nat → ByteArray) (l4 : Nat) (s4 t4 : Nat → ByteArray) : Prop :=
  ∃ g gl b c' m', v = .pointer (some ⟨g, 0, none⟩) ∧ w.heap[g]? = some (.cells (docArr (.iface 9 (.string a0)) (some ⟨b, 0, none⟩) l4 c' m' (some ⟨gl, 0, none⟩)) 50) ∧ w.cell? ⟨gl, 0, none⟩ = some (.string a2) ∧ w.cell? ⟨gl, 1, none⟩ = some (.string a3) ∧ ResR w b l4 s4 t4 ∧ MOK w m' zr za f s t ∧ Same m m'

set_option linter.unusedSimpArgs false in
set_option linter.unusedVariables false in
set_option maxRecDepth 100000 in
set_option maxHeartbeats 8000000 in
theorem com_walk (a0 a2 a3 : ByteArray) (m : MV) (zr za : Option Int) (f : Nat → Int) (s t : Nat → ByteArray) (p4 : Option Addr) (l4 c4 : Nat) (s4 t4 : Nat → ByteArray) (w : World) (hm : MOK w m zr za f s t) (hl : Laid w)
    (b0 : a0.size ≤ 9223372036854775807) (b2 : a2.size ≤ 9223372036854775807) (b3 : a3.size ≤ 9223372036854775807) (h4 : PairsAt w p4 l4 c4 s4 t4) (hl4 : l4 * 32 ≤ 140737488355328) :
    Calls Tryd.prog 3 #[.string a0, .agg m.arr, .string a2, .string a3, .slice p4 l4 c4] w fun e w' => e = .returned (.bool true) ∧ Below w.heap.size w w' := by
  have M0 := hideIt hm
  have L0 := hideIt hl
  have P4 := hideIt h4
  clear hm hl h4
  have B1 := hideIt (Below.refl_alloc w (.cells m.arr 26))
  go_enter Tryd.func3, Tryd.ntmps3
  go_wp2_with (first | refine ld26 rfl _ rfl w.heap.size m rfl ?hg ?_)
  case hg => exact heap_1 _ _
  refine (zzEntryInfo_any a0 a2 a3 m zr za f s t p4 l4 c4 s4 t4 _ (M0.out.below B1.out) b0 b2 b3 (P4.out.below B1.out) hl4).mono ?_
  rintro e w1 ⟨⟨r, rfl⟩, hb1⟩
  have G1 := hideIt (heap_next (heap_1 _ _) hb1)
  have B2 := hideIt (B1.out.trans (hb1.mono (by simp)))
  clear hb1 B1
  cases r
  · go_wp2_with fail
    go_ret
    exact ⟨rfl, B2.out⟩
  go_wp2_with fail
  refine (addLen_any _ _ ⟨by omega, by omega⟩ (by omega) (by omega) _).mono ?_
  rintro e w' ⟨q1, rfl, hq1, rfl⟩
  go_wp2_with fail
  refine (addLen_any _ _ hq1 (by omega) (by omega) _).mono ?_
  rintro e w1 ⟨q2, rfl, hq2, rfl⟩
  go_wp2_with fail
  refine (addLen_any _ _ hq2 (by omega) (by omega) _).mono ?_
  rintro e w1 ⟨q3, rfl, hq3, rfl⟩
  go_wp2_with (first | refine ld26 rfl _ rfl w.heap.size m rfl G1.out ?_)
  refine (metaBytes_any m zr za f s t q3 hq3 _ (M0.out.below B2.out)).mono ?_
  rintro e w2 ⟨q7, rfl, hq7, hb2⟩
  have G2 := hideIt (heap_next G1.out hb2)
  have B3 := hideIt (B2.out.trans (hb2.mono B2.out.size))
  clear hb2 B2 G1 hq1 hq2 hq3
  go_wp2_with fail
  refine (resBytes_any p4 l4 c4 s4 t4 q7 hq7 _ (P4.out.below B3.out) hl4).mono ?_
  rintro e w2 ⟨q8, rfl, hq8, rfl⟩
  by_cases hlim : 1048576 < q8
  · go_wp2_with fail
    go_ret
    exact ⟨rfl, B3.out⟩
  go_wp2_with fail
  have K4 := hideIt (heap_1 w2 (.cells #[.string a2, .string a3] 33))
  have G4 := hideIt (heap_alloc G2.out (.cells #[.string a2, .string a3] 33))
  have B4 := hideIt (B3.out.trans ((Below.refl_alloc w2 (.cells #[.string a2, .string a3] 33)).mono B3.out.size))
  generalize w2.alloc (.cells #[.string a2, .string a3] 33) = w4 at *
  generalize w2.heap.size = gk at *
  clear B3 G2
  try simp only [Act.put]
  go_cut [13] (fun v wx => Built wx v a0 a2 a3 m zr za f s t l4 s4 t4 ∧ Below w4.heap.size w4 wx)
  case first =>
    refine wp_region_held_drew (S := fun w' => Below w4.heap.size w4 w') (by kernel_rfl) ((Below.refl _ _).drew) (fun hHeld => ?_)
    refine wpAnyH_take (i := 0) (v := .string a0) rfl (by kernel_rfl) (by kernel_rfl) (by kernel_rfl) (fun _ _ _ h => h) (Or.inl ⟨by rfl, fun _ _ => rfl⟩) hHeld ?_
    try simp only [Act.put, List.getElem_toArray, List.getElem_cons_zero, List.getElem_cons_succ, List.setIfInBounds_toArray, List.set_cons_zero, List.set_cons_succ]
    refine wpAnyH_take (i := 1) (v := .agg m.arr) rfl (by kernel_rfl) (by kernel_rfl) (by kernel_rfl) (fun _ _ _ h => h) (yld (by rfl) 26 _ rfl w.heap.size rfl _ _ (fun w' h => heap_next G4.out h) Tryd.underlying26 rfl (by rw [info26]; rfl)) hHeld ?_
    try simp only [Act.put, List.getElem_toArray, List.getElem_cons_zero, List.getElem_cons_succ, List.setIfInBounds_toArray, List.set_cons_zero, List.set_cons_succ]
    refine wpAnyH_take (i := 4) (v := .agg #[.string a2, .string a3]) rfl (by kernel_rfl) (by kernel_rfl) (by kernel_rfl) (fun _ _ _ h => h) (yld (by rfl) 33 _ rfl gk rfl _ _ (fun w' h => heap_next K4.out h) Tryd.underlying33 rfl (by rw [info33]; rfl)) hHeld ?_
    try simp only [Act.put, List.getElem_toArray, List.getElem_cons_zero, List.getElem_cons_succ, List.setIfInBounds_toArray, List.set_cons_zero, List.set_cons_succ]
    refine wpAnyH_take (i := 6) (v := .slice p4 l4 c4) rfl (by kernel_rfl) (by kernel_rfl) (by kernel_rfl) (fun _ _ _ h => h) (Or.inl ⟨by rfl, fun _ _ => rfl⟩) hHeld ?_
    try simp only [Act.put, List.getElem_toArray, List.getElem_cons_zero, List.getElem_cons_succ, List.setIfInBounds_toArray, List.set_cons_zero, List.set_cons_succ]
    refine wpAnyH_ready (rs := [2, 9]) (by kernel_rfl) (by simp) ?_
    refine AllReadyH.cons (o := _) rfl (fun K hK => ?_) ?_
    · go_simp
      refine (toMeta_fresh m zr za f s t _ (M0.out.below (B4.out.trans (Below.mono hHeld B4.out.size)))).mono ?_
      rintro e w_11 ⟨m', rfl, hm1, hsm, hfm, hb_11⟩
      go_wp2_with fail
      refine hK.out _ _ (Below.trans hHeld (hb_11.mono (Below.size hHeld))) (fun hH_11 => ?_)
      clear hK K
      try simp only [Act.put, List.getElem_toArray, List.getElem_cons_zero, List.getElem_cons_succ, List.setIfInBounds_toArray, List.set_cons_zero, List.set_cons_succ]
      refine wpAnyH_ready (rs := [3, 9]) (by kernel_rfl) (by simp) ?_
      refine AllReadyH.cons (o := _) rfl (fun K hK => ?_) ?_
      · go_simp
        refine (zzEntry_any a0 m' _ (L0.out.below (B4.out.trans (Below.mono hH_11 B4.out.size)) L0.out.2.2.2)).mono ?_
        rintro e w_10 ⟨rfl, hb_10⟩
        go_wp2_with fail
        refine hK.out _ _ (Below.trans hH_11 (hb_10.mono (Below.size hH_11))) (fun hH_10 => ?_)
        clear hK K
        try simp only [Act.put, List.getElem_toArray, List.getElem_cons_zero, List.getElem_cons_succ, List.setIfInBounds_toArray, List.set_cons_zero, List.set_cons_succ]
        have hm1_2 := hm1.below hb_10
        refine wpAnyH_ready (rs := [5, 9]) (by kernel_rfl) (by simp) ?_
        refine AllReadyH.cons (o := _) rfl (fun K hK => ?_) ?_
        · go_simp
          refine (withLinks_fresh 9 (.string a0) none 0 0 m' none a2 a3 _).mono ?_
          rintro e w_12 ⟨gl, rfl, hgf, hx0, hx1, hb_12⟩
          go_wp2_with fail
          refine hK.out _ _ (Below.trans hH_10 (hb_12.mono (Below.size hH_10))) (fun hH_12 => ?_)
          clear hK K
          try simp only [Act.put, List.getElem_toArray, List.getElem_cons_zero, List.getElem_cons_succ, List.setIfInBounds_toArray, List.set_cons_zero, List.set_cons_succ]
          have hm1_3 := hm1_2.below hb_12
          refine wpAnyH_ready (rs := [7, 9]) (by kernel_rfl) (by simp) ?_
          refine AllReadyH.cons (o := _) rfl (fun K hK => ?_) ?_
          · go_simp
            refine (toRes_any p4 l4 c4 s4 t4 _ (P4.out.below (B4.out.trans (Below.mono hH_12 B4.out.size))) hl4).mono ?_
            rintro e w_14 ⟨q, cq, rfl, hres, hfr, hb_14⟩
            go_wp2_with fail
            refine hK.out _ _ (Below.trans hH_12 (hb_14.mono (Below.size hH_12))) (fun hH_14 => ?_)
            clear hK K
            try simp only [Act.put, List.getElem_toArray, List.getElem_cons_zero, List.getElem_cons_succ, List.setIfInBounds_toArray, List.set_cons_zero, List.set_cons_succ]
            have hm1_4 := hm1_3.below hb_14
            have hx0_4 := below_cell hx0 hb_14
            have hx1_4 := below_cell hx1 hb_14
            refine wpAnyH_ready (rs := [8, 9]) (by kernel_rfl) (by simp) ?_
            refine AllReadyH.cons (o := _) rfl (fun K hK => ?_) ?_
            · go_simp
              refine (withInc_any 9 (.string a0) none 0 0 m' (some ⟨gl, 0, none⟩) q l4 cq s4 t4 _ hres).mono ?_
              rintro e w_13 ⟨b, cb, rfl, hrr, hqb, hb_13⟩
              go_wp2_with fail
              refine hK.out _ _ (Below.trans hH_14 (hb_13.mono (Below.size hH_14))) (fun hH_13 => ?_)
              clear hK K
              try simp only [Act.put, List.getElem_toArray, List.getElem_cons_zero, List.getElem_cons_succ, List.setIfInBounds_toArray, List.set_cons_zero, List.set_cons_succ]
              have hm1_5 := hm1_4.below hb_13
              have hx0_5 := below_cell hx0_4 hb_13
              have hx1_5 := below_cell hx1_4 hb_13
              have hres_5 := hres.below hb_13
              refine wpAnyH_ready (rs := [9]) (by kernel_rfl) (by simp) ?_
              refine AllReadyH.cons (o := _) rfl (fun K hK => ?_) ?_
              · go_simp
                have hbA := Below.refl_alloc w_13 (.cells zero50 50)
                have hzA := heap_1 w_13 (.cells zero50 50)
                refine hK.out _ _ (Below.trans hH_13 (Below.mono hbA (Below.size hH_13))) (fun hHA => ?_)
                clear hK K
                try simp only [Act.put, List.getElem_toArray, List.getElem_cons_zero, List.getElem_cons_succ, List.setIfInBounds_toArray, List.set_cons_zero, List.set_cons_succ]
                refine wpAnyH_ready (rs := [10]) (by kernel_rfl) (by simp) ?_
                refine AllReadyH.cons (o := _) rfl (fun K hK => ?_) AllReadyH.nil
                refine sto50 rfl _ _ rfl w_13.heap.size zero50 (docArr (.iface 9 (.string a0)) (some ⟨b, 0, none⟩) l4 cb m' (some ⟨gl, 0, none⟩)) rfl rfl rfl (docArr_one _ _ _ _ _ _ _) rfl hzA ?_
                have hle : w4.heap.size ≤ w_13.heap.size := Below.size hH_13
                refine hK.out _ _ (Below.setCells w_13.heap.size hle _ 0 _ hHA) (fun hHZ => ?_)
                clear hK K
                try simp only [Act.put, List.getElem_toArray, List.getElem_cons_zero, List.getElem_cons_succ, List.setIfInBounds_toArray, List.set_cons_zero, List.set_cons_succ]
                have hPZ := Below.setCells w_13.heap.size (Nat.le_refl _) (Array.toList (docArr (.iface 9 (.string a0)) (some ⟨b, 0, none⟩) l4 cb m' (some ⟨gl, 0, none⟩))) 0 _ hbA
                refine wpAnyH_done (by kernel_rfl) ?_ _
                go_wp2_with fail
                go_meet
                case rel => exact ⟨⟨w_13.heap.size, gl, b, cb, m', rfl, setCells_heap_whole (docArr (.iface 9 (.string a0)) (some ⟨b, 0, none⟩) l4 cb m' (some ⟨gl, 0, none⟩)) hzA rfl, below_cell hx0_5 hPZ, below_cell hx1_5 hPZ, hrr.below hPZ, hm1_5.below hPZ, hsm⟩, hHZ⟩
              exact AllReadyH.nil
            refine AllReadyH.cons (o := _) rfl (fun K hK => ?_) ?_
            · go_simp
              have hbA := Below.refl_alloc w_14 (.cells zero50 50)
              have hzA := heap_1 w_14 (.cells zero50 50)
              refine hK.out _ _ (Below.trans hH_14 (Below.mono hbA (Below.size hH_14))) (fun hHA => ?_)
              clear hK K
              try simp only [Act.put, List.getElem_toArray, List.getElem_cons_zero, List.getElem_cons_succ, List.setIfInBounds_toArray, List.set_cons_zero, List.set_cons_succ]
              have hQA := hres.below hbA
              refine wpAnyH_ready (rs := [8]) (by kernel_rfl) (by simp) ?_
              refine AllReadyH.cons (o := _) rfl (fun K hK => ?_) ?_
              · go_simp
                refine (withInc_any 9 (.string a0) none 0 0 m' (some ⟨gl, 0, none⟩) q l4 cq s4 t4 _ hQA).mono ?_
                rintro e w_13 ⟨b, cb, rfl, hrr, hqb, hb_13⟩
                go_wp2_with fail
                refine hK.out _ _ (Below.trans hHA (hb_13.mono (Below.size hHA))) (fun hH_13 => ?_)
                clear hK K
                try simp only [Act.put, List.getElem_toArray, List.getElem_cons_zero, List.getElem_cons_succ, List.setIfInBounds_toArray, List.set_cons_zero, List.set_cons_succ]
                have hz_13 := heap_next hzA hb_13
                have hP_13 := Below.trans hbA (hb_13.mono (Below.size hbA))
                refine wpAnyH_ready (rs := [10]) (by kernel_rfl) (by simp) ?_
                refine AllReadyH.cons (o := _) rfl (fun K hK => ?_) AllReadyH.nil
                refine sto50 rfl _ _ rfl w_14.heap.size zero50 (docArr (.iface 9 (.string a0)) (some ⟨b, 0, none⟩) l4 cb m' (some ⟨gl, 0, none⟩)) rfl rfl rfl (docArr_one _ _ _ _ _ _ _) rfl hz_13 ?_
                have hle : w4.heap.size ≤ w_14.heap.size := Below.size hH_14
                refine hK.out _ _ (Below.setCells w_14.heap.size hle _ 0 _ hH_13) (fun hHZ => ?_)
                clear hK K
                try simp only [Act.put, List.getElem_toArray, List.getElem_cons_zero, List.getElem_cons_succ, List.setIfInBounds_toArray, List.set_cons_zero, List.set_cons_succ]
                have hPZ := Below.setCells w_14.heap.size (Nat.le_refl _) (Array.toList (docArr (.iface 9 (.string a0)) (some ⟨b, 0, none⟩) l4 cb m' (some ⟨gl, 0, none⟩))) 0 _ hP_13
                refine wpAnyH_done (by kernel_rfl) ?_ _
                go_wp2_with fail
                go_meet
                case rel => exact ⟨⟨w_14.heap.size, gl, b, cb, m', rfl, setCells_heap_whole (docArr (.iface 9 (.string a0)) (some ⟨b, 0, none⟩) l4 cb m' (some ⟨gl, 0, none⟩)) hz_13 rfl, below_cell hx0_4 hPZ, below_cell hx1_4 hPZ, ResR.set hrr w_14.heap.size (by rcases hqb with h | h; exact .inl h; rcases ResQ.lt hres h with h' | h'; exact .inl h'; exact .inr (by omega)) _, hm1_4.below hPZ, hsm⟩, hHZ⟩
              exact AllReadyH.nil
            exact AllReadyH.nil
          refine AllReadyH.cons (o := _) rfl (fun K hK => ?_) ?_
          · go_simp
            have hbA := Below.refl_alloc w_12 (.cells zero50 50)
            have hzA := heap_1 w_12 (.cells zero50 50)
            refine hK.out _ _ (Below.trans hH_12 (Below.mono hbA (Below.size hH_12))) (fun hHA => ?_)
            clear hK K
            try simp only [Act.put, List.getElem_toArray, List.getElem_cons_zero, List.getElem_cons_succ, List.setIfInBounds_toArray, List.set_cons_zero, List.set_cons_succ]
            refine wpAnyH_ready (rs := [7]) (by kernel_rfl) (by simp) ?_
            refine AllReadyH.cons (o := _) rfl (fun K hK => ?_) ?_
            · go_simp
              refine (toRes_any p4 l4 c4 s4 t4 _ (P4.out.below (B4.out.trans (Below.mono hHA B4.out.size))) hl4).mono ?_
              rintro e w_14 ⟨q, cq, rfl, hres, hfr, hb_14⟩
              go_wp2_with fail
              refine hK.out _ _ (Below.trans hHA (hb_14.mono (Below.size hHA))) (fun hH_14 => ?_)
              clear hK K
              try simp only [Act.put, List.getElem_toArray, List.getElem_cons_zero, List.getElem_cons_succ, List.setIfInBounds_toArray, List.set_cons_zero, List.set_cons_succ]
              have hz_14 := heap_next hzA hb_14
              have hP_14 := Below.trans hbA (hb_14.mono (Below.size hbA))
              refine wpAnyH_ready (rs := [8]) (by kernel_rfl) (by simp) ?_
              refine AllReadyH.cons (o := _) rfl (fun K hK => ?_) ?_
              · go_simp
                refine (withInc_any 9 (.string a0) none 0 0 m' (some ⟨gl, 0, none⟩) q l4 cq s4 t4 _ hres).mono ?_
                rintro e w_13 ⟨b, cb, rfl, hrr, hqb, hb_13⟩
                go_wp2_with fail
                refine hK.out _ _ (Below.trans hH_14 (hb_13.mono (Below.size hH_14))) (fun hH_13 => ?_)
                clear hK K
                try simp only [Act.put, List.getElem_toArray, List.getElem_cons_zero, List.getElem_cons_succ, List.setIfInBounds_toArray, List.set_cons_zero, List.set_cons_succ]
                have hres_8 := hres.below hb_13
                have hz_13 := heap_next hz_14 hb_13
                have hP_13 := Below.trans hP_14 (hb_13.mono (Below.size hP_14))
                refine wpAnyH_ready (rs := [10]) (by kernel_rfl) (by simp) ?_
                refine AllReadyH.cons (o := _) rfl (fun K hK => ?_) AllReadyH.nil
                refine sto50 rfl _ _ rfl w_12.heap.size zero50 (docArr (.iface 9 (.string a0)) (some ⟨b, 0, none⟩) l4 cb m' (some ⟨gl, 0, none⟩)) rfl rfl rfl (docArr_one _ _ _ _ _ _ _) rfl hz_13 ?_
                have hle : w4.heap.size ≤ w_12.heap.size := Below.size hH_12
                refine hK.out _ _ (Below.setCells w_12.heap.size hle _ 0 _ hH_13) (fun hHZ => ?_)
                clear hK K
                try simp only [Act.put, List.getElem_toArray, List.getElem_cons_zero, List.getElem_cons_succ, List.setIfInBounds_toArray, List.set_cons_zero, List.set_cons_succ]
                have hPZ := Below.setCells w_12.heap.size (Nat.le_refl _) (Array.toList (docArr (.iface 9 (.string a0)) (some ⟨b, 0, none⟩) l4 cb m' (some ⟨gl, 0, none⟩))) 0 _ hP_13
                refine wpAnyH_done (by kernel_rfl) ?_ _
                go_wp2_with fail
                go_meet
                case rel => exact ⟨⟨w_12.heap.size, gl, b, cb, m', rfl, setCells_heap_whole (docArr (.iface 9 (.string a0)) (some ⟨b, 0, none⟩) l4 cb m' (some ⟨gl, 0, none⟩)) hz_13 rfl, below_cell hx0 hPZ, below_cell hx1 hPZ, ResR.set hrr w_12.heap.size (by rcases hqb with h | h; exact .inl h; have h9 := hfr _ h; have h8 := (lt_of_heap hzA); simp at h9; exact .inr (by omega)) _, hm1_3.below hPZ, hsm⟩, hHZ⟩
              exact AllReadyH.nil
            exact AllReadyH.nil
          exact AllReadyH.nil
        refine AllReadyH.cons (o := _) rfl (fun K hK => ?_) ?_
        · go_simp
          have hbA := Below.refl_alloc w_10 (.cells zero50 50)
          have hzA := heap_1 w_10 (.cells zero50 50)
          refine hK.out _ _ (Below.trans hH_10 (Below.mono hbA (Below.size hH_10))) (fun hHA => ?_)
          clear hK K
          try simp only [Act.put, List.getElem_toArray, List.getElem_cons_zero, List.getElem_cons_succ, List.setIfInBounds_toArray, List.set_cons_zero, List.set_cons_succ]
          refine wpAnyH_ready (rs := [5]) (by kernel_rfl) (by simp) ?_
          refine AllReadyH.cons (o := _) rfl (fun K hK => ?_) ?_
          · go_simp
            refine (withLinks_fresh 9 (.string a0) none 0 0 m' none a2 a3 _).mono ?_
            rintro e w_12 ⟨gl, rfl, hgf, hx0, hx1, hb_12⟩
            go_wp2_with fail
            refine hK.out _ _ (Below.trans hHA (hb_12.mono (Below.size hHA))) (fun hH_12 => ?_)
            clear hK K
            try simp only [Act.put, List.getElem_toArray, List.getElem_cons_zero, List.getElem_cons_succ, List.setIfInBounds_toArray, List.set_cons_zero, List.set_cons_succ]
            have hz_12 := heap_next hzA hb_12
            have hP_12 := Below.trans hbA (hb_12.mono (Below.size hbA))
            refine wpAnyH_ready (rs := [7]) (by kernel_rfl) (by simp) ?_
            refine AllReadyH.cons (o := _) rfl (fun K hK => ?_) ?_
            · go_simp
              refine (toRes_any p4 l4 c4 s4 t4 _ (P4.out.below (B4.out.trans (Below.mono hH_12 B4.out.size))) hl4).mono ?_
              rintro e w_14 ⟨q, cq, rfl, hres, hfr, hb_14⟩
              go_wp2_with fail
              refine hK.out _ _ (Below.trans hH_12 (hb_14.mono (Below.size hH_12))) (fun hH_14 => ?_)
              clear hK K
              try simp only [Act.put, List.getElem_toArray, List.getElem_cons_zero, List.getElem_cons_succ, List.setIfInBounds_toArray, List.set_cons_zero, List.set_cons_succ]
              have hx0_10 := below_cell hx0 hb_14
              have hx1_10 := below_cell hx1 hb_14
              have hz_14 := heap_next hz_12 hb_14
              have hP_14 := Below.trans hP_12 (hb_14.mono (Below.size hP_12))
              refine wpAnyH_ready (rs := [8]) (by kernel_rfl) (by simp) ?_
              refine AllReadyH.cons (o := _) rfl (fun K hK => ?_) ?_
              · go_simp
                refine (withInc_any 9 (.string a0) none 0 0 m' (some ⟨gl, 0, none⟩) q l4 cq s4 t4 _ hres).mono ?_
                rintro e w_13 ⟨b, cb, rfl, hrr, hqb, hb_13⟩
                go_wp2_with fail
                refine hK.out _ _ (Below.trans hH_14 (hb_13.mono (Below.size hH_14))) (fun hH_13 => ?_)
                clear hK K
                try simp only [Act.put, List.getElem_toArray, List.getElem_cons_zero, List.getElem_cons_succ, List.setIfInBounds_toArray, List.set_cons_zero, List.set_cons_succ]
                have hx0_11 := below_cell hx0_10 hb_13
                have hx1_11 := below_cell hx1_10 hb_13
                have hres_11 := hres.below hb_13
                have hz_13 := heap_next hz_14 hb_13
                have hP_13 := Below.trans hP_14 (hb_13.mono (Below.size hP_14))
                refine wpAnyH_ready (rs := [10]) (by kernel_rfl) (by simp) ?_
                refine AllReadyH.cons (o := _) rfl (fun K hK => ?_) AllReadyH.nil
                refine sto50 rfl _ _ rfl w_10.heap.size zero50 (docArr (.iface 9 (.string a0)) (some ⟨b, 0, none⟩) l4 cb m' (some ⟨gl, 0, none⟩)) rfl rfl rfl (docArr_one _ _ _ _ _ _ _) rfl hz_13 ?_
                have hle : w4.heap.size ≤ w_10.heap.size := Below.size hH_10
                refine hK.out _ _ (Below.setCells w_10.heap.size hle _ 0 _ hH_13) (fun hHZ => ?_)
                clear hK K
                try simp only [Act.put, List.getElem_toArray, List.getElem_cons_zero, List.getElem_cons_succ, List.setIfInBounds_toArray, List.set_cons_zero, List.set_cons_succ]
                have hPZ := Below.setCells w_10.heap.size (Nat.le_refl _) (Array.toList (docArr (.iface 9 (.string a0)) (some ⟨b, 0, none⟩) l4 cb m' (some ⟨gl, 0, none⟩))) 0 _ hP_13
                refine wpAnyH_done (by kernel_rfl) ?_ _
                go_wp2_with fail
                go_meet
                case rel => exact ⟨⟨w_10.heap.size, gl, b, cb, m', rfl, setCells_heap_whole (docArr (.iface 9 (.string a0)) (some ⟨b, 0, none⟩) l4 cb m' (some ⟨gl, 0, none⟩)) hz_13 rfl, (by rw [World.cell?_setCells_out _ _ _ _ _ (fun e => absurd e (Nat.ne_of_gt (Nat.lt_of_lt_of_le (lt_of_heap hzA) hgf)))]; exact hx0_11), (by rw [World.cell?_setCells_out _ _ _ _ _ (fun e => absurd e (Nat.ne_of_gt (Nat.lt_of_lt_of_le (lt_of_heap hzA) hgf)))]; exact hx1_11), ResR.set hrr w_10.heap.size (by rcases hqb with h | h; exact .inl h; have h9 := hfr _ h; have h8 := (lt_of_heap hz_12); simp at h9; exact .inr (by omega)) _, hm1_2.below hPZ, hsm⟩, hHZ⟩
              exact AllReadyH.nil
            exact AllReadyH.nil
          exact AllReadyH.nil
        exact AllReadyH.nil
      refine AllReadyH.cons (o := _) rfl (fun K hK => ?_) ?_
      · go_simp
        have hbA := Below.refl_alloc w_11 (.cells zero50 50)
        have hzA := heap_1 w_11 (.cells zero50 50)
        refine hK.out _ _ (Below.trans hH_11 (Below.mono hbA (Below.size hH_11))) (fun hHA => ?_)
        clear hK K
        try simp only [Act.put, List.getElem_toArray, List.getElem_cons_zero, List.getElem_cons_succ, List.setIfInBounds_toArray, List.set_cons_zero, List.set_cons_succ]
        refine wpAnyH_ready (rs := [3]) (by kernel_rfl) (by simp) ?_
        refine AllReadyH.cons (o := _) rfl (fun K hK => ?_) ?_
        · go_simp
          refine (zzEntry_any a0 m' _ (L0.out.below (B4.out.trans (Below.mono hHA B4.out.size)) L0.out.2.2.2)).mono ?_
          rintro e w_10 ⟨rfl, hb_10⟩
          go_wp2_with fail
          refine hK.out _ _ (Below.trans hHA (hb_10.mono (Below.size hHA))) (fun hH_10 => ?_)
          clear hK K
          try simp only [Act.put, List.getElem_toArray, List.getElem_cons_zero, List.getElem_cons_succ, List.setIfInBounds_toArray, List.set_cons_zero, List.set_cons_succ]
          have hz_10 := heap_next hzA hb_10
          have hP_10 := Below.trans hbA (hb_10.mono (Below.size hbA))
          refine wpAnyH_ready (rs := [5]) (by kernel_rfl) (by simp) ?_
          refine AllReadyH.cons (o := _) rfl (fun K hK => ?_) ?_
          · go_simp
            refine (withLinks_fresh 9 (.string a0) none 0 0 m' none a2 a3 _).mono ?_
            rintro e w_12 ⟨gl, rfl, hgf, hx0, hx1, hb_12⟩
            go_wp2_with fail
            refine hK.out _ _ (Below.trans hH_10 (hb_12.mono (Below.size hH_10))) (fun hH_12 => ?_)
            clear hK K
            try simp only [Act.put, List.getElem_toArray, List.getElem_cons_zero, List.getElem_cons_succ, List.setIfInBounds_toArray, List.set_cons_zero, List.set_cons_succ]
            have hz_12 := heap_next hz_10 hb_12
            have hP_12 := Below.trans hP_10 (hb_12.mono (Below.size hP_10))
            refine wpAnyH_ready (rs := [7]) (by kernel_rfl) (by simp) ?_
            refine AllReadyH.cons (o := _) rfl (fun K hK => ?_) ?_
            · go_simp
              refine (toRes_any p4 l4 c4 s4 t4 _ (P4.out.below (B4.out.trans (Below.mono hH_12 B4.out.size))) hl4).mono ?_
              rintro e w_14 ⟨q, cq, rfl, hres, hfr, hb_14⟩
              go_wp2_with fail
              refine hK.out _ _ (Below.trans hH_12 (hb_14.mono (Below.size hH_12))) (fun hH_14 => ?_)
              clear hK K
              try simp only [Act.put, List.getElem_toArray, List.getElem_cons_zero, List.getElem_cons_succ, List.setIfInBounds_toArray, List.set_cons_zero, List.set_cons_succ]
              have hx0_14 := below_cell hx0 hb_14
              have hx1_14 := below_cell hx1 hb_14
              have hz_14 := heap_next hz_12 hb_14
              have hP_14 := Below.trans hP_12 (hb_14.mono (Below.size hP_12))
              refine wpAnyH_ready (rs := [8]) (by kernel_rfl) (by simp) ?_
              refine AllReadyH.cons (o := _) rfl (fun K hK => ?_) ?_
              · go_simp
                refine (withInc_any 9 (.string a0) none 0 0 m' (some ⟨gl, 0, none⟩) q l4 cq s4 t4 _ hres).mono ?_
                rintro e w_13 ⟨b, cb, rfl, hrr, hqb, hb_13⟩
                go_wp2_with fail
                refine hK.out _ _ (Below.trans hH_14 (hb_13.mono (Below.size hH_14))) (fun hH_13 => ?_)
                clear hK K
                try simp only [Act.put, List.getElem_toArray, List.getElem_cons_zero, List.getElem_cons_succ, List.setIfInBounds_toArray, List.set_cons_zero, List.set_cons_succ]
                have hx0_15 := below_cell hx0_14 hb_13
                have hx1_15 := below_cell hx1_14 hb_13
                have hres_15 := hres.below hb_13
                have hz_13 := heap_next hz_14 hb_13
                have hP_13 := Below.trans hP_14 (hb_13.mono (Below.size hP_14))
                refine wpAnyH_ready (rs := [10]) (by kernel_rfl) (by simp) ?_
                refine AllReadyH.cons (o := _) rfl (fun K hK => ?_) AllReadyH.nil
                refine sto50 rfl _ _ rfl w_11.heap.size zero50 (docArr (.iface 9 (.string a0)) (some ⟨b, 0, none⟩) l4 cb m' (some ⟨gl, 0, none⟩)) rfl rfl rfl (docArr_one _ _ _ _ _ _ _) rfl hz_13 ?_
                have hle : w4.heap.size ≤ w_11.heap.size := Below.size hH_11
                refine hK.out _ _ (Below.setCells w_11.heap.size hle _ 0 _ hH_13) (fun hHZ => ?_)
                clear hK K
                try simp only [Act.put, List.getElem_toArray, List.getElem_cons_zero, List.getElem_cons_succ, List.setIfInBounds_toArray, List.set_cons_zero, List.set_cons_succ]
                have hPZ := Below.setCells w_11.heap.size (Nat.le_refl _) (Array.toList (docArr (.iface 9 (.string a0)) (some ⟨b, 0, none⟩) l4 cb m' (some ⟨gl, 0, none⟩))) 0 _ hP_13
                refine wpAnyH_done (by kernel_rfl) ?_ _
                go_wp2_with fail
                go_meet
                case rel => exact ⟨⟨w_11.heap.size, gl, b, cb, m', rfl, setCells_heap_whole (docArr (.iface 9 (.string a0)) (some ⟨b, 0, none⟩) l4 cb m' (some ⟨gl, 0, none⟩)) hz_13 rfl, (by rw [World.cell?_setCells_out _ _ _ _ _ (fun e => absurd e (Nat.ne_of_gt (Nat.lt_of_lt_of_le (lt_of_heap hz_10) hgf)))]; exact hx0_15), (by rw [World.cell?_setCells_out _ _ _ _ _ (fun e => absurd e (Nat.ne_of_gt (Nat.lt_of_lt_of_le (lt_of_heap hz_10) hgf)))]; exact hx1_15), ResR.set hrr w_11.heap.size (by rcases hqb with h | h; exact .inl h; have h9 := hfr _ h; have h8 := (lt_of_heap hz_12); simp at h9; exact .inr (by omega)) _, hm1.below hPZ, hsm⟩, hHZ⟩
              exact AllReadyH.nil
            exact AllReadyH.nil
          exact AllReadyH.nil
        exact AllReadyH.nil
      exact AllReadyH.nil
    refine AllReadyH.cons (o := _) rfl (fun K hK => ?_) ?_
    · go_simp
      have hbA := Below.refl_alloc w4.drew (.cells zero50 50)
      have hzA := heap_1 w4.drew (.cells zero50 50)
      refine hK.out _ _ (Below.trans hHeld (Below.mono hbA (Below.size hHeld))) (fun hHA => ?_)
      clear hK K
      try simp only [Act.put, List.getElem_toArray, List.getElem_cons_zero, List.getElem_cons_succ, List.setIfInBounds_toArray, List.set_cons_zero, List.set_cons_succ]
      refine wpAnyH_ready (rs := [2]) (by kernel_rfl) (by simp) ?_
      refine AllReadyH.cons (o := _) rfl (fun K hK => ?_) ?_
      · go_simp
        refine (toMeta_fresh m zr za f s t _ (M0.out.below (B4.out.trans (Below.mono hHA B4.out.size)))).mono ?_
        rintro e w_11 ⟨m', rfl, hm1, hsm, hfm, hb_11⟩
        go_wp2_with fail
        refine hK.out _ _ (Below.trans hHA (hb_11.mono (Below.size hHA))) (fun hH_11 => ?_)
        clear hK K
        try simp only [Act.put, List.getElem_toArray, List.getElem_cons_zero, List.getElem_cons_succ, List.setIfInBounds_toArray, List.set_cons_zero, List.set_cons_succ]
        have hz_11 := heap_next hzA hb_11
        have hP_11 := Below.trans hbA (hb_11.mono (Below.size hbA))
        refine wpAnyH_ready (rs := [3]) (by kernel_rfl) (by simp) ?_
        refine AllReadyH.cons (o := _) rfl (fun K hK => ?_) ?_
        · go_simp
          refine (zzEntry_any a0 m' _ (L0.out.below (B4.out.trans (Below.mono hH_11 B4.out.size)) L0.out.2.2.2)).mono ?_
          rintro e w_10 ⟨rfl, hb_10⟩
          go_wp2_with fail
          refine hK.out _ _ (Below.trans hH_11 (hb_10.mono (Below.size hH_11))) (fun hH_10 => ?_)
          clear hK K
          try simp only [Act.put, List.getElem_toArray, List.getElem_cons_zero, List.getElem_cons_succ, List.setIfInBounds_toArray, List.set_cons_zero, List.set_cons_succ]
          have hm1_17 := hm1.below hb_10
          have hz_10 := heap_next hz_11 hb_10
          have hP_10 := Below.trans hP_11 (hb_10.mono (Below.size hP_11))
          refine wpAnyH_ready (rs := [5]) (by kernel_rfl) (by simp) ?_
          refine AllReadyH.cons (o := _) rfl (fun K hK => ?_) ?_
          · go_simp
            refine (withLinks_fresh 9 (.string a0) none 0 0 m' none a2 a3 _).mono ?_
            rintro e w_12 ⟨gl, rfl, hgf, hx0, hx1, hb_12⟩
            go_wp2_with fail
            refine hK.out _ _ (Below.trans hH_10 (hb_12.mono (Below.size hH_10))) (fun hH_12 => ?_)
            clear hK K
            try simp only [Act.put, List.getElem_toArray, List.getElem_cons_zero, List.getElem_cons_succ, List.setIfInBounds_toArray, List.set_cons_zero, List.set_cons_succ]
            have hm1_18 := hm1_17.below hb_12
            have hz_12 := heap_next hz_10 hb_12
            have hP_12 := Below.trans hP_10 (hb_12.mono (Below.size hP_10))
            refine wpAnyH_ready (rs := [7]) (by kernel_rfl) (by simp) ?_
            refine AllReadyH.cons (o := _) rfl (fun K hK => ?_) ?_
            · go_simp
              refine (toRes_any p4 l4 c4 s4 t4 _ (P4.out.below (B4.out.trans (Below.mono hH_12 B4.out.size))) hl4).mono ?_
              rintro e w_14 ⟨q, cq, rfl, hres, hfr, hb_14⟩
              go_wp2_with fail
              refine hK.out _ _ (Below.trans hH_12 (hb_14.mono (Below.size hH_12))) (fun hH_14 => ?_)
              clear hK K
              try simp only [Act.put, List.getElem_toArray, List.getElem_cons_zero, List.getElem_cons_succ, List.setIfInBounds_toArray, List.set_cons_zero, List.set_cons_succ]
              have hm1_19 := hm1_18.below hb_14
              have hx0_19 := below_cell hx0 hb_14
              have hx1_19 := below_cell hx1 hb_14
              have hz_14 := heap_next hz_12 hb_14
              have hP_14 := Below.trans hP_12 (hb_14.mono (Below.size hP_12))
              refine wpAnyH_ready (rs := [8]) (by kernel_rfl) (by simp) ?_
              refine AllReadyH.cons (o := _) rfl (fun K hK => ?_) ?_
              · go_simp
                refine (withInc_any 9 (.string a0) none 0 0 m' (some ⟨gl, 0, none⟩) q l4 cq s4 t4 _ hres).mono ?_
                rintro e w_13 ⟨b, cb, rfl, hrr, hqb, hb_13⟩
                go_wp2_with fail
                refine hK.out _ _ (Below.trans hH_14 (hb_13.mono (Below.size hH_14))) (fun hH_13 => ?_)
                clear hK K
                try simp only [Act.put, List.getElem_toArray, List.getElem_cons_zero, List.getElem_cons_succ, List.setIfInBounds_toArray, List.set_cons_zero, List.set_cons_succ]
                have hm1_20 := hm1_19.below hb_13
                have hx0_20 := below_cell hx0_19 hb_13
                have hx1_20 := below_cell hx1_19 hb_13
                have hres_20 := hres.below hb_13
                have hz_13 := heap_next hz_14 hb_13
                have hP_13 := Below.trans hP_14 (hb_13.mono (Below.size hP_14))
                refine wpAnyH_ready (rs := [10]) (by kernel_rfl) (by simp) ?_
                refine AllReadyH.cons (o := _) rfl (fun K hK => ?_) AllReadyH.nil
                refine sto50 rfl _ _ rfl w4.drew.heap.size zero50 (docArr (.iface 9 (.string a0)) (some ⟨b, 0, none⟩) l4 cb m' (some ⟨gl, 0, none⟩)) rfl rfl rfl (docArr_one _ _ _ _ _ _ _) rfl hz_13 ?_
                have hle : w4.heap.size ≤ w4.drew.heap.size := Below.size hHeld
                refine hK.out _ _ (Below.setCells w4.drew.heap.size hle _ 0 _ hH_13) (fun hHZ => ?_)
                clear hK K
                try simp only [Act.put, List.getElem_toArray, List.getElem_cons_zero, List.getElem_cons_succ, List.setIfInBounds_toArray, List.set_cons_zero, List.set_cons_succ]
                have hPZ := Below.setCells w4.drew.heap.size (Nat.le_refl _) (Array.toList (docArr (.iface 9 (.string a0)) (some ⟨b, 0, none⟩) l4 cb m' (some ⟨gl, 0, none⟩))) 0 _ hP_13
                refine wpAnyH_done (by kernel_rfl) ?_ _
                go_wp2_with fail
                go_meet
                case rel => exact ⟨⟨w4.drew.heap.size, gl, b, cb, m', rfl, setCells_heap_whole (docArr (.iface 9 (.string a0)) (some ⟨b, 0, none⟩) l4 cb m' (some ⟨gl, 0, none⟩)) hz_13 rfl, (by rw [World.cell?_setCells_out _ _ _ _ _ (fun e => absurd e (Nat.ne_of_gt (Nat.lt_of_lt_of_le (lt_of_heap hz_10) hgf)))]; exact hx0_20), (by rw [World.cell?_setCells_out _ _ _ _ _ (fun e => absurd e (Nat.ne_of_gt (Nat.lt_of_lt_of_le (lt_of_heap hz_10) hgf)))]; exact hx1_20), ResR.set hrr w4.drew.heap.size (by rcases hqb with h | h; exact .inl h; have h9 := hfr _ h; have h8 := (lt_of_heap hz_12); simp at h9; exact .inr (by omega)) _, hm1_20.fresh hfm w4.drew.heap.size (lt_of_heap hzA) _, hsm⟩, hHZ⟩
              exact AllReadyH.nil
            exact AllReadyH.nil
          exact AllReadyH.nil
        exact AllReadyH.nil
      exact AllReadyH.nil
    exact AllReadyH.nil
  case rest =>
    obtain ⟨⟨gx, gl1, bx, cx, m1, rfl, hX, hx0, hx1, hRX, hMX, hSX⟩, hbX⟩ := hcut
    rename World => v1
    have G5 := hideIt (heap_next G4.out hbX)
    have K5 := hideIt (heap_next K4.out hbX)
    have B5 := hideIt (B4.out.trans (hbX.mono B4.out.size))
    have X1 := hideIt hX
    have U1 := hideIt hx0
    have V1 := hideIt hx1
    have RX1 := hideIt hRX
    have MX1 := hideIt hMX
    have SX := hideIt hSX
    clear hX hx0 hx1 hRX hMX hSX hbX G4 K4 B4
    go_wp2_with fail
    try simp only [Act.put]
    go_cut [14] (fun v wx => Built wx v a0 a2 a3 m zr za f s t l4 s4 t4 ∧ Below v1.heap.size v1 wx)
    case first =>
      refine wp_region_held_drew (S := fun w' => Below v1.heap.size v1 w') (by kernel_rfl) ((Below.refl _ _).drew) (fun hHeld => ?_)
      refine wpAnyH_take (i := 0) (v := .string a0) rfl (by kernel_rfl) (by kernel_rfl) (by kernel_rfl) (fun _ _ _ h => h) (Or.inl ⟨by rfl, fun _ _ => rfl⟩) hHeld ?_
      try simp only [Act.put, List.getElem_toArray, List.getElem_cons_zero, List.getElem_cons_succ, List.setIfInBounds_toArray, List.set_cons_zero, List.set_cons_succ]
      refine wpAnyH_take (i := 1) (v := .agg m.arr) rfl (by kernel_rfl) (by kernel_rfl) (by kernel_rfl) (fun _ _ _ h => h) (yld (by rfl) 26 _ rfl w.heap.size rfl _ _ (fun w' h => heap_next G5.out h) Tryd.underlying26 rfl (by rw [info26]; rfl)) hHeld ?_
      try simp only [Act.put, List.getElem_toArray, List.getElem_cons_zero, List.getElem_cons_succ, List.setIfInBounds_toArray, List.set_cons_zero, List.set_cons_succ]
      refine wpAnyH_take (i := 4) (v := .slice p4 l4 c4) rfl (by kernel_rfl) (by kernel_rfl) (by kernel_rfl) (fun _ _ _ h => h) (Or.inl ⟨by rfl, fun _ _ => rfl⟩) hHeld ?_
      try simp only [Act.put, List.getElem_toArray, List.getElem_cons_zero, List.getElem_cons_succ, List.setIfInBounds_toArray, List.set_cons_zero, List.set_cons_succ]
      refine wpAnyH_take (i := 7) (v := .agg #[.string a2, .string a3]) rfl (by kernel_rfl) (by kernel_rfl) (by kernel_rfl) (fun _ _ _ h => h) (yld (by rfl) 33 _ rfl gk rfl _ _ (fun w' h => heap_next K5.out h) Tryd.underlying33 rfl (by rw [info33]; rfl)) hHeld ?_
      try simp only [Act.put, List.getElem_toArray, List.getElem_cons_zero, List.getElem_cons_succ, List.setIfInBounds_toArray, List.set_cons_zero, List.set_cons_succ]
      refine wpAnyH_ready (rs := [2, 9]) (by kernel_rfl) (by simp) ?_
      refine AllReadyH.cons (o := _) rfl (fun K hK => ?_) ?_
      · go_simp
        refine (toMeta_fresh m zr za f s t _ (M0.out.below (B5.out.trans (Below.mono hHeld B5.out.size)))).mono ?_
        rintro e w_11 ⟨m', rfl, hm1, hsm, hfm, hb_11⟩
        go_wp2_with fail
        refine hK.out _ _ (Below.trans hHeld (hb_11.mono (Below.size hHeld))) (fun hH_11 => ?_)
        clear hK K
        try simp only [Act.put, List.getElem_toArray, List.getElem_cons_zero, List.getElem_cons_succ, List.setIfInBounds_toArray, List.set_cons_zero, List.set_cons_succ]
        refine wpAnyH_ready (rs := [3, 9]) (by kernel_rfl) (by simp) ?_
        refine AllReadyH.cons (o := _) rfl (fun K hK => ?_) ?_
        · go_simp
          refine (zzEntry_any a0 m' _ (L0.out.below (B5.out.trans (Below.mono hH_11 B5.out.size)) L0.out.2.2.2)).mono ?_
          rintro e w_10 ⟨rfl, hb_10⟩
          go_wp2_with fail
          refine hK.out _ _ (Below.trans hH_11 (hb_10.mono (Below.size hH_11))) (fun hH_10 => ?_)
          clear hK K
          try simp only [Act.put, List.getElem_toArray, List.getElem_cons_zero, List.getElem_cons_succ, List.setIfInBounds_toArray, List.set_cons_zero, List.set_cons_succ]
          have hm1_2 := hm1.below hb_10
          refine wpAnyH_ready (rs := [5, 9]) (by kernel_rfl) (by simp) ?_
          refine AllReadyH.cons (o := _) rfl (fun K hK => ?_) ?_
          · go_simp
            refine (toRes_any p4 l4 c4 s4 t4 _ (P4.out.below (B5.out.trans (Below.mono hH_10 B5.out.size))) hl4).mono ?_
            rintro e w_14 ⟨q, cq, rfl, hres, hfr, hb_14⟩
            go_wp2_with fail
            refine hK.out _ _ (Below.trans hH_10 (hb_14.mono (Below.size hH_10))) (fun hH_14 => ?_)
            clear hK K
            try simp only [Act.put, List.getElem_toArray, List.getElem_cons_zero, List.getElem_cons_succ, List.setIfInBounds_toArray, List.set_cons_zero, List.set_cons_succ]
            have hm1_3 := hm1_2.below hb_14
            refine wpAnyH_ready (rs := [6, 9]) (by kernel_rfl) (by simp) ?_
            refine AllReadyH.cons (o := _) rfl (fun K hK => ?_) ?_
            · go_simp
              refine (withInc_any 9 (.string a0) none 0 0 m' none q l4 cq s4 t4 _ hres).mono ?_
              rintro e w_13 ⟨b, cb, rfl, hrr, hqb, hb_13⟩
              go_wp2_with fail
              refine hK.out _ _ (Below.trans hH_14 (hb_13.mono (Below.size hH_14))) (fun hH_13 => ?_)
              clear hK K
              try simp only [Act.put, List.getElem_toArray, List.getElem_cons_zero, List.getElem_cons_succ, List.setIfInBounds_toArray, List.set_cons_zero, List.set_cons_succ]
              have hm1_4 := hm1_3.below hb_13
              have hres_4 := hres.below hb_13
              refine wpAnyH_ready (rs := [8, 9]) (by kernel_rfl) (by simp) ?_
              refine AllReadyH.cons (o := _) rfl (fun K hK => ?_) ?_
              · go_simp
                refine (withLinks_fresh 9 (.string a0) (some ⟨b, 0, none⟩) l4 cb m' none a2 a3 _).mono ?_
                rintro e w_12 ⟨gl, rfl, hgf, hx0, hx1, hb_12⟩
                go_wp2_with fail
                refine hK.out _ _ (Below.trans hH_13 (hb_12.mono (Below.size hH_13))) (fun hH_12 => ?_)
                clear hK K
                try simp only [Act.put, List.getElem_toArray, List.getElem_cons_zero, List.getElem_cons_succ, List.setIfInBounds_toArray, List.set_cons_zero, List.set_cons_succ]
                have hm1_5 := hm1_4.below hb_12
                have hres_5 := hres_4.below hb_12
                have hrr_5 := hrr.below hb_12
                refine wpAnyH_ready (rs := [9]) (by kernel_rfl) (by simp) ?_
                refine AllReadyH.cons (o := _) rfl (fun K hK => ?_) ?_
                · go_simp
                  have hbA := Below.refl_alloc w_12 (.cells zero50 50)
                  have hzA := heap_1 w_12 (.cells zero50 50)
                  refine hK.out _ _ (Below.trans hH_12 (Below.mono hbA (Below.size hH_12))) (fun hHA => ?_)
                  clear hK K
                  try simp only [Act.put, List.getElem_toArray, List.getElem_cons_zero, List.getElem_cons_succ, List.setIfInBounds_toArray, List.set_cons_zero, List.set_cons_succ]
                  refine wpAnyH_ready (rs := [10]) (by kernel_rfl) (by simp) ?_
                  refine AllReadyH.cons (o := _) rfl (fun K hK => ?_) AllReadyH.nil
                  refine sto50 rfl _ _ rfl w_12.heap.size zero50 (docArr (.iface 9 (.string a0)) (some ⟨b, 0, none⟩) l4 cb m' (some ⟨gl, 0, none⟩)) rfl rfl rfl (docArr_one _ _ _ _ _ _ _) rfl hzA ?_
                  have hle : v1.heap.size ≤ w_12.heap.size := Below.size hH_12
                  refine hK.out _ _ (Below.setCells w_12.heap.size hle _ 0 _ hHA) (fun hHZ => ?_)
                  clear hK K
                  try simp only [Act.put, List.getElem_toArray, List.getElem_cons_zero, List.getElem_cons_succ, List.setIfInBounds_toArray, List.set_cons_zero, List.set_cons_succ]
                  have hPZ := Below.setCells w_12.heap.size (Nat.le_refl _) (Array.toList (docArr (.iface 9 (.string a0)) (some ⟨b, 0, none⟩) l4 cb m' (some ⟨gl, 0, none⟩))) 0 _ hbA
                  refine wpAnyH_done (by kernel_rfl) ?_ _
                  go_wp2_with fail
                  go_meet
                  case rel => exact ⟨⟨w_12.heap.size, gl, b, cb, m', rfl, setCells_heap_whole (docArr (.iface 9 (.string a0)) (some ⟨b, 0, none⟩) l4 cb m' (some ⟨gl, 0, none⟩)) hzA rfl, below_cell hx0 hPZ, below_cell hx1 hPZ, hrr_5.below hPZ, hm1_5.below hPZ, hsm⟩, hHZ⟩
                exact AllReadyH.nil
              refine AllReadyH.cons (o := _) rfl (fun K hK => ?_) ?_
              · go_simp
                have hbA := Below.refl_alloc w_13 (.cells zero50 50)
                have hzA := heap_1 w_13 (.cells zero50 50)
                refine hK.out _ _ (Below.trans hH_13 (Below.mono hbA (Below.size hH_13))) (fun hHA => ?_)
                clear hK K
                try simp only [Act.put, List.getElem_toArray, List.getElem_cons_zero, List.getElem_cons_succ, List.setIfInBounds_toArray, List.set_cons_zero, List.set_cons_succ]
                refine wpAnyH_ready (rs := [8]) (by kernel_rfl) (by simp) ?_
                refine AllReadyH.cons (o := _) rfl (fun K hK => ?_) ?_
                · go_simp
                  refine (withLinks_fresh 9 (.string a0) (some ⟨b, 0, none⟩) l4 cb m' none a2 a3 _).mono ?_
                  rintro e w_12 ⟨gl, rfl, hgf, hx0, hx1, hb_12⟩
                  go_wp2_with fail
                  refine hK.out _ _ (Below.trans hHA (hb_12.mono (Below.size hHA))) (fun hH_12 => ?_)
                  clear hK K
                  try simp only [Act.put, List.getElem_toArray, List.getElem_cons_zero, List.getElem_cons_succ, List.setIfInBounds_toArray, List.set_cons_zero, List.set_cons_succ]
                  have hz_12 := heap_next hzA hb_12
                  have hP_12 := Below.trans hbA (hb_12.mono (Below.size hbA))
                  refine wpAnyH_ready (rs := [10]) (by kernel_rfl) (by simp) ?_
                  refine AllReadyH.cons (o := _) rfl (fun K hK => ?_) AllReadyH.nil
                  refine sto50 rfl _ _ rfl w_13.heap.size zero50 (docArr (.iface 9 (.string a0)) (some ⟨b, 0, none⟩) l4 cb m' (some ⟨gl, 0, none⟩)) rfl rfl rfl (docArr_one _ _ _ _ _ _ _) rfl hz_12 ?_
                  have hle : v1.heap.size ≤ w_13.heap.size := Below.size hH_13
                  refine hK.out _ _ (Below.setCells w_13.heap.size hle _ 0 _ hH_12) (fun hHZ => ?_)
                  clear hK K
                  try simp only [Act.put, List.getElem_toArray, List.getElem_cons_zero, List.getElem_cons_succ, List.setIfInBounds_toArray, List.set_cons_zero, List.set_cons_succ]
                  have hPZ := Below.setCells w_13.heap.size (Nat.le_refl _) (Array.toList (docArr (.iface 9 (.string a0)) (some ⟨b, 0, none⟩) l4 cb m' (some ⟨gl, 0, none⟩))) 0 _ hP_12
                  refine wpAnyH_done (by kernel_rfl) ?_ _
                  go_wp2_with fail
                  go_meet
                  case rel => exact ⟨⟨w_13.heap.size, gl, b, cb, m', rfl, setCells_heap_whole (docArr (.iface 9 (.string a0)) (some ⟨b, 0, none⟩) l4 cb m' (some ⟨gl, 0, none⟩)) hz_12 rfl, (by rw [World.cell?_setCells_out _ _ _ _ _ (fun e => absurd e (Nat.ne_of_gt (Nat.lt_of_lt_of_le (lt_of_heap hzA) hgf)))]; exact hx0), (by rw [World.cell?_setCells_out _ _ _ _ _ (fun e => absurd e (Nat.ne_of_gt (Nat.lt_of_lt_of_le (lt_of_heap hzA) hgf)))]; exact hx1), hrr.below hPZ, hm1_4.below hPZ, hsm⟩, hHZ⟩
                exact AllReadyH.nil
              exact AllReadyH.nil
            refine AllReadyH.cons (o := _) rfl (fun K hK => ?_) ?_
            · go_simp
              have hbA := Below.refl_alloc w_14 (.cells zero50 50)
              have hzA := heap_1 w_14 (.cells zero50 50)
              refine hK.out _ _ (Below.trans hH_14 (Below.mono hbA (Below.size hH_14))) (fun hHA => ?_)
              clear hK K
              try simp only [Act.put, List.getElem_toArray, List.getElem_cons_zero, List.getElem_cons_succ, List.setIfInBounds_toArray, List.set_cons_zero, List.set_cons_succ]
              have hQA := hres.below hbA
              refine wpAnyH_ready (rs := [6]) (by kernel_rfl) (by simp) ?_
              refine AllReadyH.cons (o := _) rfl (fun K hK => ?_) ?_
              · go_simp
                refine (withInc_any 9 (.string a0) none 0 0 m' none q l4 cq s4 t4 _ hQA).mono ?_
                rintro e w_13 ⟨b, cb, rfl, hrr, hqb, hb_13⟩
                go_wp2_with fail
                refine hK.out _ _ (Below.trans hHA (hb_13.mono (Below.size hHA))) (fun hH_13 => ?_)
                clear hK K
                try simp only [Act.put, List.getElem_toArray, List.getElem_cons_zero, List.getElem_cons_succ, List.setIfInBounds_toArray, List.set_cons_zero, List.set_cons_succ]
                have hz_13 := heap_next hzA hb_13
                have hP_13 := Below.trans hbA (hb_13.mono (Below.size hbA))
                refine wpAnyH_ready (rs := [8]) (by kernel_rfl) (by simp) ?_
                refine AllReadyH.cons (o := _) rfl (fun K hK => ?_) ?_
                · go_simp
                  refine (withLinks_fresh 9 (.string a0) (some ⟨b, 0, none⟩) l4 cb m' none a2 a3 _).mono ?_
                  rintro e w_12 ⟨gl, rfl, hgf, hx0, hx1, hb_12⟩
                  go_wp2_with fail
                  refine hK.out _ _ (Below.trans hH_13 (hb_12.mono (Below.size hH_13))) (fun hH_12 => ?_)
                  clear hK K
                  try simp only [Act.put, List.getElem_toArray, List.getElem_cons_zero, List.getElem_cons_succ, List.setIfInBounds_toArray, List.set_cons_zero, List.set_cons_succ]
                  have hrr_8 := hrr.below hb_12
                  have hz_12 := heap_next hz_13 hb_12
                  have hP_12 := Below.trans hP_13 (hb_12.mono (Below.size hP_13))
                  refine wpAnyH_ready (rs := [10]) (by kernel_rfl) (by simp) ?_
                  refine AllReadyH.cons (o := _) rfl (fun K hK => ?_) AllReadyH.nil
                  refine sto50 rfl _ _ rfl w_14.heap.size zero50 (docArr (.iface 9 (.string a0)) (some ⟨b, 0, none⟩) l4 cb m' (some ⟨gl, 0, none⟩)) rfl rfl rfl (docArr_one _ _ _ _ _ _ _) rfl hz_12 ?_
                  have hle : v1.heap.size ≤ w_14.heap.size := Below.size hH_14
                  refine hK.out _ _ (Below.setCells w_14.heap.size hle _ 0 _ hH_12) (fun hHZ => ?_)
                  clear hK K
                  try simp only [Act.put, List.getElem_toArray, List.getElem_cons_zero, List.getElem_cons_succ, List.setIfInBounds_toArray, List.set_cons_zero, List.set_cons_succ]
                  have hPZ := Below.setCells w_14.heap.size (Nat.le_refl _) (Array.toList (docArr (.iface 9 (.string a0)) (some ⟨b, 0, none⟩) l4 cb m' (some ⟨gl, 0, none⟩))) 0 _ hP_12
                  refine wpAnyH_done (by kernel_rfl) ?_ _
                  go_wp2_with fail
                  go_meet
                  case rel => exact ⟨⟨w_14.heap.size, gl, b, cb, m', rfl, setCells_heap_whole (docArr (.iface 9 (.string a0)) (some ⟨b, 0, none⟩) l4 cb m' (some ⟨gl, 0, none⟩)) hz_12 rfl, (by rw [World.cell?_setCells_out _ _ _ _ _ (fun e => absurd e (Nat.ne_of_gt (Nat.lt_of_lt_of_le (lt_of_heap hz_13) hgf)))]; exact hx0), (by rw [World.cell?_setCells_out _ _ _ _ _ (fun e => absurd e (Nat.ne_of_gt (Nat.lt_of_lt_of_le (lt_of_heap hz_13) hgf)))]; exact hx1), ResR.set hrr_8 w_14.heap.size (by rcases hqb with h | h; exact .inl h; rcases ResQ.lt hres h with h' | h'; exact .inl h'; exact .inr (by omega)) _, hm1_3.below hPZ, hsm⟩, hHZ⟩
                exact AllReadyH.nil
              exact AllReadyH.nil
            exact AllReadyH.nil
          refine AllReadyH.cons (o := _) rfl (fun K hK => ?_) ?_
          · go_simp
            have hbA := Below.refl_alloc w_10 (.cells zero50 50)
            have hzA := heap_1 w_10 (.cells zero50 50)
            refine hK.out _ _ (Below.trans hH_10 (Below.mono hbA (Below.size hH_10))) (fun hHA => ?_)
            clear hK K
            try simp only [Act.put, List.getElem_toArray, List.getElem_cons_zero, List.getElem_cons_succ, List.setIfInBounds_toArray, List.set_cons_zero, List.set_cons_succ]
            refine wpAnyH_ready (rs := [5]) (by kernel_rfl) (by simp) ?_
            refine AllReadyH.cons (o := _) rfl (fun K hK => ?_) ?_
            · go_simp
              refine (toRes_any p4 l4 c4 s4 t4 _ (P4.out.below (B5.out.trans (Below.mono hHA B5.out.size))) hl4).mono ?_
              rintro e w_14 ⟨q, cq, rfl, hres, hfr, hb_14⟩
              go_wp2_with fail
              refine hK.out _ _ (Below.trans hHA (hb_14.mono (Below.size hHA))) (fun hH_14 => ?_)
              clear hK K
              try simp only [Act.put, List.getElem_toArray, List.getElem_cons_zero, List.getElem_cons_succ, List.setIfInBounds_toArray, List.set_cons_zero, List.set_cons_succ]
              have hz_14 := heap_next hzA hb_14
              have hP_14 := Below.trans hbA (hb_14.mono (Below.size hbA))
              refine wpAnyH_ready (rs := [6]) (by kernel_rfl) (by simp) ?_
              refine AllReadyH.cons (o := _) rfl (fun K hK => ?_) ?_
              · go_simp
                refine (withInc_any 9 (.string a0) none 0 0 m' none q l4 cq s4 t4 _ hres).mono ?_
                rintro e w_13 ⟨b, cb, rfl, hrr, hqb, hb_13⟩
                go_wp2_with fail
                refine hK.out _ _ (Below.trans hH_14 (hb_13.mono (Below.size hH_14))) (fun hH_13 => ?_)
                clear hK K
                try simp only [Act.put, List.getElem_toArray, List.getElem_cons_zero, List.getElem_cons_succ, List.setIfInBounds_toArray, List.set_cons_zero, List.set_cons_succ]
                have hres_10 := hres.below hb_13
                have hz_13 := heap_next hz_14 hb_13
                have hP_13 := Below.trans hP_14 (hb_13.mono (Below.size hP_14))
                refine wpAnyH_ready (rs := [8]) (by kernel_rfl) (by simp) ?_
                refine AllReadyH.cons (o := _) rfl (fun K hK => ?_) ?_
                · go_simp
                  refine (withLinks_fresh 9 (.string a0) (some ⟨b, 0, none⟩) l4 cb m' none a2 a3 _).mono ?_
                  rintro e w_12 ⟨gl, rfl, hgf, hx0, hx1, hb_12⟩
                  go_wp2_with fail
                  refine hK.out _ _ (Below.trans hH_13 (hb_12.mono (Below.size hH_13))) (fun hH_12 => ?_)
                  clear hK K
                  try simp only [Act.put, List.getElem_toArray, List.getElem_cons_zero, List.getElem_cons_succ, List.setIfInBounds_toArray, List.set_cons_zero, List.set_cons_succ]
                  have hres_11 := hres_10.below hb_12
                  have hrr_11 := hrr.below hb_12
                  have hz_12 := heap_next hz_13 hb_12
                  have hP_12 := Below.trans hP_13 (hb_12.mono (Below.size hP_13))
                  refine wpAnyH_ready (rs := [10]) (by kernel_rfl) (by simp) ?_
                  refine AllReadyH.cons (o := _) rfl (fun K hK => ?_) AllReadyH.nil
                  refine sto50 rfl _ _ rfl w_10.heap.size zero50 (docArr (.iface 9 (.string a0)) (some ⟨b, 0, none⟩) l4 cb m' (some ⟨gl, 0, none⟩)) rfl rfl rfl (docArr_one _ _ _ _ _ _ _) rfl hz_12 ?_
                  have hle : v1.heap.size ≤ w_10.heap.size := Below.size hH_10
                  refine hK.out _ _ (Below.setCells w_10.heap.size hle _ 0 _ hH_12) (fun hHZ => ?_)
                  clear hK K
                  try simp only [Act.put, List.getElem_toArray, List.getElem_cons_zero, List.getElem_cons_succ, List.setIfInBounds_toArray, List.set_cons_zero, List.set_cons_succ]
                  have hPZ := Below.setCells w_10.heap.size (Nat.le_refl _) (Array.toList (docArr (.iface 9 (.string a0)) (some ⟨b, 0, none⟩) l4 cb m' (some ⟨gl, 0, none⟩))) 0 _ hP_12
                  refine wpAnyH_done (by kernel_rfl) ?_ _
                  go_wp2_with fail
                  go_meet
                  case rel => exact ⟨⟨w_10.heap.size, gl, b, cb, m', rfl, setCells_heap_whole (docArr (.iface 9 (.string a0)) (some ⟨b, 0, none⟩) l4 cb m' (some ⟨gl, 0, none⟩)) hz_12 rfl, (by rw [World.cell?_setCells_out _ _ _ _ _ (fun e => absurd e (Nat.ne_of_gt (Nat.lt_of_lt_of_le (lt_of_heap hz_13) hgf)))]; exact hx0), (by rw [World.cell?_setCells_out _ _ _ _ _ (fun e => absurd e (Nat.ne_of_gt (Nat.lt_of_lt_of_le (lt_of_heap hz_13) hgf)))]; exact hx1), ResR.set hrr_11 w_10.heap.size (by rcases hqb with h | h; exact .inl h; have h9 := hfr _ h; have h8 := (lt_of_heap hzA); simp at h9; exact .inr (by omega)) _, hm1_2.below hPZ, hsm⟩, hHZ⟩
                exact AllReadyH.nil
              exact AllReadyH.nil
            exact AllReadyH.nil
          exact AllReadyH.nil
        refine AllReadyH.cons (o := _) rfl (fun K hK => ?_) ?_
        · go_simp
          have hbA := Below.refl_alloc w_11 (.cells zero50 50)
          have hzA := heap_1 w_11 (.cells zero50 50)
          refine hK.out _ _ (Below.trans hH_11 (Below.mono hbA (Below.size hH_11))) (fun hHA => ?_)
          clear hK K
          try simp only [Act.put, List.getElem_toArray, List.getElem_cons_zero, List.getElem_cons_succ, List.setIfInBounds_toArray, List.set_cons_zero, List.set_cons_succ]
          refine wpAnyH_ready (rs := [3]) (by kernel_rfl) (by simp) ?_
          refine AllReadyH.cons (o := _) rfl (fun K hK => ?_) ?_
          · go_simp
            refine (zzEntry_any a0 m' _ (L0.out.below (B5.out.trans (Below.mono hHA B5.out.size)) L0.out.2.2.2)).mono ?_
            rintro e w_10 ⟨rfl, hb_10⟩
            go_wp2_with fail
            refine hK.out _ _ (Below.trans hHA (hb_10.mono (Below.size hHA))) (fun hH_10 => ?_)
            clear hK K
            try simp only [Act.put, List.getElem_toArray, List.getElem_cons_zero, List.getElem_cons_succ, List.setIfInBounds_toArray, List.set_cons_zero, List.set_cons_succ]
            have hz_10 := heap_next hzA hb_10
            have hP_10 := Below.trans hbA (hb_10.mono (Below.size hbA))
            refine wpAnyH_ready (rs := [5]) (by kernel_rfl) (by simp) ?_
            refine AllReadyH.cons (o := _) rfl (fun K hK => ?_) ?_
            · go_simp
              refine (toRes_any p4 l4 c4 s4 t4 _ (P4.out.below (B5.out.trans (Below.mono hH_10 B5.out.size))) hl4).mono ?_
              rintro e w_14 ⟨q, cq, rfl, hres, hfr, hb_14⟩
              go_wp2_with fail
              refine hK.out _ _ (Below.trans hH_10 (hb_14.mono (Below.size hH_10))) (fun hH_14 => ?_)
              clear hK K
              try simp only [Act.put, List.getElem_toArray, List.getElem_cons_zero, List.getElem_cons_succ, List.setIfInBounds_toArray, List.set_cons_zero, List.set_cons_succ]
              have hz_14 := heap_next hz_10 hb_14
              have hP_14 := Below.trans hP_10 (hb_14.mono (Below.size hP_10))
              refine wpAnyH_ready (rs := [6]) (by kernel_rfl) (by simp) ?_
              refine AllReadyH.cons (o := _) rfl (fun K hK => ?_) ?_
              · go_simp
                refine (withInc_any 9 (.string a0) none 0 0 m' none q l4 cq s4 t4 _ hres).mono ?_
                rintro e w_13 ⟨b, cb, rfl, hrr, hqb, hb_13⟩
                go_wp2_with fail
                refine hK.out _ _ (Below.trans hH_14 (hb_13.mono (Below.size hH_14))) (fun hH_13 => ?_)
                clear hK K
                try simp only [Act.put, List.getElem_toArray, List.getElem_cons_zero, List.getElem_cons_succ, List.setIfInBounds_toArray, List.set_cons_zero, List.set_cons_succ]
                have hres_14 := hres.below hb_13
                have hz_13 := heap_next hz_14 hb_13
                have hP_13 := Below.trans hP_14 (hb_13.mono (Below.size hP_14))
                refine wpAnyH_ready (rs := [8]) (by kernel_rfl) (by simp) ?_
                refine AllReadyH.cons (o := _) rfl (fun K hK => ?_) ?_
                · go_simp
                  refine (withLinks_fresh 9 (.string a0) (some ⟨b, 0, none⟩) l4 cb m' none a2 a3 _).mono ?_
                  rintro e w_12 ⟨gl, rfl, hgf, hx0, hx1, hb_12⟩
                  go_wp2_with fail
                  refine hK.out _ _ (Below.trans hH_13 (hb_12.mono (Below.size hH_13))) (fun hH_12 => ?_)
                  clear hK K
                  try simp only [Act.put, List.getElem_toArray, List.getElem_cons_zero, List.getElem_cons_succ, List.setIfInBounds_toArray, List.set_cons_zero, List.set_cons_succ]
                  have hres_15 := hres_14.below hb_12
                  have hrr_15 := hrr.below hb_12
                  have hz_12 := heap_next hz_13 hb_12
                  have hP_12 := Below.trans hP_13 (hb_12.mono (Below.size hP_13))
                  refine wpAnyH_ready (rs := [10]) (by kernel_rfl) (by simp) ?_
                  refine AllReadyH.cons (o := _) rfl (fun K hK => ?_) AllReadyH.nil
                  refine sto50 rfl _ _ rfl w_11.heap.size zero50 (docArr (.iface 9 (.string a0)) (some ⟨b, 0, none⟩) l4 cb m' (some ⟨gl, 0, none⟩)) rfl rfl rfl (docArr_one _ _ _ _ _ _ _) rfl hz_12 ?_
                  have hle : v1.heap.size ≤ w_11.heap.size := Below.size hH_11
                  refine hK.out _ _ (Below.setCells w_11.heap.size hle _ 0 _ hH_12) (fun hHZ => ?_)
                  clear hK K
                  try simp only [Act.put, List.getElem_toArray, List.getElem_cons_zero, List.getElem_cons_succ, List.setIfInBounds_toArray, List.set_cons_zero, List.set_cons_succ]
                  have hPZ := Below.setCells w_11.heap.size (Nat.le_refl _) (Array.toList (docArr (.iface 9 (.string a0)) (some ⟨b, 0, none⟩) l4 cb m' (some ⟨gl, 0, none⟩))) 0 _ hP_12
                  refine wpAnyH_done (by kernel_rfl) ?_ _
                  go_wp2_with fail
                  go_meet
                  case rel => exact ⟨⟨w_11.heap.size, gl, b, cb, m', rfl, setCells_heap_whole (docArr (.iface 9 (.string a0)) (some ⟨b, 0, none⟩) l4 cb m' (some ⟨gl, 0, none⟩)) hz_12 rfl, (by rw [World.cell?_setCells_out _ _ _ _ _ (fun e => absurd e (Nat.ne_of_gt (Nat.lt_of_lt_of_le (lt_of_heap hz_13) hgf)))]; exact hx0), (by rw [World.cell?_setCells_out _ _ _ _ _ (fun e => absurd e (Nat.ne_of_gt (Nat.lt_of_lt_of_le (lt_of_heap hz_13) hgf)))]; exact hx1), ResR.set hrr_15 w_11.heap.size (by rcases hqb with h | h; exact .inl h; have h9 := hfr _ h; have h8 := (lt_of_heap hz_10); simp at h9; exact .inr (by omega)) _, hm1.below hPZ, hsm⟩, hHZ⟩
                exact AllReadyH.nil
              exact AllReadyH.nil
            exact AllReadyH.nil
          exact AllReadyH.nil
        exact AllReadyH.nil
      refine AllReadyH.cons (o := _) rfl (fun K hK => ?_) ?_
      · go_simp
        have hbA := Below.refl_alloc v1.drew (.cells zero50 50)
        have hzA := heap_1 v1.drew (.cells zero50 50)
        refine hK.out _ _ (Below.trans hHeld (Below.mono hbA (Below.size hHeld))) (fun hHA => ?_)
        clear hK K
        try simp only [Act.put, List.getElem_toArray, List.getElem_cons_zero, List.getElem_cons_succ, List.setIfInBounds_toArray, List.set_cons_zero, List.set_cons_succ]
        refine wpAnyH_ready (rs := [2]) (by kernel_rfl) (by simp) ?_
        refine AllReadyH.cons (o := _) rfl (fun K hK => ?_) ?_
        · go_simp
          refine (toMeta_fresh m zr za f s t _ (M0.out.below (B5.out.trans (Below.mono hHA B5.out.size)))).mono ?_
          rintro e w_11 ⟨m', rfl, hm1, hsm, hfm, hb_11⟩
          go_wp2_with fail
          refine hK.out _ _ (Below.trans hHA (hb_11.mono (Below.size hHA))) (fun hH_11 => ?_)
          clear hK K
          try simp only [Act.put, List.getElem_toArray, List.getElem_cons_zero, List.getElem_cons_succ, List.setIfInBounds_toArray, List.set_cons_zero, List.set_cons_succ]
          have hz_11 := heap_next hzA hb_11
          have hP_11 := Below.trans hbA (hb_11.mono (Below.size hbA))
          refine wpAnyH_ready (rs := [3]) (by kernel_rfl) (by simp) ?_
          refine AllReadyH.cons (o := _) rfl (fun K hK => ?_) ?_
          · go_simp
            refine (zzEntry_any a0 m' _ (L0.out.below (B5.out.trans (Below.mono hH_11 B5.out.size)) L0.out.2.2.2)).mono ?_
            rintro e w_10 ⟨rfl, hb_10⟩
            go_wp2_with fail
            refine hK.out _ _ (Below.trans hH_11 (hb_10.mono (Below.size hH_11))) (fun hH_10 => ?_)
            clear hK K
            try simp only [Act.put, List.getElem_toArray, List.getElem_cons_zero, List.getElem_cons_succ, List.setIfInBounds_toArray, List.set_cons_zero, List.set_cons_succ]
            have hm1_17 := hm1.below hb_10
            have hz_10 := heap_next hz_11 hb_10
            have hP_10 := Below.trans hP_11 (hb_10.mono (Below.size hP_11))
            refine wpAnyH_ready (rs := [5]) (by kernel_rfl) (by simp) ?_
            refine AllReadyH.cons (o := _) rfl (fun K hK => ?_) ?_
            · go_simp
              refine (toRes_any p4 l4 c4 s4 t4 _ (P4.out.below (B5.out.trans (Below.mono hH_10 B5.out.size))) hl4).mono ?_
              rintro e w_14 ⟨q, cq, rfl, hres, hfr, hb_14⟩
              go_wp2_with fail
              refine hK.out _ _ (Below.trans hH_10 (hb_14.mono (Below.size hH_10))) (fun hH_14 => ?_)
              clear hK K
              try simp only [Act.put, List.getElem_toArray, List.getElem_cons_zero, List.getElem_cons_succ, List.setIfInBounds_toArray, List.set_cons_zero, List.set_cons_succ]
              have hm1_18 := hm1_17.below hb_14
              have hz_14 := heap_next hz_10 hb_14
              have hP_14 := Below.trans hP_10 (hb_14.mono (Below.size hP_10))
              refine wpAnyH_ready (rs := [6]) (by kernel_rfl) (by simp) ?_
              refine AllReadyH.cons (o := _) rfl (fun K hK => ?_) ?_
              · go_simp
                refine (withInc_any 9 (.string a0) none 0 0 m' none q l4 cq s4 t4 _ hres).mono ?_
                rintro e w_13 ⟨b, cb, rfl, hrr, hqb, hb_13⟩
                go_wp2_with fail
                refine hK.out _ _ (Below.trans hH_14 (hb_13.mono (Below.size hH_14))) (fun hH_13 => ?_)
                clear hK K
                try simp only [Act.put, List.getElem_toArray, List.getElem_cons_zero, List.getElem_cons_succ, List.setIfInBounds_toArray, List.set_cons_zero, List.set_cons_succ]
                have hm1_19 := hm1_18.below hb_13
                have hres_19 := hres.below hb_13
                have hz_13 := heap_next hz_14 hb_13
                have hP_13 := Below.trans hP_14 (hb_13.mono (Below.size hP_14))
                refine wpAnyH_ready (rs := [8]) (by kernel_rfl) (by simp) ?_
                refine AllReadyH.cons (o := _) rfl (fun K hK => ?_) ?_
                · go_simp
                  refine (withLinks_fresh 9 (.string a0) (some ⟨b, 0, none⟩) l4 cb m' none a2 a3 _).mono ?_
                  rintro e w_12 ⟨gl, rfl, hgf, hx0, hx1, hb_12⟩
                  go_wp2_with fail
                  refine hK.out _ _ (Below.trans hH_13 (hb_12.mono (Below.size hH_13))) (fun hH_12 => ?_)
                  clear hK K
                  try simp only [Act.put, List.getElem_toArray, List.getElem_cons_zero, List.getElem_cons_succ, List.setIfInBounds_toArray, List.set_cons_zero, List.set_cons_succ]
                  have hm1_20 := hm1_19.below hb_12
                  have hres_20 := hres_19.below hb_12
                  have hrr_20 := hrr.below hb_12
                  have hz_12 := heap_next hz_13 hb_12
                  have hP_12 := Below.trans hP_13 (hb_12.mono (Below.size hP_13))
                  refine wpAnyH_ready (rs := [10]) (by kernel_rfl) (by simp) ?_
                  refine AllReadyH.cons (o := _) rfl (fun K hK => ?_) AllReadyH.nil
                  refine sto50 rfl _ _ rfl v1.drew.heap.size zero50 (docArr (.iface 9 (.string a0)) (some ⟨b, 0, none⟩) l4 cb m' (some ⟨gl, 0, none⟩)) rfl rfl rfl (docArr_one _ _ _ _ _ _ _) rfl hz_12 ?_
                  have hle : v1.heap.size ≤ v1.drew.heap.size := Below.size hHeld
                  refine hK.out _ _ (Below.setCells v1.drew.heap.size hle _ 0 _ hH_12) (fun hHZ => ?_)
                  clear hK K
                  try simp only [Act.put, List.getElem_toArray, List.getElem_cons_zero, List.getElem_cons_succ, List.setIfInBounds_toArray, List.set_cons_zero, List.set_cons_succ]
                  have hPZ := Below.setCells v1.drew.heap.size (Nat.le_refl _) (Array.toList (docArr (.iface 9 (.string a0)) (some ⟨b, 0, none⟩) l4 cb m' (some ⟨gl, 0, none⟩))) 0 _ hP_12
                  refine wpAnyH_done (by kernel_rfl) ?_ _
                  go_wp2_with fail
                  go_meet
                  case rel => exact ⟨⟨v1.drew.heap.size, gl, b, cb, m', rfl, setCells_heap_whole (docArr (.iface 9 (.string a0)) (some ⟨b, 0, none⟩) l4 cb m' (some ⟨gl, 0, none⟩)) hz_12 rfl, (by rw [World.cell?_setCells_out _ _ _ _ _ (fun e => absurd e (Nat.ne_of_gt (Nat.lt_of_lt_of_le (lt_of_heap hz_13) hgf)))]; exact hx0), (by rw [World.cell?_setCells_out _ _ _ _ _ (fun e => absurd e (Nat.ne_of_gt (Nat.lt_of_lt_of_le (lt_of_heap hz_13) hgf)))]; exact hx1), ResR.set hrr_20 v1.drew.heap.size (by rcases hqb with h | h; exact .inl h; have h9 := hfr _ h; have h8 := (lt_of_heap hz_10); simp at h9; exact .inr (by omega)) _, hm1_20.fresh hfm v1.drew.heap.size (lt_of_heap hzA) _, hsm⟩, hHZ⟩
                exact AllReadyH.nil
              exact AllReadyH.nil
            exact AllReadyH.nil
          exact AllReadyH.nil
        exact AllReadyH.nil
      exact AllReadyH.nil
    case rest =>
      obtain ⟨⟨gy, gl2, b2, cy, m2, rfl, hY, hy0, hy1, hRY, hMY, hSY⟩, hbY⟩ := hcut
      rename World => v2
      have G6 := hideIt (heap_next G5.out hbY)
      have B6 := hideIt (B5.out.trans (hbY.mono B5.out.size))
      have X2 := hideIt (heap_next X1.out hbY)
      have U2 := hideIt (below_cell U1.out hbY)
      have V2 := hideIt (below_cell V1.out hbY)
      have RX2 := hideIt (RX1.out.below hbY)
      have MX2 := hideIt (MX1.out.below hbY)
      have Y2 := hideIt hY
      have UY2 := hideIt hy0
      have VY2 := hideIt hy1
      have RY2 := hideIt hRY
      have MY2 := hideIt hMY
      have SY := hideIt hSY
      clear hY hy0 hy1 hRY hMY hSY hbY G5 K5 B5 X1 U1 V1 RX1 MX1
      have HX := hideIt (docArr_size (.iface 9 (.string a0)) (some ⟨bx, 0, none⟩) l4 cx m1 (some ⟨gl1, 0, none⟩))
      have HY := hideIt (docArr_size (.iface 9 (.string a0)) (some ⟨b2, 0, none⟩) l4 cy m2 (some ⟨gl2, 0, none⟩))
      go_wp2_with (first | refine ld26 rfl _ rfl w.heap.size m rfl G6.out ?_ | refine ld50 rfl _ rfl gx (docArr (.iface 9 (.string a0)) (some ⟨bx, 0, none⟩) l4 cx m1 (some ⟨gl1, 0, none⟩)) rfl HX.out X2.out ?_)
      refine (entryBuilt_any a0 a2 a3 m m1 zr za f s t bx cx gl1 p4 l4 c4 s4 t4 _ (M0.out.below B6.out) MX2.out SX.out RX2.out (P4.out.below B6.out) hl4 U2.out V2.out).mono ?_
      rintro e v3 ⟨rfl, hb⟩
      have G7 := hideIt (heap_next G6.out hb)
      have B7 := hideIt (B6.out.trans (hb.mono B6.out.size))
      have Y3 := hideIt (heap_next Y2.out hb)
      have UY3 := hideIt (below_cell UY2.out hb)
      have VY3 := hideIt (below_cell VY2.out hb)
      have RY3 := hideIt (RY2.out.below hb)
      have MY3 := hideIt (MY2.out.below hb)
      clear hb G6 B6 Y2 UY2 VY2 RY2 MY2 X2 U2 V2 RX2 MX2
      have d0 : v3.cell? ⟨gy, 0, none⟩ = some (.string s11) := cell_of_heap Y3.out 0
      have d1 : v3.cell? ⟨gy, 1, none⟩ = some (.string sOpt) := cell_of_heap Y3.out 1
      have d2 : v3.cell? ⟨gy, 2, none⟩ = some (.string s120) := cell_of_heap Y3.out 2
      have d3 : v3.cell? ⟨gy, 3, none⟩ = some (.iface 9 (.string a0)) := cell_of_heap Y3.out 3
      have d4 : v3.cell? ⟨gy, 4, none⟩ = some (.slice (some ⟨b2, 0, none⟩) l4 cy) := cell_of_heap Y3.out 4
      have d5 : v3.cell? ⟨gy, 5, none⟩ = some (.slice none 0 0) := cell_of_heap Y3.out 5
      have d6 : v3.cell? ⟨gy, 6, none⟩ = some (.string m2.rep) := cell_of_heap Y3.out 6
      have d7 : v3.cell? ⟨gy, 7, none⟩ = some (.string m2.api) := cell_of_heap Y3.out 7
      have d8 : v3.cell? ⟨gy, 8, none⟩ = some (.string m2.sch) := cell_of_heap Y3.out 8
      have d9 : v3.cell? ⟨gy, 9, none⟩ = some (.bool m2.mo) := cell_of_heap Y3.out 9
      have d10 : v3.cell? ⟨gy, 10, none⟩ = some (.pointer m2.dr) := cell_of_heap Y3.out 10
      have d11 : v3.cell? ⟨gy, 11, none⟩ = some (.pointer m2.da) := cell_of_heap Y3.out 11
      have d12 : v3.cell? ⟨gy, 12, none⟩ = some (.string m2.ts) := cell_of_heap Y3.out 12
      have d13 : v3.cell? ⟨gy, 13, none⟩ = some (.slice m2.pa m2.pl m2.pc) := cell_of_heap Y3.out 13
      have d14 : v3.cell? ⟨gy, 14, none⟩ = some (.string m2.im) := cell_of_heap Y3.out 14
      have d15 : v3.cell? ⟨gy, 15, none⟩ = some (.slice m2.wa m2.wl m2.wc) := cell_of_heap Y3.out 15
      have d16 : v3.cell? ⟨gy, 16, none⟩ = some (.pointer (some ⟨gl2, 0, none⟩)) := cell_of_heap Y3.out 16
      have e0 : v3.cell? ⟨w.heap.size, 0, none⟩ = some (.string m.rep) := cell_of_heap G7.out 0
      have e1 : v3.cell? ⟨w.heap.size, 1, none⟩ = some (.string m.api) := cell_of_heap G7.out 1
      have e2 : v3.cell? ⟨w.heap.size, 2, none⟩ = some (.string m.sch) := cell_of_heap G7.out 2
      have e3 : v3.cell? ⟨w.heap.size, 3, none⟩ = some (.bool m.mo) := cell_of_heap G7.out 3
      have e4 : v3.cell? ⟨w.heap.size, 4, none⟩ = some (.pointer m.dr) := cell_of_heap G7.out 4
      have e5 : v3.cell? ⟨w.heap.size, 5, none⟩ = some (.pointer m.da) := cell_of_heap G7.out 5
      have e6 : v3.cell? ⟨w.heap.size, 6, none⟩ = some (.string m.ts) := cell_of_heap G7.out 6
      have e7 : v3.cell? ⟨w.heap.size, 7, none⟩ = some (.slice m.pa m.pl m.pc) := cell_of_heap G7.out 7
      have e8 : v3.cell? ⟨w.heap.size, 8, none⟩ = some (.string m.im) := cell_of_heap G7.out 8
      have e9 : v3.cell? ⟨w.heap.size, 9, none⟩ = some (.slice m.wa m.wl m.wc) := cell_of_heap G7.out 9
      go_wp2_with fail
      refine (entryBuilt_any a0 a2 a3 m m2 zr za f s t b2 cy gl2 p4 l4 c4 s4 t4 _ (M0.out.below B7.out) MY3.out SY.out RY3.out (P4.out.below B7.out) hl4 UY3.out VY3.out).mono ?_
      rintro e v4 ⟨rfl, hb⟩
      have B8 := hideIt (B7.out.trans (hb.mono B7.out.size))
      clear hb
      go_wp2
      go_ret
      exact ⟨rfl, B8.out⟩
end Go.Proofs.Qxb6608758aDoor
