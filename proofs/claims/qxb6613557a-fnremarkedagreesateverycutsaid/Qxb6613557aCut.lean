/-
  FnRemarkedAgreesAtEveryCut: the walk.
-/
import Derived.Test.Qxb6613557aMain
namespace Go.Proofs.Qxb6613557a
open Go.RowKit

/-- A second pass changes nothing. -/
theorem anyV_again (s v : Nat → ByteArray) : ∀ n, anyV (want s v) v n = false
  | 0 => rfl
  | n + 1 => by
    show (anyV (want s v) v n || (((want s v n).toList == unsL) && !((v n).toList == unsL))) = false
    rw [anyV_again s v n, Bool.false_or]
    by_cases hv : (v n).toList = unsL
    · rw [show ((v n).toList == unsL) = true from beq_iff_eq.2 hv, Bool.not_true, Bool.and_false]
    · have hv2 : ((v n).toList == unsL) = false := by simpa using hv
      have hw : ¬ (want s v n).toList = unsL := by
        by_cases hs : (s n).toList = unsL
        · rw [want_uns hs]; exact hv
        · rw [want_scanned hs]; exact hs
      rw [show ((want s v n).toList == unsL) = false by simpa using hw, Bool.false_and]
/-- The whole list's answer is either part's. -/
theorem anyV_parts (s v : Nat → ByteArray) (k : Nat) : ∀ m, anyV s v (k + m) = (anyV s v k || anyV (fun j => s (k + j)) (fun j => v (k + j)) m)
  | 0 => by show anyV s v k = (anyV s v k || false); rw [Bool.or_false]
  | m + 1 => by
    show (anyV s v (k + m) || _) = (anyV s v k || (anyV (fun j => s (k + j)) (fun j => v (k + j)) m || _))
    rw [anyV_parts s v k m, Bool.or_assoc]
    rfl
theorem want_shift (s v : Nat → ByteArray) (k j : Nat) : want (fun j => s (k + j)) (fun j => v (k + j)) j = want s v (k + j) := rfl

theorem Try.elem23 : Try.prog.underlying 23 = some (.slice (Try.prog.elem 23)) := by kernel_rfl
theorem Try.size9 (w : World) : (sizeOf (Try.prog.elem 23)).run Try.prog w = .ok 1 w := by
  have e : Try.prog.elem 23 = 9 := by kernel_rfl
  have hi : (Try.prog.info? 9).map (·.size) = some 1 := by kernel_rfl
  rw [e]
  cases hq : Try.prog.info? 9 with
  | none => simp [hq] at hi
  | some i =>
    simp [hq] at hi
    simp [sizeOf, typeInfo, hq, hi]
/-- The parts of a slice of strings. -/
theorem cut_left {w : World} {p : Option Addr} {l c : Nat} {s : Nat → ByteArray} (h : StrsAt w p l c s) {k : Nat} (hk : k ≤ l) (hc : l ≤ c) :
    ∃ p', (∀ w', (Instr.slice 23 (.slice p l c) none (some (.int .i64 k)) none).run Try.prog w' = .ok (.slice p' k c) w') ∧ StrsAt w p' k c s := by
  refine ⟨if c = 0 then p else p.map (·.add (0 * 1)), fun w' => ?_, ?_⟩
  · rw [run_slice_h w' 23 p l c Try.elem23 .i64 (k : Int) (by omega) (by omega), Try.size9]
    simp [sliced]
  · rcases h with ⟨rfl, rfl, rfl⟩ | ⟨b, o, sp, rfl, h2⟩
    · exact .inl ⟨rfl, by omega, rfl⟩
    · refine .inr ⟨b, o, sp, ?_, fun j hj => h2 j (by omega)⟩
      simp [Addr.add]
theorem cut_right {w : World} {p : Option Addr} {l c : Nat} {s : Nat → ByteArray} (h : StrsAt w p l c s) {k : Nat} (hk : k ≤ l) (hc : l ≤ c) :
    ∃ p', (∀ w', (Instr.slice 23 (.slice p l c) (some (.int .i64 k)) none none).run Try.prog w' = .ok (.slice p' (l - k) (c - k)) w') ∧ StrsAt w p' (l - k) (c - k) (fun j => s (k + j)) := by
  refine ⟨if c = k then p else p.map (·.add (k * 1)), fun w' => ?_, ?_⟩
  · rw [run_slice_l w' 23 p l c Try.elem23 .i64 (k : Int) (by omega) (by omega), Try.size9]
    simp [sliced]
  · rcases h with ⟨rfl, rfl, rfl⟩ | ⟨b, o, sp, rfl, h2⟩
    · exact .inl ⟨by simp, by omega, by omega⟩
    · by_cases h0 : l - k = 0
      · rw [h0]
        by_cases hck : c = k
        · exact .inr ⟨b, o, sp, by simp [hck], fun j hj => by omega⟩
        · rw [if_neg hck]
          generalize hx : (Addr.add ⟨b, o, sp⟩ (k * 1)) = a
          obtain ⟨b', o', sp'⟩ := a
          exact .inr ⟨b', o', sp', by simp [← hx], fun j hj => by omega⟩
      · obtain rfl : sp = none := (h2 0 (by omega)).1
        refine .inr ⟨b, o + k, none, ?_, fun j hj => ?_⟩
        · rw [if_neg (by omega), Option.map_some, Addr.add_lit, Nat.mul_one]
        · obtain ⟨_, e1, e2⟩ := h2 (k + j) (by omega)
          exact ⟨rfl, by rw [Nat.add_assoc]; exact e1, e2⟩

/-- What the law reads off remarked's answer, in one form. -/
theorem Rem.out {q : Option Addr} {n c : Nat} {v s : Nat → ByteArray} {w w' : World} {e : Ending} (h : Rem q n c v s w e w') (hq : SkQ w q n v s) :
    ∃ qo co, e = .returned (.tuple #[.slice qo n co, .bool (anyV s v n)]) ∧ SkQ w' qo n v (want s v) ∧ Below w.heap.size w w' := by
  rcases h with ⟨ha, rfl, hB⟩ | ⟨ha, g, c', rfl, hg, hS, hB⟩
  · refine ⟨q, c, by rw [ha], ?_, hB⟩
    rcases hq with h | ⟨b, rfl, hS⟩
    · exact .inl h
    · exact .inr ⟨b, rfl, (hS.below hB).congr fun j hj => anyV_false ha j hj⟩
  · exact ⟨_, c', by rw [ha], .inr ⟨g, rfl, hS⟩, hB⟩

set_option maxRecDepth 100000 in
set_option maxHeartbeats 4000000 in
theorem cut_walk (p0 : Option Addr) (l0 c0 : Nat) (s : Nat → ByteArray) (p1 : Option Addr) (l1 c1 : Nat) (v : Nat → ByteArray) (z : Int) (w : World) (h0 : StrsAt w p0 l0 c0 s) (h1 : StrsAt w p1 l1 c1 v) (b0 : l0 ≤ 9223372036854775807) (b1 : l1 ≤ 9223372036854775807)
    (hc0 : l0 ≤ c0) (hc1 : l1 ≤ c1) :
    Calls Try.prog 6 #[.slice p0 l0 c0, .slice p1 l1 c1, .int .i64 z] w fun e w' => e = .returned (.bool true) ∧ Below w.heap.size w w' := by
  have H0 := hideIt h0
  have H1 := hideIt h1
  clear h0 h1
  have q53 := nil53
  have q23 := nil23
  go_enter Try.func6, Try.ntmps6
  go_wp2_with fail
  refine (zzBytesCut_any p0 l0 c0 s p1 l1 c1 v z w H0.out H1.out b0 b1).mono ?_
  rintro e w' ⟨⟨r, rfl⟩, rfl⟩
  cases r
  · go_wp2_with fail
    go_ret
    exact ⟨rfl, Below.refl _ _⟩
  by_cases g0 : 4096 < l0
  · have g0' : (4096 : Int) < (l0 : Int) := by omega
    go_wp2_with fail
    go_ret
    exact ⟨rfl, Below.refl _ _⟩
  by_cases g1 : 4096 < l1
  · have g0' : ¬ (4096 : Int) < (l0 : Int) := by omega
    have g1' : (4096 : Int) < (l1 : Int) := by omega
    go_wp2_with fail
    go_ret
    exact ⟨rfl, Below.refl _ _⟩
  have g0' : ¬ (4096 : Int) < (l0 : Int) := by omega
  have g1' : ¬ (4096 : Int) < (l1 : Int) := by omega
  go_wp2_with fail
  refine (zzOver_any 0 ⟨by omega, by omega⟩ p0 l0 c0 s _ H0.out (by omega)).mono ?_
  rintro e w' ⟨r1, rfl, hr1, rfl⟩
  go_wp2_with fail
  refine (zzOver_any r1 hr1 p1 l1 c1 v _ H1.out (by omega)).mono ?_
  rintro e w ⟨r2, rfl, hr2, rfl⟩
  clear hr1 hr2
  by_cases hlim : 1048576 < r2
  · go_wp2_with fail
    go_ret
    exact ⟨rfl, Below.refl _ _⟩
  by_cases hll : l0 = l1
  · subst hll
    by_cases hz0 : z < 0
    · go_wp2_with fail
      go_ret
      exact ⟨rfl, Below.refl _ _⟩
    by_cases hz1 : (l0 : Int) < z
    · go_wp2_with fail
      go_ret
      exact ⟨rfl, Below.refl _ _⟩
    obtain ⟨k, rfl⟩ : ∃ k : Nat, z = k := ⟨z.toNat, by omega⟩
    go_wp2_with fail
    have hkl : k ≤ l0 := by omega
    refine (scan_any p0 l0 c0 s p1 c1 v _ H0.out H1.out (by omega)).mono ?_
    rintro e w2 ⟨q, cq, rfl, hq, hSk, hb2⟩
    have B2 := hideIt hb2
    have Q2 := hideIt hSk
    clear hb2 hSk hq
    go_wp2_with fail
    refine (zzRem_any q l0 cq v s _ Q2.out (by omega)).mono ?_
    intro e w3 hrem
    obtain ⟨qw, cw, rfl, hout, hb3⟩ := hrem.out Q2.out
    have B3 := hideIt (B2.out.trans (hb3.mono B2.out.size))
    have W3 := hideIt hout
    clear hb3 hout hrem B2 Q2
    obtain ⟨pl0, hpl0, HL0⟩ := cut_left H0.out hkl hc0
    obtain ⟨pl1, hpl1, HL1⟩ := cut_left H1.out hkl hc1
    obtain ⟨pr0, hpr0, HR0⟩ := cut_right H0.out hkl hc0
    obtain ⟨pr1, hpr1, HR1⟩ := cut_right H1.out hkl hc1
    have L0 := hideIt HL0
    have L1 := hideIt HL1
    have R0 := hideIt HR0
    have R1 := hideIt HR1
    clear HL0 HL1 HR0 HR1
    have hb64 : k * 272 ≤ 140737488355328 := by omega
    have hb65 : (l0 - k) * 272 ≤ 140737488355328 := by omega
    go_wp2_with fail
    go_region_held3 (fun _ => True) (exact trivial)
      (first
        | (go_at_call 25; refine (scan_any pl0 k c0 s pl1 c1 v _ ?_ ?_ hb64).mono ?_; (exact L0.out.below (Below.drew B3.out)); (exact L1.out.below (Below.drew B3.out)); rintro e w4 ⟨ql', cl', rfl, _, hSl, hb4⟩; have B4 := hideIt ((Below.drew B3.out).trans (hb4.mono (Below.size (Below.drew B3.out)))); have Q4 := hideIt hSl; have W4 := hideIt (W3.out.below ((Below.drew (Below.refl _ _)).trans hb4)); clear hb4 hSl)
        | (go_at_call 26; refine (zzRem_any ql' k cl' v s _ Q4.out hb64).mono ?_; intro e w5 hrem; obtain ⟨ql, cl, rfl, hout, hb5⟩ := hrem.out Q4.out; have B5 := hideIt (B4.out.trans (hb5.mono B4.out.size)); have W5 := hideIt (W4.out.below hb5); have L5 := hideIt hout; clear hb5 hout hrem))
    go_wp2_with fail
    go_region_held3 (fun _ => True) (exact trivial)
      (first
        | (go_at_call 25; refine (scan_any pr0 (l0 - k) (c0 - k) (fun j => s (k + j)) pr1 (c1 - k) (fun j => v (k + j)) _ ?_ ?_ hb65).mono ?_; (exact R0.out.below (Below.drew B5.out)); (exact R1.out.below (Below.drew B5.out)); rintro e w6 ⟨qr', cr', rfl, _, hSl, hb6⟩; have B6 := hideIt ((Below.drew B5.out).trans (hb6.mono (Below.size (Below.drew B5.out)))); have Q6 := hideIt hSl; have W6 := hideIt (W5.out.below ((Below.drew (Below.refl _ _)).trans hb6)); have L6 := hideIt (L5.out.below ((Below.drew (Below.refl _ _)).trans hb6)); clear hb6 hSl)
        | (go_at_call 26; refine (zzRem_any qr' (l0 - k) cr' (fun j => v (k + j)) (fun j => s (k + j)) _ Q6.out hb65).mono ?_; intro e w7 hrem; obtain ⟨qr, cr, rfl, hout, hb7⟩ := hrem.out Q6.out; have B7 := hideIt (B6.out.trans (hb7.mono B6.out.size)); have W7 := hideIt (W6.out.below hb7); have L7 := hideIt (L6.out.below hb7); have R7 := hideIt hout; clear hb7 hout hrem))
    clear W3 W4 W5 W6 L5 L6 Q4 Q6 B3 B4 B5 B6
    have hpar := hideIt (anyV_parts s v k (l0 - k))
    go_wp2_with fail
    refine (zzAny_any p0 l0 c0 s p1 c1 v _ (H0.out.below B7.out) (H1.out.below B7.out) (by omega)).mono ?_
    rintro e w8 ⟨rfl, rfl⟩
    have hbw : anyV s v l0 = (anyV s v k || anyV (fun j => s (k + j)) (fun j => v (k + j)) (l0 - k)) := by
      have := hpar.out
      rw [Nat.add_sub_cancel' hkl] at this
      exact this
    clear hpar
    generalize anyV s v l0 = bw at *
    generalize anyV s v k = bl at *
    generalize anyV (fun j => s (k + j)) (fun j => v (k + j)) (l0 - k) = br at *
    subst hbw
    have hcast : ((l0 - k : Nat) : Int) = (l0 : Int) - (k : Int) := by omega
    clear hpl0 hpl1 hpr0 hpr1 L0 L1 R0 R1
    cases bl <;> cases br
    all_goals go_wp2_with fail
    · skip
      go_loopw [14] (fun i wr => ∃ j : Nat, j ≤ l0 ∧ i = .int .i64 j ∧ Below w8.heap.size w8 wr) (fun i _ => l0 - (intOf i).toNat)
      case atStart => exact ⟨0, Nat.zero_le _, rfl, Below.refl _ _⟩
      case round =>
        obtain ⟨j, hj, rfl, hB⟩ := hrel
        have HB := hideIt hB
        clear hB
        by_cases hlt : j < l0
        · rcases W7.out with ⟨_, rfl⟩ | ⟨bW, rfl, hSW⟩
          · omega
          have hlt' : (j : Int) < (l0 : Int) := by omega
          have BP := hideIt (HB.out.trans ((Below.refl_alloc wr (.cells (skArr (v j) (want s v j)) 42)).mono HB.out.size))
          have o9 := below_cell ((hSW.cell hlt 9 (by omega)).trans (skArr_9 _ _)) BP.out
          have o2 := below_cell ((hSW.cell hlt 2 (by omega)).trans (skArr_2 _ _)) BP.out
          have G1 := hideIt (heap_1 wr (.cells (skArr (v j) (want s v j)) 42))
          have t9 : (wr.alloc (.cells (skArr (v j) (want s v j)) 42)).cell? ⟨wr.heap.size, 9, none⟩ = some (.string (want s v j)) := (cell_of_heap G1.out 9).trans (skArr_9 _ _)
          have t2 : (wr.alloc (.cells (skArr (v j) (want s v j)) 42)).cell? ⟨wr.heap.size, 2, none⟩ = some (.string (v j)) := (cell_of_heap G1.out 2).trans (skArr_2 _ _)
          have BZ := hideIt (HB.out.trans ((Below.refl_alloc wr (.cells Try.zeroCells42 42)).mono HB.out.size))
          have Z1 := hideIt (skArr_size (v j) (want s v j))
          have O1 := hideIt (skArr_one (v j) (want s v j))
          clear hSW
          by_cases hjk : j < k
          · rcases L7.out with ⟨_, rfl⟩ | ⟨bL, rfl, hSL⟩
            · omega
            have hjk' : (j : Int) < (k : Int) := by omega
            have RL := hideIt ((hSL.below BZ.out).range hjk)
            clear hSL
            generalize v j = vj at *
            generalize want s v j = xj at *
            go_wp2_with (first | refine ldm42 rfl _ rfl bL (j * 77) (skArr vj xj) rfl Z1.out ?hr ?_ | refine st42 rfl _ _ rfl _ _ _ rfl rfl Z1.out O1.out zero42_size rfl ?_)
            case hr => exact RL.out
            go_quiet (fail)
            go_wp2_with fail
            go_roundw
            case rel => exact ⟨j + 1, by omega, by go_num, below_drewN BP.out _⟩
            case measure => simp [intOf]; omega
          · obtain ⟨m, rfl⟩ : ∃ m, j = k + m := ⟨j - k, by omega⟩
            rcases R7.out with ⟨_, hbad⟩ | ⟨bR, rfl, hSR⟩
            · omega
            have hm : m < l0 - k := by omega
            have hm' : (m : Int) < ((l0 - k : Nat) : Int) := by omega
            have RR : Hid ((wr.alloc (.cells Try.zeroCells42 42)).rangeAt bR ((k + m - k) * 77) (skArr (v (k + m)) (want s v (k + m))).toList) := by rw [Nat.add_sub_cancel_left]; exact (hSR.below BZ.out).range hm
            have hjk' : ¬ ((k + m : Nat) : Int) < (k : Int) := by omega
            have hsub : ((k + m : Nat) : Int) - (k : Int) = (m : Int) := by omega
            clear hSR
            generalize v (k + m) = vj at *
            generalize want s v (k + m) = xj at *
            go_wp2_with (first | refine ldm42 rfl _ rfl bR ((k + m - k) * 77) (skArr vj xj) rfl Z1.out ?hr ?_ | refine st42 rfl _ _ rfl _ _ _ rfl rfl Z1.out O1.out zero42_size rfl ?_)
            case hr =>
              have e := RR.out
              rw [Nat.add_sub_cancel_left] at e
              exact e
            go_quiet (fail)
            go_wp2_with fail
            go_roundw
            case rel => exact ⟨k + m + 1, by omega, by go_num, below_drewN BP.out _⟩
            case measure => simp [intOf]; omega
        · have hlt' : ¬ (j : Int) < (l0 : Int) := by omega
          go_wp2_with fail
          refine (zzRem_any qw l0 cw v (want s v) _ (W7.out.below HB.out) (by omega)).mono ?_
          intro e w9 hrem
          obtain ⟨qa, ca, rfl, hout, hb9⟩ := hrem.out (W7.out.below HB.out)
          rw [anyV_again]
          go_wp2_with fail
          go_ret
          exact ⟨rfl, (B7.out.trans (HB.out.mono B7.out.size)).trans (hb9.mono (B7.out.trans (HB.out.mono B7.out.size)).size)⟩
    · skip
      go_loopw [14] (fun i wr => ∃ j : Nat, j ≤ l0 ∧ i = .int .i64 j ∧ Below w8.heap.size w8 wr) (fun i _ => l0 - (intOf i).toNat)
      case atStart => exact ⟨0, Nat.zero_le _, rfl, Below.refl _ _⟩
      case round =>
        obtain ⟨j, hj, rfl, hB⟩ := hrel
        have HB := hideIt hB
        clear hB
        by_cases hlt : j < l0
        · rcases W7.out with ⟨_, rfl⟩ | ⟨bW, rfl, hSW⟩
          · omega
          have hlt' : (j : Int) < (l0 : Int) := by omega
          have BP := hideIt (HB.out.trans ((Below.refl_alloc wr (.cells (skArr (v j) (want s v j)) 42)).mono HB.out.size))
          have o9 := below_cell ((hSW.cell hlt 9 (by omega)).trans (skArr_9 _ _)) BP.out
          have o2 := below_cell ((hSW.cell hlt 2 (by omega)).trans (skArr_2 _ _)) BP.out
          have G1 := hideIt (heap_1 wr (.cells (skArr (v j) (want s v j)) 42))
          have t9 : (wr.alloc (.cells (skArr (v j) (want s v j)) 42)).cell? ⟨wr.heap.size, 9, none⟩ = some (.string (want s v j)) := (cell_of_heap G1.out 9).trans (skArr_9 _ _)
          have t2 : (wr.alloc (.cells (skArr (v j) (want s v j)) 42)).cell? ⟨wr.heap.size, 2, none⟩ = some (.string (v j)) := (cell_of_heap G1.out 2).trans (skArr_2 _ _)
          have BZ := hideIt (HB.out.trans ((Below.refl_alloc wr (.cells Try.zeroCells42 42)).mono HB.out.size))
          have Z1 := hideIt (skArr_size (v j) (want s v j))
          have O1 := hideIt (skArr_one (v j) (want s v j))
          clear hSW
          by_cases hjk : j < k
          · rcases L7.out with ⟨_, rfl⟩ | ⟨bL, rfl, hSL⟩
            · omega
            have hjk' : (j : Int) < (k : Int) := by omega
            have RL := hideIt ((hSL.below BZ.out).range hjk)
            clear hSL
            generalize v j = vj at *
            generalize want s v j = xj at *
            go_wp2_with (first | refine ldm42 rfl _ rfl bL (j * 77) (skArr vj xj) rfl Z1.out ?hr ?_ | refine st42 rfl _ _ rfl _ _ _ rfl rfl Z1.out O1.out zero42_size rfl ?_)
            case hr => exact RL.out
            go_quiet (fail)
            go_wp2_with fail
            go_roundw
            case rel => exact ⟨j + 1, by omega, by go_num, below_drewN BP.out _⟩
            case measure => simp [intOf]; omega
          · obtain ⟨m, rfl⟩ : ∃ m, j = k + m := ⟨j - k, by omega⟩
            rcases R7.out with ⟨_, hbad⟩ | ⟨bR, rfl, hSR⟩
            · omega
            have hm : m < l0 - k := by omega
            have hm' : (m : Int) < ((l0 - k : Nat) : Int) := by omega
            have RR : Hid ((wr.alloc (.cells Try.zeroCells42 42)).rangeAt bR ((k + m - k) * 77) (skArr (v (k + m)) (want s v (k + m))).toList) := by rw [Nat.add_sub_cancel_left]; exact (hSR.below BZ.out).range hm
            have hjk' : ¬ ((k + m : Nat) : Int) < (k : Int) := by omega
            have hsub : ((k + m : Nat) : Int) - (k : Int) = (m : Int) := by omega
            clear hSR
            generalize v (k + m) = vj at *
            generalize want s v (k + m) = xj at *
            go_wp2_with (first | refine ldm42 rfl _ rfl bR ((k + m - k) * 77) (skArr vj xj) rfl Z1.out ?hr ?_ | refine st42 rfl _ _ rfl _ _ _ rfl rfl Z1.out O1.out zero42_size rfl ?_)
            case hr =>
              have e := RR.out
              rw [Nat.add_sub_cancel_left] at e
              exact e
            go_quiet (fail)
            go_wp2_with fail
            go_roundw
            case rel => exact ⟨k + m + 1, by omega, by go_num, below_drewN BP.out _⟩
            case measure => simp [intOf]; omega
        · have hlt' : ¬ (j : Int) < (l0 : Int) := by omega
          go_wp2_with fail
          refine (zzRem_any qw l0 cw v (want s v) _ (W7.out.below HB.out) (by omega)).mono ?_
          intro e w9 hrem
          obtain ⟨qa, ca, rfl, hout, hb9⟩ := hrem.out (W7.out.below HB.out)
          rw [anyV_again]
          go_wp2_with fail
          go_ret
          exact ⟨rfl, (B7.out.trans (HB.out.mono B7.out.size)).trans (hb9.mono (B7.out.trans (HB.out.mono B7.out.size)).size)⟩
    · skip
      go_loopw [14] (fun i wr => ∃ j : Nat, j ≤ l0 ∧ i = .int .i64 j ∧ Below w8.heap.size w8 wr) (fun i _ => l0 - (intOf i).toNat)
      case atStart => exact ⟨0, Nat.zero_le _, rfl, Below.refl _ _⟩
      case round =>
        obtain ⟨j, hj, rfl, hB⟩ := hrel
        have HB := hideIt hB
        clear hB
        by_cases hlt : j < l0
        · rcases W7.out with ⟨_, rfl⟩ | ⟨bW, rfl, hSW⟩
          · omega
          have hlt' : (j : Int) < (l0 : Int) := by omega
          have BP := hideIt (HB.out.trans ((Below.refl_alloc wr (.cells (skArr (v j) (want s v j)) 42)).mono HB.out.size))
          have o9 := below_cell ((hSW.cell hlt 9 (by omega)).trans (skArr_9 _ _)) BP.out
          have o2 := below_cell ((hSW.cell hlt 2 (by omega)).trans (skArr_2 _ _)) BP.out
          have G1 := hideIt (heap_1 wr (.cells (skArr (v j) (want s v j)) 42))
          have t9 : (wr.alloc (.cells (skArr (v j) (want s v j)) 42)).cell? ⟨wr.heap.size, 9, none⟩ = some (.string (want s v j)) := (cell_of_heap G1.out 9).trans (skArr_9 _ _)
          have t2 : (wr.alloc (.cells (skArr (v j) (want s v j)) 42)).cell? ⟨wr.heap.size, 2, none⟩ = some (.string (v j)) := (cell_of_heap G1.out 2).trans (skArr_2 _ _)
          have BZ := hideIt (HB.out.trans ((Below.refl_alloc wr (.cells Try.zeroCells42 42)).mono HB.out.size))
          have Z1 := hideIt (skArr_size (v j) (want s v j))
          have O1 := hideIt (skArr_one (v j) (want s v j))
          clear hSW
          by_cases hjk : j < k
          · rcases L7.out with ⟨_, rfl⟩ | ⟨bL, rfl, hSL⟩
            · omega
            have hjk' : (j : Int) < (k : Int) := by omega
            have RL := hideIt ((hSL.below BZ.out).range hjk)
            clear hSL
            generalize v j = vj at *
            generalize want s v j = xj at *
            go_wp2_with (first | refine ldm42 rfl _ rfl bL (j * 77) (skArr vj xj) rfl Z1.out ?hr ?_ | refine st42 rfl _ _ rfl _ _ _ rfl rfl Z1.out O1.out zero42_size rfl ?_)
            case hr => exact RL.out
            go_quiet (fail)
            go_wp2_with fail
            go_roundw
            case rel => exact ⟨j + 1, by omega, by go_num, below_drewN BP.out _⟩
            case measure => simp [intOf]; omega
          · obtain ⟨m, rfl⟩ : ∃ m, j = k + m := ⟨j - k, by omega⟩
            rcases R7.out with ⟨_, hbad⟩ | ⟨bR, rfl, hSR⟩
            · omega
            have hm : m < l0 - k := by omega
            have hm' : (m : Int) < ((l0 - k : Nat) : Int) := by omega
            have RR : Hid ((wr.alloc (.cells Try.zeroCells42 42)).rangeAt bR ((k + m - k) * 77) (skArr (v (k + m)) (want s v (k + m))).toList) := by rw [Nat.add_sub_cancel_left]; exact (hSR.below BZ.out).range hm
            have hjk' : ¬ ((k + m : Nat) : Int) < (k : Int) := by omega
            have hsub : ((k + m : Nat) : Int) - (k : Int) = (m : Int) := by omega
            clear hSR
            generalize v (k + m) = vj at *
            generalize want s v (k + m) = xj at *
            go_wp2_with (first | refine ldm42 rfl _ rfl bR ((k + m - k) * 77) (skArr vj xj) rfl Z1.out ?hr ?_ | refine st42 rfl _ _ rfl _ _ _ rfl rfl Z1.out O1.out zero42_size rfl ?_)
            case hr =>
              have e := RR.out
              rw [Nat.add_sub_cancel_left] at e
              exact e
            go_quiet (fail)
            go_wp2_with fail
            go_roundw
            case rel => exact ⟨k + m + 1, by omega, by go_num, below_drewN BP.out _⟩
            case measure => simp [intOf]; omega
        · have hlt' : ¬ (j : Int) < (l0 : Int) := by omega
          go_wp2_with fail
          refine (zzRem_any qw l0 cw v (want s v) _ (W7.out.below HB.out) (by omega)).mono ?_
          intro e w9 hrem
          obtain ⟨qa, ca, rfl, hout, hb9⟩ := hrem.out (W7.out.below HB.out)
          rw [anyV_again]
          go_wp2_with fail
          go_ret
          exact ⟨rfl, (B7.out.trans (HB.out.mono B7.out.size)).trans (hb9.mono (B7.out.trans (HB.out.mono B7.out.size)).size)⟩
    · skip
      go_loopw [14] (fun i wr => ∃ j : Nat, j ≤ l0 ∧ i = .int .i64 j ∧ Below w8.heap.size w8 wr) (fun i _ => l0 - (intOf i).toNat)
      case atStart => exact ⟨0, Nat.zero_le _, rfl, Below.refl _ _⟩
      case round =>
        obtain ⟨j, hj, rfl, hB⟩ := hrel
        have HB := hideIt hB
        clear hB
        by_cases hlt : j < l0
        · rcases W7.out with ⟨_, rfl⟩ | ⟨bW, rfl, hSW⟩
          · omega
          have hlt' : (j : Int) < (l0 : Int) := by omega
          have BP := hideIt (HB.out.trans ((Below.refl_alloc wr (.cells (skArr (v j) (want s v j)) 42)).mono HB.out.size))
          have o9 := below_cell ((hSW.cell hlt 9 (by omega)).trans (skArr_9 _ _)) BP.out
          have o2 := below_cell ((hSW.cell hlt 2 (by omega)).trans (skArr_2 _ _)) BP.out
          have G1 := hideIt (heap_1 wr (.cells (skArr (v j) (want s v j)) 42))
          have t9 : (wr.alloc (.cells (skArr (v j) (want s v j)) 42)).cell? ⟨wr.heap.size, 9, none⟩ = some (.string (want s v j)) := (cell_of_heap G1.out 9).trans (skArr_9 _ _)
          have t2 : (wr.alloc (.cells (skArr (v j) (want s v j)) 42)).cell? ⟨wr.heap.size, 2, none⟩ = some (.string (v j)) := (cell_of_heap G1.out 2).trans (skArr_2 _ _)
          have BZ := hideIt (HB.out.trans ((Below.refl_alloc wr (.cells Try.zeroCells42 42)).mono HB.out.size))
          have Z1 := hideIt (skArr_size (v j) (want s v j))
          have O1 := hideIt (skArr_one (v j) (want s v j))
          clear hSW
          by_cases hjk : j < k
          · rcases L7.out with ⟨_, rfl⟩ | ⟨bL, rfl, hSL⟩
            · omega
            have hjk' : (j : Int) < (k : Int) := by omega
            have RL := hideIt ((hSL.below BZ.out).range hjk)
            clear hSL
            generalize v j = vj at *
            generalize want s v j = xj at *
            go_wp2_with (first | refine ldm42 rfl _ rfl bL (j * 77) (skArr vj xj) rfl Z1.out ?hr ?_ | refine st42 rfl _ _ rfl _ _ _ rfl rfl Z1.out O1.out zero42_size rfl ?_)
            case hr => exact RL.out
            go_quiet (fail)
            go_wp2_with fail
            go_roundw
            case rel => exact ⟨j + 1, by omega, by go_num, below_drewN BP.out _⟩
            case measure => simp [intOf]; omega
          · obtain ⟨m, rfl⟩ : ∃ m, j = k + m := ⟨j - k, by omega⟩
            rcases R7.out with ⟨_, hbad⟩ | ⟨bR, rfl, hSR⟩
            · omega
            have hm : m < l0 - k := by omega
            have hm' : (m : Int) < ((l0 - k : Nat) : Int) := by omega
            have RR : Hid ((wr.alloc (.cells Try.zeroCells42 42)).rangeAt bR ((k + m - k) * 77) (skArr (v (k + m)) (want s v (k + m))).toList) := by rw [Nat.add_sub_cancel_left]; exact (hSR.below BZ.out).range hm
            have hjk' : ¬ ((k + m : Nat) : Int) < (k : Int) := by omega
            have hsub : ((k + m : Nat) : Int) - (k : Int) = (m : Int) := by omega
            clear hSR
            generalize v (k + m) = vj at *
            generalize want s v (k + m) = xj at *
            go_wp2_with (first | refine ldm42 rfl _ rfl bR ((k + m - k) * 77) (skArr vj xj) rfl Z1.out ?hr ?_ | refine st42 rfl _ _ rfl _ _ _ rfl rfl Z1.out O1.out zero42_size rfl ?_)
            case hr =>
              have e := RR.out
              rw [Nat.add_sub_cancel_left] at e
              exact e
            go_quiet (fail)
            go_wp2_with fail
            go_roundw
            case rel => exact ⟨k + m + 1, by omega, by go_num, below_drewN BP.out _⟩
            case measure => simp [intOf]; omega
        · have hlt' : ¬ (j : Int) < (l0 : Int) := by omega
          go_wp2_with fail
          refine (zzRem_any qw l0 cw v (want s v) _ (W7.out.below HB.out) (by omega)).mono ?_
          intro e w9 hrem
          obtain ⟨qa, ca, rfl, hout, hb9⟩ := hrem.out (W7.out.below HB.out)
          rw [anyV_again]
          go_wp2_with fail
          go_ret
          exact ⟨rfl, (B7.out.trans (HB.out.mono B7.out.size)).trans (hb9.mono (B7.out.trans (HB.out.mono B7.out.size)).size)⟩
  · have hll' : ¬ (l0 : Int) = (l1 : Int) := by omega
    go_wp2_with fail
    go_ret
    exact ⟨rfl, Below.refl _ _⟩
end Go.Proofs.Qxb6613557a
