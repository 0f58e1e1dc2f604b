import Derived.Test.Qxb6608758aDoorMeta
namespace Go.Proofs.Qxb6608758aDoor
open Go.RowKit

theorem ptrs_any (p p' : Option Addr) (z : Option Int) (w : World) (h : PtrAt w p z) (h' : PtrAt w p' z) :
    Calls Tryd.prog 26 #[.pointer p, .pointer p'] w fun e w' => e = .returned (.bool true) ∧ Below w.heap.size w w' := by
  rcases h with ⟨rfl, rfl⟩ | ⟨b, o, k, rfl, rfl, hc⟩
  · rcases h' with ⟨rfl, _⟩ | ⟨b, o, k, rfl, h, hc⟩
    · refine (ptrs_nil w).mono ?_
      rintro e w' ⟨rfl, rfl⟩
      exact ⟨rfl, Below.refl _ _⟩
    · cases h
  · rcases h' with ⟨rfl, h⟩ | ⟨b', o', k', rfl, h, hc'⟩
    · cases h
    · cases h
      exact ptrs_some b o b' o' k w hc hc'

/-- The two boxes of metaMatches stand as they were laid. -/
def Bxs (w : World) (A B : Array Value) (w' : World) : Prop := Below (w.heap.size + 2) ((w.alloc (.cells A 47)).alloc (.cells B 26)) w'
theorem Bxs.start (w : World) (A B : Array Value) : Bxs w A B ((w.alloc (.cells A 47)).alloc (.cells B 26)) := Below.refl _ _
theorem Bxs.size {w w' : World} {A B : Array Value} (h : Bxs w A B w') : w.heap.size + 2 ≤ w'.heap.size := by have := Below.size h; simpa using this
theorem Bxs.next {w w' w'' : World} {A B : Array Value} (h : Bxs w A B w') (hb : Below w'.heap.size w' w'') : Bxs w A B w'' := Below.trans h (hb.mono h.size)
theorem Bxs.drewN {w w' : World} {A B : Array Value} (h : Bxs w A B w') (n : Nat) : Bxs w A B (w'.drewN n) := below_drewN h n
theorem Bxs.below {w w' : World} {A B : Array Value} (h : Bxs w A B w') : Below w.heap.size w w' := (((Below.refl w.heap.size w).alloc (Nat.le_refl _) _).alloc (by simp) _).trans (Below.mono h (by omega))
theorem Bxs.cellA {w w' : World} {A B : Array Value} (h : Bxs w A B w') (j : Nat) : w'.cell? ⟨w.heap.size, j, none⟩ = A[j]? := by
  rw [Below.cell h (by simp)]; simp [go_sem]
theorem Bxs.cellB {w w' : World} {A B : Array Value} (h : Bxs w A B w') (j : Nat) : w'.cell? ⟨w.heap.size + 1, j, none⟩ = B[j]? := by
  rw [Below.cell h (by simp)]; simp [go_sem]

theorem nil42 (w : World) (a : Option Addr) (n c : Nat) : (binOp .eql 42 (.slice a n c) (.slice none 0 0)).run Tryd.prog w = .ok (.bool a.isNone) w := Lib.run_eql_slice_nil w 42 5 a n c 0 0 Tryd.underlying42
theorem nil23 (w : World) (a : Option Addr) (n c : Nat) : (binOp .eql 23 (.slice a n c) (.slice none 0 0)).run Tryd.prog w = .ok (.bool a.isNone) w := Lib.run_eql_slice_nil w 23 5 a n c 0 0 Tryd.underlying23
theorem nil45 (w : World) (a : Option Addr) (n c : Nat) : (binOp .eql 45 (.slice a n c) (.slice none 0 0)).run Tryd.prog w = .ok (.bool a.isNone) w := Lib.run_eql_slice_nil w 45 73 a n c 0 0 Tryd.underlying45
theorem nil24 (w : World) (a : Option Addr) (n c : Nat) : (binOp .eql 24 (.slice a n c) (.slice none 0 0)).run Tryd.prog w = .ok (.bool a.isNone) w := Lib.run_eql_slice_nil w 24 68 a n c 0 0 Tryd.underlying24
theorem none_ne {p p' : Option Addr} (h : p' = none ↔ p = none) : p'.isNone = p.isNone := by
  cases p <;> cases p' <;> simp_all

set_option maxRecDepth 100000 in
set_option maxHeartbeats 4000000 in
theorem metaMatches_any (m m' : MV) (zr za : Option Int) (f : Nat → Int) (s t : Nat → ByteArray) (w : World) (hm : MOK w m zr za f s t) (hm' : MOK w m' zr za f s t) (hs : Same m m') :
    Calls Tryd.prog 20 #[.agg m'.arr, .agg m.arr] w fun e w' => e = .returned (.bool true) ∧ Below w.heap.size w w' := by
  obtain ⟨rep, api, sch, mo, dr, da, ts, pa, pl, pc, im, wa, wl, wq⟩ := m
  obtain ⟨rep', api', sch', mo', dr', da', ts', pa', pl', pc', im', wa', wl', wq'⟩ := m'
  obtain ⟨s1, s2, s3, s4, s5, s6, s7, s8, s9, s10⟩ := hs
  simp only at s1 s2 s3 s4 s5 s6 s7 s8 s9 s10
  subst s1 s2 s3 s4 s5 s6 s7 s8
  simp only [MV.arr]
  obtain ⟨hdr, hda, hpr, hws, hpl, hwl, r1, r2, r3, r4, r5⟩ := hm
  obtain ⟨hdr', hda', hpr', hws', _, _, _, _, _, _, _⟩ := hm'
  simp only at hdr hda hpr hws hpl hwl r1 r2 r3 r4 r5 hdr' hda' hpr' hws'
  have HDR := hideIt hdr
  have HDA := hideIt hda
  have HPR := hideIt hpr
  have HWS := hideIt hws
  have HDR' := hideIt hdr'
  have HDA' := hideIt hda'
  have HPR' := hideIt hpr'
  have HWS' := hideIt hws'
  have n1 := none_ne s9
  have n2 := none_ne s10
  clear hdr hda hpr hws hdr' hda' hpr' hws' s9 s10 r1 r2 r3 r4 r5
  have e42 := nil42
  have e23 := nil23
  have e45 := nil45
  have e24 := nil24
  have T0 := hideIt (Bxs.start w #[.string rep', .string api', .string sch', .bool mo', .pointer dr', .pointer da', .string ts', .slice pa' pl' pc', .string im', .slice wa' wl' wq'] #[.string rep', .string api', .string sch', .bool mo', .pointer dr, .pointer da, .string ts', .slice pa pl' pc, .string im', .slice wa wl' wq])
  go_enter Tryd.func20, Tryd.ntmps20
  go_wp2_with fail
  refine (ptrs_any _ _ zr _ (HDR'.out.below T0.out.below) (HDR.out.below T0.out.below)).mono ?_
  rintro e w1 ⟨rfl, hb1⟩
  have T1 := hideIt (T0.out.next hb1)
  clear hb1
  have a5 := T1.out.cellA 5
  have b5 := T1.out.cellB 5
  simp at a5 b5
  go_wp2_with fail
  refine (ptrs_any _ _ za _ (HDA'.out.below T1.out.below) (HDA.out.below T1.out.below)).mono ?_
  rintro e w2 ⟨rfl, hb2⟩
  have T2 := hideIt (T1.out.next hb2)
  clear hb2 a5 b5 T1 T0
  have a7 := T2.out.cellA 7
  have b7 := T2.out.cellB 7
  simp at a7 b7
  go_wp2_with fail
  go_loopw [5] (fun i wr => ∃ k : Nat, k ≤ pl' ∧ i = .int .i64 k ∧ Bxs w #[.string rep', .string api', .string sch', .bool mo', .pointer dr', .pointer da', .string ts', .slice pa' pl' pc', .string im', .slice wa' wl' wq'] #[.string rep', .string api', .string sch', .bool mo', .pointer dr, .pointer da, .string ts', .slice pa pl' pc, .string im', .slice wa wl' wq] wr) (fun i _ => pl' - (intOf i).toNat)
  case atStart => exact ⟨0, Nat.zero_le _, rfl, T2.out⟩
  case round =>
    obtain ⟨k, hk, rfl, hT⟩ := hrel
    have T3 := hideIt hT
    clear hT T2 a7 b7
    have a7 := T3.out.cellA 7
    have b7 := T3.out.cellB 7
    simp at a7 b7
    by_cases hlt : k < pl'
    · rcases HPR.out with ⟨rfl, rfl, rfl⟩ | ⟨b, o, sp, rfl, hc⟩
      · omega
      rcases HPR'.out with ⟨rfl, rfl, rfl⟩ | ⟨b', o', sp', rfl, hc'⟩
      · omega
      obtain ⟨rfl, c1⟩ := hc k hlt
      obtain ⟨rfl, c2⟩ := hc' k hlt
      have c1' := T3.out.below.cell (cell_lt c1) ▸ c1
      have c2' := T3.out.below.cell (cell_lt c2) ▸ c2
      clear hc hc' c1 c2
      have hlt' : (k : Int) < (pl' : Int) := by omega
      generalize f k = fk at *
      go_wp2
      go_quiet (fail)
      go_wp2
      go_roundw
      case rel => exact ⟨k + 1, by omega, by go_num, T3.out.drewN _⟩
      case measure => simp [intOf]; omega
    · have hlt' : ¬ (k : Int) < (pl' : Int) := by omega
      have a9 := T3.out.cellA 9
      have b9 := T3.out.cellB 9
      simp at a9 b9
      clear hlt
      go_wp2_with fail
      go_loopw [6] (fun i wr => ∃ q : Nat, q ≤ wl' ∧ i = .int .i64 q ∧ Bxs w #[.string rep', .string api', .string sch', .bool mo', .pointer dr', .pointer da', .string ts', .slice pa' pl' pc', .string im', .slice wa' wl' wq'] #[.string rep', .string api', .string sch', .bool mo', .pointer dr, .pointer da, .string ts', .slice pa pl' pc, .string im', .slice wa wl' wq] wr) (fun i _ => wl' - (intOf i).toNat)
      case atStart => exact ⟨0, Nat.zero_le _, rfl, T3.out⟩
      case round =>
        obtain ⟨q, hq, rfl, hT⟩ := hrel
        have T4 := hideIt hT
        clear hT T3 a9 b9 a7 b7
        have a9 := T4.out.cellA 9
        have b9 := T4.out.cellB 9
        simp at a9 b9
        by_cases hlt : q < wl'
        · rcases HWS.out with ⟨rfl, rfl, rfl⟩ | ⟨b, o, sp, rfl, hc⟩
          · omega
          rcases HWS'.out with ⟨rfl, rfl, rfl⟩ | ⟨b', o', sp', rfl, hc'⟩
          · omega
          obtain ⟨rfl, c1, c2, _, _⟩ := hc q hlt
          obtain ⟨rfl, c3, c4, _, _⟩ := hc' q hlt
          have c1' := T4.out.below.cell (cell_lt c1) ▸ c1
          have c2' := T4.out.below.cell (cell_lt c2) ▸ c2
          have c3' := T4.out.below.cell (cell_lt c3) ▸ c3
          have c4' := T4.out.below.cell (cell_lt c4) ▸ c4
          clear hc hc' c1 c2 c3 c4
          have hltq : (q : Int) < (wl' : Int) := by omega
          generalize s q = sq at *
          generalize t q = tq at *
          go_wp2
          go_quiet (fail)
          go_wp2
          go_roundw
          case rel => exact ⟨q + 1, by omega, by go_num, T4.out.drewN _⟩
          case measure => simp [intOf]; omega
        · have hltq : ¬ (q : Int) < (wl' : Int) := by omega
          clear hlt
          go_wp2
          go_ret
          exact ⟨rfl, T4.out.below⟩
end Go.Proofs.Qxb6608758aDoor
