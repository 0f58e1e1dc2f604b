/-
  FnRemarkedMarksExactlyTheUnscanned: the walk.
-/
import Derived.Test.Qxb6613557aRem
import Derived.LaidEqlPtr
namespace Go.Proofs.Qxb6613557a
open Go.RowKit

/-- The comparison of two texts of one list of bytes. -/
theorem want_uns {s v : Nat → ByteArray} {k : Nat} (h : (s k).toList = unsL) : (want s v k).toList = (v k).toList := by
  unfold want
  by_cases hv : (v k).toList = unsL
  · rw [if_neg (by rw [show ((v k).toList == unsL) = true from beq_iff_eq.2 hv]; simp), h, hv]
  · rw [if_pos (by rw [show ((s k).toList == unsL) = true from beq_iff_eq.2 h, show ((v k).toList == unsL) = false by simpa using hv]; rfl)]
theorem want_scanned {s v : Nat → ByteArray} {k : Nat} (h : ¬ (s k).toList = unsL) : want s v k = s k := by
  unfold want
  rw [if_neg (by rw [show ((s k).toList == unsL) = false by simpa using h]; simp)]

theorem ptr_same (g : Nat) (w : World) : (binOp .eql 62 (.pointer (some ⟨g, 0, none⟩)) (.pointer (some ⟨g, 0, none⟩))).run Try.prog w = .ok (.bool true) w := by
  obtain ⟨i, hi, _, _, _⟩ := info_parts info42
  exact run_eql_ptr_same w ⟨g, 0, none⟩ Try.underlying62 hi
theorem ptr_other {w : World} {g g' n n' : Nat} {v s v' s' : Nat → ByteArray} (h : SkAt w g n v s) (h' : SkAt w g' n' v' s') (hne : ¬ g = g') (m : Nat) :
    (binOp .eql 62 (.pointer (some ⟨g, 0, none⟩)) (.pointer (some ⟨g', 0, none⟩))).run Try.prog (w.drewN m) = .ok (.bool false) (w.drewN m) := by
  obtain ⟨i, hi, _, hs, _⟩ := info_parts info42
  obtain ⟨C, hC, _⟩ := h
  obtain ⟨C', hC', _⟩ := h'
  exact run_eql_ptr_other (w.drewN m) (a := ⟨g, 0, none⟩) (b := ⟨g', 0, none⟩) Try.underlying62 hi (by rw [hs]; omega) (fun e => hne (by cases e; rfl)) (heap_next hC (below_drewN (Below.refl _ _) m)) (heap_next hC' (below_drewN (Below.refl _ _) m))

theorem anyV_pos {s v : Nat → ByteArray} {n : Nat} (h : anyV s v n = true) : 0 < n := by
  cases n with
  | zero => cases h
  | succ n => omega
/-- What the law reads off remarked's answer. -/
def Out (w' : World) (q p0 qo : Option Addr) (ok : Bool) (n : Nat) (v s : Nat → ByteArray) : Prop :=
  qo.isNone = p0.isNone ∧ (0 < n → ∃ go gi, qo = some ⟨go, 0, none⟩ ∧ q = some ⟨gi, 0, none⟩ ∧ SkAt w' go n v (want s v) ∧ SkAt w' gi n v s ∧ (go = gi ↔ ok = false))
theorem Rem.open {q p0 : Option Addr} {n c : Nat} {v s : Nat → ByteArray} {w w' : World} {e : Ending} (h : Rem q n c v s w e w') (hq : SkQ w q n v s) (hp : q.isNone = p0.isNone) :
    ∃ qo co, e = .returned (.tuple #[.slice qo n co, .bool (anyV s v n)]) ∧ Out w' q p0 qo (anyV s v n) n v s ∧ Below w.heap.size w w' := by
  rcases h with ⟨ha, rfl, hB⟩ | ⟨ha, g, c', rfl, hg, hS, hB⟩
  · refine ⟨q, c, by rw [ha], ⟨hp, fun hn => ?_⟩, hB⟩
    rcases hq with ⟨_, h0⟩ | ⟨b, rfl, hS⟩
    · omega
    · refine ⟨b, b, rfl, rfl, (hS.below hB).congr fun j hj => anyV_false ha j hj, hS.below hB, ?_⟩
      simp [ha]
  · have hn := anyV_pos ha
    rcases hq with ⟨_, h0⟩ | ⟨b, rfl, hS'⟩
    · omega
    · refine ⟨some ⟨g, 0, none⟩, c', by rw [ha], ⟨by simpa using hp, fun _ => ⟨g, b, rfl, rfl, hS, hS'.below hB, ?_⟩⟩, hB⟩
      obtain ⟨C, hC, _⟩ := hS'
      have := lt_of_heap hC
      rw [ha]
      constructor
      · intro h; omega
      · intro h; cases h

set_option maxRecDepth 100000 in
set_option maxHeartbeats 4000000 in
theorem marks_walk (p0 : Option Addr) (l0 c0 : Nat) (s : Nat → ByteArray) (p1 : Option Addr) (l1 c1 : Nat) (v : Nat → ByteArray) (w : World) (h0 : StrsAt w p0 l0 c0 s) (h1 : StrsAt w p1 l1 c1 v) (b0 : l0 ≤ 9223372036854775807) (b1 : l1 ≤ 9223372036854775807) :
    Calls Try.prog 5 #[.slice p0 l0 c0, .slice p1 l1 c1] w fun e w' => e = .returned (.bool true) ∧ Below w.heap.size w w' := by
  have H0 := hideIt h0
  have H1 := hideIt h1
  clear h0 h1
  have q53 := nil53
  have q23 := nil23
  go_enter Try.func5, Try.ntmps5
  go_wp2_with fail
  refine (zzBytes_any p0 l0 c0 s p1 l1 c1 v w H0.out H1.out b0 b1).mono ?_
  rintro e w' ⟨⟨r, rfl⟩, rfl⟩
  cases r
  · go_wp2_with fail
    go_ret
    exact ⟨rfl, Below.refl _ _⟩
  by_cases g0 : 4096 < l0
  · have g0' : (4096 : Int) < (l0 : Int) := by omega
    go_wp2_with fail
    go_ret
    exact ⟨rfl, Below.refl _ _⟩
  by_cases g1 : 4096 < l1
  · have g0' : ¬ (4096 : Int) < (l0 : Int) := by omega
    have g1' : (4096 : Int) < (l1 : Int) := by omega
    go_wp2_with fail
    go_ret
    exact ⟨rfl, Below.refl _ _⟩
  have g0' : ¬ (4096 : Int) < (l0 : Int) := by omega
  have g1' : ¬ (4096 : Int) < (l1 : Int) := by omega
  go_wp2_with fail
  refine (zzOver_any 0 ⟨by omega, by omega⟩ p0 l0 c0 s _ H0.out (by omega)).mono ?_
  rintro e w' ⟨r1, rfl, hr1, rfl⟩
  go_wp2_with fail
  refine (zzOver_any r1 hr1 p1 l1 c1 v _ H1.out (by omega)).mono ?_
  rintro e w ⟨r2, rfl, hr2, rfl⟩
  clear hr1 hr2
  by_cases hlim : 1048576 < r2
  · go_wp2_with fail
    go_ret
    exact ⟨rfl, Below.refl _ _⟩
  by_cases hll : l0 = l1
  · subst hll
    go_wp2_with fail
    refine (scan_any p0 l0 c0 s p1 c1 v _ H0.out H1.out (by omega)).mono ?_
    rintro e w2 ⟨q, cq, rfl, hq, hSk, hb2⟩
    have B2 := hideIt hb2
    have Q2 := hideIt hSk
    have N2 := hideIt hq
    clear hb2 hSk hq
    go_wp2_with fail
    refine (zzRem_any q l0 cq v s _ Q2.out (by omega)).mono ?_
    intro e w3 hrem
    obtain ⟨qo, co, rfl, hout, hb3⟩ := hrem.open Q2.out N2.out
    have B3 := hideIt (B2.out.trans (hb3.mono B2.out.size))
    have O3 := hideIt hout
    clear hb3 hout hrem B2 Q2 N2
    go_wp2_with fail
    refine (zzAny_any p0 l0 c0 s p1 c1 v _ (H0.out.below B3.out) (H1.out.below B3.out) (by omega)).mono ?_
    rintro e w3 ⟨rfl, rfl⟩
    generalize hok : anyV s v l0 = ok at *
    have n1 := O3.out.1
    go_wp2_with fail
    go_loopw [8] (fun i wr => ∃ k : Nat, k ≤ l0 ∧ i = .int .i64 k ∧ Below w3.heap.size w3 wr) (fun i _ => l0 - (intOf i).toNat)
    case atStart => exact ⟨0, Nat.zero_le _, rfl, Below.refl _ _⟩
    case round =>
      obtain ⟨k, hk, rfl, hB⟩ := hrel
      have HB := hideIt hB
      clear hB
      by_cases hlt : k < l0
      · obtain ⟨go, gi, rfl, rfl, hSo, hSi, _⟩ := O3.out.2 (by omega)
        rcases H0.out with ⟨rfl, rfl, rfl⟩ | ⟨x, o, sp, rfl, hc⟩
        · omega
        rcases H1.out with ⟨rfl, rfl, rfl⟩ | ⟨x', o', sp', rfl, hc'⟩
        · omega
        obtain ⟨rfl, c1, l1⟩ := hc k hlt
        obtain ⟨rfl, c2, l2⟩ := hc' k hlt
        have BB := hideIt (B3.out.trans (HB.out.mono B3.out.size))
        have c1' := below_cell c1 BB.out
        have c2' := below_cell c2 BB.out
        have o9 := below_cell ((hSo.cell hlt 9 (by omega)).trans (skArr_9 _ _)) HB.out
        have o2 := below_cell ((hSo.cell hlt 2 (by omega)).trans (skArr_2 _ _)) HB.out
        have i9 := below_cell ((hSi.cell hlt 9 (by omega)).trans (skArr_9 _ _)) HB.out
        have i2 := below_cell ((hSi.cell hlt 2 (by omega)).trans (skArr_2 _ _)) HB.out
        have hlt' : (k : Int) < (l0 : Int) := by omega
        have hU := @want_uns s v k
        have hN := @want_scanned s v k
        clear hc hc' c1 c2 hSo hSi n1
        generalize s k = sk at *
        generalize v k = vk at *
        generalize want s v k = wk at *
        by_cases hs : sk.toList = [117, 110, 115, 99, 97, 110, 110, 101, 100]
        · have hw := hU hs
          clear hU hN
          go_wp2_with fail
          go_quiet (fail)
          go_wp2_with fail
          go_quiet (fail)
          go_wp2_with fail
          go_roundw
          case rel => exact ⟨k + 1, by omega, by go_num, below_drewN HB.out _⟩
          case measure => simp [intOf]; omega
        · have hw := hN hs
          clear hU hN
          subst hw
          have hs2 : (wk.toList == [117, 110, 115, 99, 97, 110, 110, 101, 100]) = false := by simpa using hs
          go_wp2_with fail
          go_quiet (fail)
          go_wp2_with fail
          go_quiet (fail)
          go_wp2_with fail
          go_roundw
          case rel => exact ⟨k + 1, by omega, by go_num, below_drewN HB.out _⟩
          case measure => simp [intOf]; omega
      · have hlt' : ¬ (k : Int) < (l0 : Int) := by omega
        clear hlt
        by_cases hz : 0 < l0
        · obtain ⟨go, gi, rfl, rfl, hSo, hSi, hgo⟩ := O3.out.2 hz
          have hz' : (0 : Int) < (l0 : Int) := by omega
          go_wp2_with fail
          by_cases hk2 : ok = false
          · have e1 := hgo.2 hk2
            subst hk2 e1
            have pe := ptr_same go
            go_quiet (fail)
            go_wp2_with fail
            go_ret
            exact ⟨rfl, below_drewN (B3.out.trans (HB.out.mono B3.out.size)) _⟩
          · have e1 : ¬ go = gi := fun h => hk2 (hgo.1 h)
            obtain rfl : ok = true := by simpa using hk2
            have pe := ptr_other (hSo.below HB.out) (hSi.below HB.out) e1
            go_quiet (fail)
            go_wp2_with fail
            go_ret
            exact ⟨rfl, below_drewN (B3.out.trans (HB.out.mono B3.out.size)) _⟩
        · have hz' : ¬ (0 : Int) < (l0 : Int) := by omega
          go_wp2_with fail
          go_quiet (fail)
          go_wp2_with fail
          go_ret
          exact ⟨rfl, below_drewN (B3.out.trans (HB.out.mono B3.out.size)) _⟩
  · have hll' : ¬ (l0 : Int) = (l1 : Int) := by omega
    go_wp2_with fail
    go_ret
    exact ⟨rfl, Below.refl _ _⟩
end Go.Proofs.Qxb6613557a
