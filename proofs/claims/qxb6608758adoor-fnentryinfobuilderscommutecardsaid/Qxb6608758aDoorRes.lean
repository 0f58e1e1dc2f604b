import Derived.Test.Qxb6608758aDoorMeta
namespace Go.Proofs.Qxb6608758aDoor
open Go.RowKit

/-- A row of resources: type, id, no attributes, no relationships. -/
def ResR (w : World) (b n : Nat) (s t : Nat → ByteArray) : Prop :=
  ∀ j, j < n → w.cell? ⟨b, j * 4, none⟩ = some (.string (s j)) ∧ w.cell? ⟨b, j * 4 + 1, none⟩ = some (.string (t j)) ∧ w.cell? ⟨b, j * 4 + 2, none⟩ = some .nilIface ∧ w.cell? ⟨b, j * 4 + 3, none⟩ = some .nilIface
def ResQ (w : World) (q : Option Addr) (n c : Nat) (s t : Nat → ByteArray) : Prop := (q = none ∧ n = 0 ∧ c = 0) ∨ ∃ b, q = some ⟨b, 0, none⟩ ∧ ResR w b n s t
theorem ResR.below {w w' : World} {b n : Nat} {s t : Nat → ByteArray} (h : ResR w b n s t) (hb : Below w.heap.size w w') : ResR w' b n s t := fun j hj => by
  obtain ⟨a1, a2, a3, a4⟩ := h j hj
  exact ⟨by rw [hb.cell (cell_lt a1)]; exact a1, by rw [hb.cell (cell_lt a2)]; exact a2, by rw [hb.cell (cell_lt a3)]; exact a3, by rw [hb.cell (cell_lt a4)]; exact a4⟩
theorem ResQ.below {w w' : World} {q : Option Addr} {n c : Nat} {s t : Nat → ByteArray} (h : ResQ w q n c s t) (hb : Below w.heap.size w w') : ResQ w' q n c s t := by
  rcases h with h | ⟨b, h1, h2⟩
  · exact .inl h
  · exact .inr ⟨b, h1, h2.below hb⟩

theorem ResR.set {w : World} {b n : Nat} {s t : Nat → ByteArray} (h : ResR w b n s t) (g : Nat) (hg : n = 0 ∨ b ≠ g) (vs : List Value) : ResR (w.setCells g 0 vs) b n s t := fun j hj => by
  have hne : b ≠ g := by
    rcases hg with h | h
    · omega
    · exact h
  rw [World.cell?_setCells_out _ _ _ _ _ (fun e => absurd e hne), World.cell?_setCells_out _ _ _ _ _ (fun e => absurd e hne), World.cell?_setCells_out _ _ _ _ _ (fun e => absurd e hne), World.cell?_setCells_out _ _ _ _ _ (fun e => absurd e hne)]
  exact h j hj
/-- Where the row has an element, its block is there. -/
theorem ResQ.lt {w : World} {q : Option Addr} {n c : Nat} {s t : Nat → ByteArray} (h : ResQ w q n c s t) {b : Nat} (hb : q = some ⟨b, 0, none⟩) : n = 0 ∨ b < w.heap.size := by
  rcases h with ⟨h, _, _⟩ | ⟨b', h1, h2⟩
  · rw [h] at hb; cases hb
  · rw [h1] at hb
    cases hb
    by_cases hn : n = 0
    · exact .inl hn
    · exact .inr (cell_lt (h2 0 (by omega)).1)
theorem withInc_any (t : TypeId) (v : Value) (ia : Option Addr) (il ic : Nat) (m : MV) (lk : Option Addr) (q : Option Addr) (n c : Nat) (s u : Nat → ByteArray) (w : World) (h : ResQ w q n c s u) :
    Calls Tryd.prog 13 #[.agg (docArr (.iface t v) ia il ic m lk), .slice q n c] w fun e w' => ∃ b c', e = .returned (.agg (docArr (.iface t v) (some ⟨b, 0, none⟩) n c' m lk)) ∧ ResR w' b n s u ∧ (n = 0 ∨ q = some ⟨b, 0, none⟩) ∧ Below w.heap.size w w' := by
  rcases h with ⟨rfl, rfl, rfl⟩ | ⟨b, rfl, hr⟩
  · refine (withInc_nil t v ia il ic m lk w).mono ?_
    rintro e w' ⟨g, rfl, hb⟩
    exact ⟨g, 0, rfl, fun j hj => by omega, .inl rfl, hb⟩
  · refine (withInc_some t v ia il ic m lk _ n c w).mono ?_
    rintro e w' ⟨rfl, hb⟩
    exact ⟨b, c, rfl, hr.below hb, .inr rfl, hb⟩

set_option maxHeartbeats 1000000 in
theorem resBytes_any (p : Option Addr) (l c : Nat) (s t : Nat → ByteArray) (n : Int) (hn : Cnt n) (w : World) (hp : PairsAt w p l c s t) (hl : l * 32 ≤ 140737488355328) :
    Calls Tryd.prog 9 #[.slice p l c, .int .i64 n] w fun e w' => ∃ r, e = .returned (.int .i64 r) ∧ Cnt r ∧ w' = w := by
  have HW := hideIt hp
  clear hp
  go_enter Tryd.func9, Tryd.ntmps9
  go_wp2_with fail
  go_loop [1, 5] (fun q i => ∃ (k : Nat) (r : Int), k ≤ l ∧ i = .int .i64 k ∧ q = .int .i64 r ∧ Cnt r) (fun _ i => l - (intOf i).toNat)
  case atStart => exact ⟨0, n, Nat.zero_le _, rfl, rfl, hn⟩
  case round =>
    obtain ⟨k, r, hk, rfl, rfl, hr⟩ := hrel
    by_cases hlt : k < l
    · rcases HW.out with ⟨rfl, rfl, rfl⟩ | ⟨b, o, sp, rfl, hc⟩
      · omega
      obtain ⟨rfl, c1, c2, l1, l2⟩ := hc k hlt
      clear hc
      have hlt' : (k : Int) < (l : Int) := by omega
      generalize s k = sk at *
      generalize t k = tk at *
      by_cases hq : 1048576 < r
      · go_wp2_with fail
        go_ret
        exact ⟨_, rfl, hr, rfl⟩
      · go_wp2_with fail
        refine (addLen_any _ _ hr (by omega) (by omega) _).mono ?_
        rintro e w' ⟨q1, rfl, hq1, rfl⟩
        go_wp2_with fail
        refine (addLen_any _ _ hq1 (by omega) (by omega) _).mono ?_
        rintro e w' ⟨q2, rfl, hq2, rfl⟩
        go_wp2_with fail
        refine (addLen_any _ _ hq2 (by omega) (by omega) _).mono ?_
        rintro e w1 ⟨q3, rfl, hq3, rfl⟩
        go_wp2_with fail
        go_round
        case rel => exact ⟨k + 1, q3, by omega, by go_num, rfl, hq3⟩
        case measure => simp [intOf]; omega
    · have hlt' : ¬ (k : Int) < (l : Int) := by omega
      go_wp2_with fail
      go_ret
      exact ⟨_, rfl, hr, rfl⟩

theorem cell_drew (w : World) (a : Addr) : w.drew.cell? a = w.cell? a := rfl
theorem nil27 (w : World) (a : Option Addr) (n c : Nat) : (binOp .eql 27 (.slice a n c) (.slice none 0 0)).run Tryd.prog w = .ok (.bool a.isNone) w := Lib.run_eql_slice_nil w 27 70 a n c 0 0 Tryd.underlying27
theorem Tryd.info60 : (Tryd.prog.info? 60).map (fun i => (i.zero, i.size, i.bytes)) = some (some (.agg #[.string ⟨#[]⟩, .string ⟨#[]⟩, .nilIface, .nilIface]), 4, 64) := by kernel_rfl
theorem make38 (n : Nat) (hn : n * 32 ≤ 140737488355328) (w : World) : (Instr.makeSlice 38 (.int .i64 (n : Int)) (.int .i64 (n : Int))).run Tryd.prog w = .ok (.slice (some ⟨w.heap.size, 0, none⟩) n n) (w.alloc (.cells (madeCells #[.string ⟨#[]⟩, .string ⟨#[]⟩, .nilIface, .nilIface] (n * 4)) 60)) := by
  obtain ⟨i, hi, hz, hs, hb⟩ := info_parts Tryd.info60
  have hb' : (i.bytes : Int) * (n : Int) ≤ 281474976710656 := by rw [hb]; omega
  have hr := run_make (P := Tryd.prog) w 38 60 i _ Tryd.underlying38 hi hz .i64 .i64 n n (by omega) (Int.le_refl _) hb' (by omega)
  simp only [Int.toNat_natCast, hs] at hr
  exact hr

set_option maxRecDepth 100000 in
set_option maxHeartbeats 2000000 in
theorem toRes_any (p : Option Addr) (l c : Nat) (s t : Nat → ByteArray) (w : World) (hp : PairsAt w p l c s t) (hl : l * 32 ≤ 140737488355328) :
    Calls Tryd.prog 14 #[.slice p l c] w fun e w' => ∃ q c', e = .returned (.slice q l c') ∧ ResQ w' q l c' s t ∧ (∀ a, q = some a → w.heap.size ≤ a.block) ∧ Below w.heap.size w w' := by
  have hnil := nil27
  have hmk := make38 l hl
  rcases hp with ⟨rfl, rfl, rfl⟩ | ⟨b, o, sp, rfl, hc⟩
  · go_enter Tryd.func14, Tryd.ntmps14
    go_wp2
    go_ret
    exact ⟨none, 0, rfl, .inl ⟨rfl, rfl, rfl⟩, (fun a h => by cases h), Below.refl _ _⟩
  · have HC := hideIt hc
    clear hc
    go_enter Tryd.func14, Tryd.ntmps14
    go_wp2
    go_loopw [4] (fun i wr => ∃ (k : Nat) (C : Array Value), k ≤ l ∧ i = .int .i64 k ∧ Fill w w.heap.size 60 C wr ∧ C.size = l * 4 ∧ ∀ j, j < k → C[j * 4]? = some (.string (s j)) ∧ C[j * 4 + 1]? = some (.string (t j)) ∧ C[j * 4 + 2]? = some .nilIface ∧ C[j * 4 + 3]? = some .nilIface) (fun i _ => l - (intOf i).toNat)
    case atStart => exact ⟨0, _, Nat.zero_le _, rfl, Fill.start w _ rfl _ _, size_madeCells _ _, fun j hj => by omega⟩
    case round =>
      obtain ⟨k, C, hk, rfl, hF, hC, hf⟩ := hrel
      by_cases hlt : k < l
      · obtain ⟨rfl, c1, c2, l1, l2⟩ := HC.out k hlt
        have hlt' : (k : Int) < (l : Int) := by omega
        have hbs : b < w.heap.size := cell_lt c1
        have c1' := hF.old c1
        have c2' := hF.old c2
        have c3' := hF.cell (k * 4)
        have c4' := hF.cell (k * 4 + 1)
        have c5' := hF.cell (k * 4 + 2)
        have c6' := hF.cell (k * 4 + 3)
        have f3 := hF.frozen (k * 4)
        have f4 := hF.frozen (k * 4 + 1)
        have f5 := hF.frozen (k * 4 + 2)
        have f6 := hF.frozen (k * 4 + 3)
        rw [Array.getElem?_eq_getElem (by omega)] at c3' c4' c5' c6'
        generalize C[k * 4]'(by omega) = u3 at c3'
        generalize C[k * 4 + 1]'(by omega) = u4 at c4'
        generalize C[k * 4 + 2]'(by omega) = u5 at c5'
        generalize C[k * 4 + 3]'(by omega) = u6 at c6'
        have HF := hideIt hF
        have HC2 := hideIt hC
        have Hf := hideIt hf
        clear hF hC hf c1 c2
        have n2 : b ≠ w.heap.size := by omega
        go_wp2
        go_region_held3 (fun w' => w'.cell? ⟨b, o + k * 2, none⟩ = some (.string (s k)) ∧ w'.cell? ⟨b, o + k * 2 + 1, none⟩ = some (.string (t k))) (first | (go_keep; done) | (refine ⟨?_, ?_⟩ <;> (rw [cell_drew, World.cell?_setCell_far _ _ _ _ (by simp; omega), World.cell?_setCell_far _ _ _ _ (by simp; omega), World.cell?_setCell_far _ _ _ _ (by simp; omega), World.cell?_setCell_far _ _ _ _ (by simp; omega)]; assumption))) (fail)
        go_wp2
        go_roundw
        case rel =>
          refine ⟨k + 1, _, by omega, by go_num, ((((HF.out.set (k * 4) _).set (k * 4 + 1) _).set (k * 4 + 2) _).set (k * 4 + 3) _).drew, by simp [HC2.out], ?_⟩
          intro j hj
          have hsz := HC2.out
          by_cases hjk : j = k
          · subst hjk
            refine ⟨?_, ?_, ?_, ?_⟩
            · rw [Array.getElem?_setIfInBounds_ne (by omega), Array.getElem?_setIfInBounds_ne (by omega), Array.getElem?_setIfInBounds_ne (by omega), Array.getElem?_setIfInBounds_self_of_lt (by omega)]
            · rw [Array.getElem?_setIfInBounds_ne (by omega), Array.getElem?_setIfInBounds_ne (by omega), Array.getElem?_setIfInBounds_self_of_lt (by simp; omega)]
            · rw [Array.getElem?_setIfInBounds_ne (by omega), Array.getElem?_setIfInBounds_self_of_lt (by simp; omega)]
            · rw [Array.getElem?_setIfInBounds_self_of_lt (by simp; omega)]
          · obtain ⟨q1, q2, q3, q4⟩ := Hf.out j (by omega)
            refine ⟨?_, ?_, ?_, ?_⟩
            · rw [Array.getElem?_setIfInBounds_ne (by omega), Array.getElem?_setIfInBounds_ne (by omega), Array.getElem?_setIfInBounds_ne (by omega), Array.getElem?_setIfInBounds_ne (by omega)]; exact q1
            · rw [Array.getElem?_setIfInBounds_ne (by omega), Array.getElem?_setIfInBounds_ne (by omega), Array.getElem?_setIfInBounds_ne (by omega), Array.getElem?_setIfInBounds_ne (by omega)]; exact q2
            · rw [Array.getElem?_setIfInBounds_ne (by omega), Array.getElem?_setIfInBounds_ne (by omega), Array.getElem?_setIfInBounds_ne (by omega), Array.getElem?_setIfInBounds_ne (by omega)]; exact q3
            · rw [Array.getElem?_setIfInBounds_ne (by omega), Array.getElem?_setIfInBounds_ne (by omega), Array.getElem?_setIfInBounds_ne (by omega), Array.getElem?_setIfInBounds_ne (by omega)]; exact q4
        case measure => simp [intOf]; omega
      · obtain rfl : k = l := by omega
        clear hk hlt
        have HF := hideIt hF
        have Hf := hideIt hf
        clear hF hC hf
        go_wp2
        go_ret
        refine ⟨_, _, rfl, .inr ⟨_, rfl, fun j hj => ?_⟩, (fun a h => by cases h; exact Nat.le_refl _), HF.out.2.1⟩
        rw [HF.out.cell, HF.out.cell, HF.out.cell, HF.out.cell]
        exact Hf.out j hj

set_option maxRecDepth 100000 in
set_option maxHeartbeats 2000000 in
theorem incMatches_any (b c' : Nat) (p : Option Addr) (l c : Nat) (s t : Nat → ByteArray) (w : World) (hr : ResR w b l s t) (hp : PairsAt w p l c s t) (hl : l * 32 ≤ 140737488355328) :
    Calls Tryd.prog 22 #[.slice (some ⟨b, 0, none⟩) l c', .slice p l c] w fun e w' => e = .returned (.bool true) ∧ Below w.heap.size w w' := by
  have hnil := nil38
  have HR := hideIt hr
  have HP := hideIt hp
  clear hr hp
  go_enter Tryd.func22, Tryd.ntmps22
  go_wp2_with fail
  go_loopw [5] (fun i wr => ∃ k : Nat, k ≤ l ∧ i = .int .i64 k ∧ Below w.heap.size w wr) (fun i _ => l - (intOf i).toNat)
  case atStart => exact ⟨0, Nat.zero_le _, rfl, Below.refl _ _⟩
  case round =>
    obtain ⟨k, hk, rfl, hB⟩ := hrel
    by_cases hlt : k < l
    · rcases HP.out with ⟨rfl, rfl, rfl⟩ | ⟨b2, o, sp, rfl, hc⟩
      · omega
      obtain ⟨rfl, c1, c2, _, _⟩ := hc k hlt
      obtain ⟨c3, c4, c5, c6⟩ := HR.out k hlt
      have c1' := hB.cell (cell_lt c1) ▸ c1
      have c2' := hB.cell (cell_lt c2) ▸ c2
      have c3' := hB.cell (cell_lt c3) ▸ c3
      have c4' := hB.cell (cell_lt c4) ▸ c4
      have c5' := hB.cell (cell_lt c5) ▸ c5
      have c6' := hB.cell (cell_lt c6) ▸ c6
      have HB := hideIt hB
      clear hc c1 c2 c3 c4 c5 c6 hB
      have hlt' : (k : Int) < (l : Int) := by omega
      generalize s k = sk at *
      generalize t k = tk at *
      go_wp2
      go_quiet (fail)
      go_wp2
      go_roundw
      case rel => exact ⟨k + 1, by omega, by go_num, below_drewN HB.out _⟩
      case measure => simp [intOf]; omega
    · have hlt' : ¬ (k : Int) < (l : Int) := by omega
      clear hlt
      go_wp2
      go_ret
      exact ⟨rfl, hB⟩
end Go.Proofs.Qxb6608758aDoor
