/-
  slices.Clone at the skill; zzScanSkills; remarked.
-/
import Derived.Test.Qxb6613557aSk
namespace Go.Proofs.Qxb6613557a
open Go.RowKit

set_option maxRecDepth 100000 in
set_option maxHeartbeats 1000000 in
theorem clone_any (b n c : Nat) (v s : Nat → ByteArray) (w : World) (h : SkAt w b n v s) (hn : 0 < n) (hb : n * 272 ≤ 140737488355328) :
    Calls Try.prog 53 #[.slice (some ⟨b, 0, none⟩) n c] w fun e w' => ∃ g c', e = .returned (.slice (some ⟨g, 0, none⟩) n c') ∧ w.heap.size ≤ g ∧ SkAt w' g n v s ∧ Below w.heap.size w w' := by
  obtain ⟨C, hC, hR⟩ := h
  obtain ⟨news, hl, hc, h1, hrow⟩ := row_cells hR
  have A : Hid (∀ (j : Nat) (u : Value), news[j]? = some u → w.cell? ⟨b, j, none⟩ = some u) := fun j u hj => by rw [cell_of_heap hC]; exact hc j u hj
  have HR : Hid (∀ j, j < n → ∀ i, i < 77 → news[j * 77 + i]? = (skArr (v j) (s j))[i]?) := hrow
  clear hc hC hR hrow
  obtain ⟨i0, hi, hz0, hz1, hz2⟩ := info_parts info42
  have q53 := nil53
  have hzs : (Value.agg Try.zeroCells42).cells.size = 77 := zero42_size
  go_enter Try.func53, Try.ntmps53
  go_wp2_with (at_builtin; refine wpList_append_own _ rfl _ _ 53 rfl w.heap.size 42 i0 (.agg Try.zeroCells42) 77 272 Try.underlying53 hi hz0 hz1 hz2 hzs (by omega) _ _ _ rfl (World.ownsRow_made w #[] 0 (Nat.le_refl _) (Nat.zero_le _) (by simp)) ⟨b, 0, none⟩ n c news rfl ?qc1 ?qc2 ?qc3 ?qc4 ?qc5 ?qc6 ?_)
  case qc1 => exact hl
  case qc2 =>
    intro j u hj
    rw [Addr.add_lit, Nat.zero_add]
    exact Lib.cell?_alloc_some _ (A.out j u hj)
  case qc3 => exact h1
  case qc4 => rw [Nat.zero_add]; unfold maxLen; omega
  case qc5 => rw [Nat.zero_add]; exact hb
  case qc6 => simp
  intro v' w1 hown hgrow hnil
  go_wp2
  go_ret
  have hB := ((Below.refl w.heap.size w).alloc (Nat.le_refl _) (.cells #[] 42)).grown hgrow (by simp) (by intro k hk; simp [Value.ownBlock] at hk; omega)
  obtain ⟨hx, hd⟩ := hown
  rcases hd with ⟨_, h0⟩ | ⟨g, cap, cur, rfl, hg, hh, hle, hcap, hsz, htake⟩
  · omega
  refine ⟨g, cap, by simp, hg, ⟨cur, hh, ?_⟩, hB⟩
  intro j hj i hi'
  have := HR.out j hj i hi'
  rw [← this]
  rw [← htake, List.getElem?_take, if_pos (by omega)]
  simp

/-- The slice of skills: nil, or a row. -/
def SkQ (w : World) (q : Option Addr) (n : Nat) (v s : Nat → ByteArray) : Prop := (q = none ∧ n = 0) ∨ ∃ b, q = some ⟨b, 0, none⟩ ∧ SkAt w b n v s
theorem SkQ.below {w w' : World} {q : Option Addr} {n : Nat} {v s : Nat → ByteArray} (h : SkQ w q n v s) (hb : Below w.heap.size w w') : SkQ w' q n v s := by
  rcases h with h | ⟨b, h1, h2⟩
  · exact .inl h
  · exact .inr ⟨b, h1, h2.below hb⟩

theorem make53 (n : Nat) (hn : n * 272 ≤ 140737488355328) (w : World) : (Instr.makeSlice 53 (.int .i64 (n : Int)) (.int .i64 (n : Int))).run Try.prog w = .ok (.slice (some ⟨w.heap.size, 0, none⟩) n n) (w.alloc (.cells (madeCells Try.zeroCells42 (n * 77)) 42)) := by
  obtain ⟨i, hi, hz, hs, hb⟩ := info_parts info42
  have hb' : (i.bytes : Int) * (n : Int) ≤ 281474976710656 := by rw [hb]; omega
  have hr := run_make (P := Try.prog) w 53 42 i _ Try.underlying53 hi hz .i64 .i64 n n (by omega) (Int.le_refl _) hb' (by omega)
  simp only [Int.toNat_natCast, hs, Value.cells] at hr
  exact hr

theorem row_set {w : World} {g : Nat} {C : Array Value} (h : w.heap[g]? = some (.cells C 42)) (k : Nat) (hk : (k + 1) * 77 ≤ C.size) (d st : ByteArray) :
    ∃ D, (w.setCells g (k * 77) (skArr d st).toList).heap[g]? = some (.cells D 42) ∧ D.size = C.size ∧ (∀ i, i < 77 → D[k * 77 + i]? = (skArr d st)[i]?) ∧ (∀ j, j ≠ k → ∀ i, i < 77 → D[j * 77 + i]? = C[j * 77 + i]?) := by
  have hz := skArr_size d st
  obtain ⟨D, h1, h2, h3, h4, h5⟩ := setCells_heap g (skArr d st).toList (k * 77) w C 42 h (by rw [Array.length_toList, hz]; omega)
  rw [Array.length_toList, hz] at h4 h5
  refine ⟨D, h1, h2, ?_, ?_⟩
  · intro i hi
    rw [h4 i hi]
    simp
  · intro j hj i hi
    by_cases hlt : j < k
    · exact h3 _ (by omega)
    · exact h5 _ (by omega)

set_option maxRecDepth 100000 in
set_option maxHeartbeats 1000000 in
theorem scan_any (p0 : Option Addr) (l c0 : Nat) (s : Nat → ByteArray) (p1 : Option Addr) (c1 : Nat) (v : Nat → ByteArray) (w : World) (h0 : StrsAt w p0 l c0 s) (h1 : StrsAt w p1 l c1 v) (hb : l * 272 ≤ 140737488355328) :
    Calls Try.prog 25 #[.slice p0 l c0, .slice p1 l c1] w fun e w' => ∃ q c', e = .returned (.slice q l c') ∧ q.isNone = p0.isNone ∧ SkQ w' q l v s ∧ Below w.heap.size w w' := by
  have q23 := nil23
  have hmk := make53 l hb
  have H1 := hideIt h1
  rcases h0 with ⟨rfl, rfl, rfl⟩ | ⟨b, o, sp, rfl, hc⟩
  · go_enter Try.func25, Try.ntmps25
    go_wp2
    go_ret
    exact ⟨none, 0, rfl, rfl, .inl ⟨rfl, rfl⟩, Below.refl _ _⟩
  have HC := hideIt hc
  clear hc h1
  go_enter Try.func25, Try.ntmps25
  go_wp2_with fail
  go_loopw [6] (fun i wr => ∃ (k : Nat) (C : Array Value), k ≤ l ∧ i = .int .i64 k ∧ Below w.heap.size w wr ∧ wr.heap[w.heap.size]? = some (.cells C 42) ∧ C.size = l * 77 ∧ SkRow C k v s) (fun i _ => l - (intOf i).toNat)
  case atStart => exact ⟨0, _, Nat.zero_le _, rfl, Below.refl_alloc _ _, heap_1 _ _, size_madeCells _ _, fun j hj => by omega⟩
  case round =>
    obtain ⟨k, C, hk, rfl, hB, hC, hS, hR⟩ := hrel
    by_cases hlt : k < l
    · rcases H1.out with ⟨rfl, rfl, rfl⟩ | ⟨b', o', sp', rfl, hc'⟩
      · omega
      obtain ⟨rfl, x1, l1⟩ := HC.out k hlt
      obtain ⟨rfl, x2, l2⟩ := hc' k hlt
      clear hc'
      have y1 := below_cell x1 hB
      have y2 := below_cell x2 hB
      have z1 := cell_lt x1
      have z2 := cell_lt x2
      simp only at z1 z2
      have hlt' : (k : Int) < (l : Int) := by omega
      have HB := hideIt hB
      have HH := hideIt hC
      have HR := hideIt hR
      have HS := hideIt hS
      clear hB hC hR hS x1 x2
      generalize hsk : s k = sk at *
      generalize hvk : v k = vk at *
      have hsto : (storeCells ⟨w.heap.size, k * 77, none⟩ ((Try.zeroCells42.toList.set 2 (.string vk)).set 9 (.string sk))).run Try.prog wr.drew = .ok () (wr.drew.setCells w.heap.size (k * 77) (skArr vk sk).toList) := by
        have hh : wr.drew.heap[w.heap.size]? = some (.cells C 42) := HH.out
        have hS := HS.out
        have hz := skArr_size vk sk
        have := run_storeCells_cells (P := Try.prog) w.heap.size (k * 77) (skArr vk sk).toList 0 wr.drew (fun j hj => by rw [Array.length_toList, hz] at hj; rw [cell_of_heap hh, Array.getElem?_eq_getElem (by omega)]; rfl) (fun j hj => frozen_of_heap hh _)
          (fun u hu => (Array.all_eq_true_iff_forall_mem.1 (skArr_one vk sk)) u (by simpa using hu))
        simpa [skArr] using this
      go_wp2_with fail
      go_region_held3 (fun w' => w'.cell? ⟨b, o + k, none⟩ = some (.string sk) ∧ w'.cell? ⟨b', o' + k, none⟩ = some (.string vk)) (first | (refine ⟨?_, ?_⟩ <;> (rw [World.cell?_setCells_out _ _ _ _ _ (fun e => by simp at e; omega)]; assumption)) | go_keep) (fail)
      go_wp2
      go_roundw
      case rel =>
        have hh : wr.drew.heap[w.heap.size]? = some (.cells C 42) := HH.out
        have hS := HS.out
        obtain ⟨D, d1, d2, d3, d4⟩ := row_set hh k (by omega) vk sk
        refine ⟨k + 1, D, by omega, by go_num, Below.setCells w.heap.size (Nat.le_refl _) _ _ _ (Below.drew HB.out), d1, by rw [d2, hS], ?_⟩
        intro j hj i hi
        by_cases hjk : j = k
        · subst hjk
          rw [d3 i hi, hsk, hvk]
        · rw [d4 j hjk i hi]
          exact HR.out j (by omega) i hi
      case measure => simp [intOf]; omega
    · have hlt' : ¬ (k : Int) < (l : Int) := by omega
      obtain rfl : k = l := by omega
      have HB := hideIt hB
      have HH := hideIt hC
      have HR := hideIt hR
      clear hB hC hR hS
      go_wp2_with fail
      go_ret
      exact ⟨_, ⟨_, rfl⟩, rfl, .inr ⟨_, rfl, C, HH.out, HR.out⟩, HB.out⟩


/-- The status that a skill ends with; the row with its first k done. -/
def want (s v : Nat → ByteArray) (j : Nat) : ByteArray := if ((s j).toList == unsL && !((v j).toList == unsL)) = true then v j else s j
def wantTo (s v : Nat → ByteArray) (k j : Nat) : ByteArray := if j < k then want s v j else s j
theorem wantTo_same {s v : Nat → ByteArray} {k : Nat} (h : want s v k = s k) (j : Nat) : wantTo s v (k + 1) j = wantTo s v k j := by
  unfold wantTo
  by_cases h1 : j < k
  · rw [if_pos (by omega), if_pos h1]
  · by_cases h2 : j = k
    · subst h2
      rw [if_pos (by omega), if_neg h1, h]
    · rw [if_neg (by omega), if_neg h1]
theorem wantTo_step (s v : Nat → ByteArray) (k j : Nat) (hj : j ≠ k) : wantTo s v (k + 1) j = wantTo s v k j := by
  unfold wantTo
  by_cases h1 : j < k
  · rw [if_pos (by omega), if_pos h1]
  · rw [if_neg (by omega), if_neg h1]
theorem anyV_false {s v : Nat → ByteArray} : ∀ {k : Nat}, anyV s v k = false → ∀ j, j < k → want s v j = s j
  | 0, _, j, hj => by omega
  | k + 1, h, j, hj => by
    simp only [anyV, Bool.or_eq_false_iff] at h
    by_cases hk : j = k
    · subst hk
      unfold want
      rw [if_neg (by rw [h.2]; exact Bool.false_ne_true)]
    · exact anyV_false h.1 j (by omega)
theorem wantTo_none {s v : Nat → ByteArray} {k : Nat} (h : anyV s v k = false) (j : Nat) : wantTo s v k j = s j := by
  unfold wantTo
  by_cases h1 : j < k
  · rw [if_pos h1, anyV_false h j h1]
  · rw [if_neg h1]
theorem SkRow.size {C : Array Value} {n : Nat} {v s : Nat → ByteArray} (h : SkRow C n v s) : n * 77 ≤ C.size := by
  cases n with
  | zero => omega
  | succ n =>
    have h1 := h n (by omega) 76 (by omega)
    have h2 : (skArr (v n) (s n))[76]? = some ((skArr (v n) (s n))[76]'(by rw [skArr_size]; omega)) := Array.getElem?_eq_getElem _
    rw [h2] at h1
    have := (Array.getElem?_eq_some_iff.1 h1).1
    omega
theorem SkAt.congr {w : World} {b n : Nat} {v s s' : Nat → ByteArray} (h : SkAt w b n v s) (e : ∀ j, j < n → s' j = s j) : SkAt w b n v s' := by
  obtain ⟨C, h1, h2⟩ := h
  exact ⟨C, h1, fun j hj i hi => by rw [e j hj]; exact h2 j hj i hi⟩
theorem SkAt.set {w : World} {g n : Nat} {v s s' : Nat → ByteArray} (h : SkAt w g n v s) (k : Nat) (hk : k < n) (h1 : ∀ j, j ≠ k → s' j = s j) : SkAt (w.setCells g (k * 77) (skArr (v k) (s' k)).toList) g n v s' := by
  obtain ⟨C, hC, hR⟩ := h
  have hS := hR.size
  obtain ⟨D, d1, d2, d3, d4⟩ := row_set hC k (by omega) (v k) (s' k)
  refine ⟨D, d1, fun j hj i hi => ?_⟩
  by_cases hjk : j = k
  · subst hjk
    exact d3 i hi
  · rw [d4 j hjk i hi, h1 j hjk]
    exact hR j hj i hi
theorem som42 {ops : Array Oper} {rest : List Oper} {o : Oper} {a : Act} {w : World} {Q : Exit → Act → World → Prop} (hgd : o.guard = none) (x y : Operand) (ho : o.op = .store 42 x y) (g k n : Nat) (v s : Nat → ByteArray) (cells : Array Value)
    (hx : a.eval x = .pointer (some ⟨g, k * 77, none⟩)) (hy : a.eval y = .agg cells) (hs : cells.size = 77) (h1 : cells.all (·.oneCell') = true) (hg : SkAt w g n v s) (hk : k < n)
    (h : wpList Try.prog ops Q rest (a.put o.dst undef) (w.setCells g (k * 77) cells.toList)) : wpList Try.prog ops Q (o :: rest) a w := by
  obtain ⟨C, hC, hR⟩ := hg
  have hS := hR.size
  refine wpList_store_mid hgd 42 x y ho g (k * 77) cells hx hy ?_ (by rw [size42, hs]) h1 h
  intro j hj
  rw [cell_of_heap hC, frozen_of_heap hC, Array.getElem?_eq_getElem (by omega)]
  exact ⟨rfl, rfl⟩

/-- What remarked hands back. -/
def Rem (q : Option Addr) (n c : Nat) (v s : Nat → ByteArray) (w : World) (e : Ending) (w' : World) : Prop :=
  (anyV s v n = false ∧ e = .returned (.tuple #[.slice q n c, .bool false]) ∧ Below w.heap.size w w') ∨
  (anyV s v n = true ∧ ∃ g c', e = .returned (.tuple #[.slice (some ⟨g, 0, none⟩) n c', .bool true]) ∧ w.heap.size ≤ g ∧ SkAt w' g n v (want s v) ∧ Below w.heap.size w w')
/-- The loop's relation. -/
def Mk (n : Nat) (v s : Nat → ByteArray) (w : World) (k : Nat) (mk : Value) (wr : World) : Prop :=
  (anyV s v k = false ∧ mk = .slice none 0 0) ∨ (anyV s v k = true ∧ ∃ g c', mk = .slice (some ⟨g, 0, none⟩) n c' ∧ w.heap.size ≤ g ∧ SkAt wr g n v (wantTo s v k))
theorem Mk.below {n : Nat} {v s : Nat → ByteArray} {w : World} {k : Nat} {mk : Value} {wr w' : World} (h : Mk n v s w k mk wr) (hb : Below wr.heap.size wr w') : Mk n v s w k mk w' := by
  rcases h with h | ⟨h, g, c', h1, h2, h3⟩
  · exact .inl h
  · exact .inr ⟨h, g, c', h1, h2, h3.below hb⟩
theorem Mk.same {n : Nat} {v s : Nat → ByteArray} {w : World} {k : Nat} {mk : Value} {wr : World} (h : Mk n v s w k mk wr) (hx : ((s k).toList == unsL && !((v k).toList == unsL)) = false) : Mk n v s w (k + 1) mk wr := by
  have e1 : anyV s v (k + 1) = anyV s v k := by show (anyV s v k || _) = _; rw [hx, Bool.or_false]
  have e2 : want s v k = s k := by unfold want; rw [if_neg (by rw [hx]; exact Bool.false_ne_true)]
  rcases h with ⟨h, h'⟩ | ⟨h, g, c', h1, h2, h3⟩
  · exact .inl ⟨by rw [e1, h], h'⟩
  · exact .inr ⟨by rw [e1, h], g, c', h1, h2, h3.congr fun j _ => wantTo_same e2 j⟩

theorem rowStep' {w : World} {g n k : Nat} {v s : Nat → ByteArray} (hw : want s v k = v k) (hk : k < n) (h : SkAt w g n v (wantTo s v k)) : SkAt (w.setCells g (k * 77) (skArr (v k) (v k)).toList) g n v (wantTo s v (k + 1)) := by
  have e := SkAt.set (s' := wantTo s v (k + 1)) h k hk (fun j hj => wantTo_step s v k j hj)
  have e2 : wantTo s v (k + 1) k = v k := by unfold wantTo; rw [if_pos (by omega)]; exact hw
  rw [e2] at e
  exact e
theorem rowStep {w : World} {g n k : Nat} {v s : Nat → ByteArray} (hw : want s v k = v k) (ha : anyV s v k = false) (hk : k < n) (h : SkAt w g n v s) : SkAt (w.setCells g (k * 77) (skArr (v k) (v k)).toList) g n v (wantTo s v (k + 1)) :=
  rowStep' hw hk (h.congr fun j _ => wantTo_none ha j)

set_option maxRecDepth 100000 in
set_option maxHeartbeats 4000000 in
theorem remarked_any (q : Option Addr) (n c : Nat) (v s : Nat → ByteArray) (w : World) (h : SkQ w q n v s) (hb : n * 272 ≤ 140737488355328) :
    Calls Try.prog 44 #[.slice q n c, .func (.func 45) #[] #[]] w fun e w' => Rem q n c v s w e w' := by
  have q53 := nil53
  have HQ := hideIt h
  clear h
  go_enter Try.func44, Try.ntmps44
  go_wp2_with fail
  go_loopw [6, 12] (fun mk i wr => ∃ k : Nat, k ≤ n ∧ i = .int .i64 k ∧ Below w.heap.size w wr ∧ Mk n v s w k mk wr) (fun _ i _ => n - (intOf i).toNat)
  case atStart => exact ⟨0, Nat.zero_le _, rfl, Below.refl _ _, .inl ⟨rfl, rfl⟩⟩
  case round =>
    obtain ⟨k, hk, rfl, hB, hM⟩ := hrel
    have HB := hideIt hB
    have HM := hideIt hM
    clear hB hM
    by_cases hlt : k < n
    · rcases HQ.out with ⟨_, rfl⟩ | ⟨b, rfl, hS⟩
      · omega
      have hlt' : (k : Int) < (n : Int) := by omega
      have S1 := hideIt (hS.below HB.out)
      clear hS
      have R1 := hideIt (S1.out.range hlt)
      have Z1 := hideIt (skArr_size (v k) (s k))
      have O1 := hideIt (skArr_one (v k) (s k))
      have G1 := hideIt (heap_1 wr (.cells (skArr (v k) (s k)) 42))
      have c9 : (wr.alloc (.cells (skArr (v k) (s k)) 42)).cell? ⟨wr.heap.size, 9, none⟩ = some (.string (s k)) := (cell_of_heap G1.out 9).trans (skArr_9 _ _)
      have B1 := hideIt (HB.out.trans ((Below.refl_alloc wr (.cells (skArr (v k) (s k)) 42)).mono HB.out.size))
      have M1 := hideIt (HM.out.below (Below.refl_alloc wr (.cells (skArr (v k) (s k)) 42)))
      have S2 := hideIt (S1.out.below (Below.refl_alloc wr (.cells (skArr (v k) (s k)) 42)))
      clear HM HB S1
      by_cases hs : (s k).toList = [117, 110, 115, 99, 97, 110, 110, 101, 100]
      · have hs1 := hideIt (show ((s k).toList == unsL) = true from beq_iff_eq.2 hs)
        have Z2 := hideIt (skArr_size (v k) (v k))
        have O2 := hideIt (skArr_one (v k) (v k))
        go_wp2_with (first | refine ldm42 rfl _ rfl b (k * 77) (skArr (v k) (s k)) rfl Z1.out R1.out ?_ | refine st42 rfl _ _ rfl _ _ _ rfl rfl Z1.out O1.out zero42_size rfl ?_ | refine ld42 rfl _ rfl wr.heap.size (skArr (v k) (s k)) rfl Z1.out G1.out ?_)
        refine (mark_any (v k) (s k) _).mono ?_
        rintro e w2 ⟨rfl, hb2⟩
        have hbA := Below.refl_alloc w2 (.cells (skArr (v k) (v k)) 42)
        have hb3 := hb2.trans (hbA.mono hb2.size)
        have B2 := hideIt (B1.out.trans (hb3.mono B1.out.size))
        have M2 := hideIt (M1.out.below hb3)
        have S3 := hideIt (S2.out.below hb3)
        have G2 := hideIt (heap_1 w2 (.cells (skArr (v k) (v k)) 42))
        have d9 : (w2.alloc (.cells (skArr (v k) (v k)) 42)).cell? ⟨w2.heap.size, 9, none⟩ = some (.string (v k)) := (cell_of_heap G2.out 9).trans (skArr_9 _ _)
        clear hb2 hbA hb3 B1 M1 S2 G1 c9 R1
        by_cases hv : (v k).toList = [117, 110, 115, 99, 97, 110, 110, 101, 100]
        · have XV := hideIt (show ((s k).toList == unsL && !((v k).toList == unsL)) = false by rw [show ((v k).toList == unsL) = true from beq_iff_eq.2 hv, Bool.not_true, Bool.and_false])
          go_wp2_with (first | refine st42 rfl _ _ rfl _ _ _ rfl rfl Z2.out O2.out zero42_size rfl ?_)
          go_roundw
          case rel => exact ⟨k + 1, by omega, by go_num, B2.out, M2.out.same XV.out⟩
          case measure => simp [intOf]; omega
        · have hv2 : ((v k).toList == [117, 110, 115, 99, 97, 110, 110, 101, 100]) = false := by simpa using hv
          have W1 := hideIt (show want s v k = v k by unfold want; rw [if_pos (by rw [hs1.out, hv2]; rfl)])
          have A1 := hideIt (show anyV s v (k + 1) = true by show (anyV s v k || ((s k).toList == unsL && !((v k).toList == unsL))) = true; rw [hs1.out, hv2, Bool.not_false, Bool.and_self, Bool.or_true])
          rcases M2.out with ⟨ha, rfl⟩ | ⟨ha, g, c', rfl, hg, hS⟩
          · have HA := hideIt ha
            clear ha
            go_wp2_with (first | refine st42 rfl _ _ rfl _ _ _ rfl rfl Z2.out O2.out zero42_size rfl ?_)
            refine (clone_any b n c v s _ S3.out (by omega) hb).mono ?_
            rintro e w3 ⟨g, c', rfl, hg, hS, hb4⟩
            have G3 := hideIt (heap_next G2.out hb4)
            have B3 := hideIt (B2.out.trans (hb4.mono B2.out.size))
            have S4 := hideIt hS
            have hg' : w.heap.size ≤ g := Nat.le_trans B2.out.size hg
            clear hb4 hS hg
            go_wp2_with (first | refine ld42 rfl _ rfl w2.heap.size (skArr (v k) (v k)) rfl Z2.out ?hg ?_ | refine som42 rfl _ _ rfl g k n v s (skArr (v k) (v k)) rfl rfl Z2.out O2.out ?hS hlt ?_)
            case hg => exact G3.out
            case hS => exact S4.out
            go_roundw
            case rel => exact ⟨k + 1, by omega, by go_num, Below.setCells g hg' _ _ _ B3.out, .inr ⟨A1.out, g, c', rfl, hg', rowStep W1.out HA.out hlt S4.out⟩⟩
            case measure => simp [intOf]; omega
          · have HA := hideIt ha
            have HG := hideIt hg
            have S4 := hideIt hS
            clear ha hg hS
            go_wp2_with (first | refine st42 rfl _ _ rfl _ _ _ rfl rfl Z2.out O2.out zero42_size rfl ?_ | refine ld42 rfl _ rfl w2.heap.size (skArr (v k) (v k)) rfl Z2.out ?hg ?_ | refine som42 rfl _ _ rfl g k n v (wantTo s v k) (skArr (v k) (v k)) rfl rfl Z2.out O2.out ?hS hlt ?_)
            case hg => exact G2.out
            case hS => exact S4.out
            go_roundw
            case rel => exact ⟨k + 1, by omega, by go_num, Below.setCells g HG.out _ _ _ B2.out, .inr ⟨A1.out, g, c', rfl, HG.out, rowStep' W1.out hlt S4.out⟩⟩
            case measure => simp [intOf]; omega
      · have hs2 : ((s k).toList == [117, 110, 115, 99, 97, 110, 110, 101, 100]) = false := by simpa using hs
        go_wp2_with (first | refine ldm42 rfl _ rfl b (k * 77) (skArr (v k) (s k)) rfl Z1.out R1.out ?_ | refine st42 rfl _ _ rfl _ _ _ rfl rfl Z1.out O1.out zero42_size rfl ?_)
        go_roundw
        case rel => exact ⟨k + 1, by omega, by go_num, B1.out, M1.out.same (by rw [hs2]; rfl)⟩
        case measure => simp [intOf]; omega
    · have hlt' : ¬ (k : Int) < (n : Int) := by omega
      obtain rfl : k = n := by omega
      rcases HM.out with ⟨ha, rfl⟩ | ⟨ha, g, c', rfl, hg, hS⟩
      · have HA := hideIt ha
        clear ha
        go_wp2_with fail
        go_ret2
        exact .inl ⟨HA.out, rfl, HB.out⟩
      · have HA := hideIt ha
        have H1 := hideIt hg
        have H2 := hideIt hS
        clear ha hg hS
        go_wp2_with fail
        go_ret2
        exact .inr ⟨HA.out, g, c', rfl, H1.out, H2.out.congr fun j hj => by unfold wantTo; rw [if_pos hj], HB.out⟩

set_option maxRecDepth 100000 in
set_option maxHeartbeats 1000000 in
theorem zzRem_any (q : Option Addr) (n c : Nat) (v s : Nat → ByteArray) (w : World) (h : SkQ w q n v s) (hb : n * 272 ≤ 140737488355328) :
    Calls Try.prog 26 #[.slice q n c] w fun e w' => Rem q n c v s w e w' := by
  go_enter Try.func26, Try.ntmps26
  go_wp2_with fail
  refine (remarked_any q n c v s w h hb).mono ?_
  rintro e w' (⟨ha, rfl, hB⟩ | ⟨ha, g, c', rfl, hg, hS, hB⟩)
  · have HA := hideIt ha
    clear ha
    go_wp2_with fail
    go_ret2
    exact .inl ⟨HA.out, rfl, hB⟩
  · have HA := hideIt ha
    have HS := hideIt hS
    clear ha hS
    go_wp2_with fail
    go_ret2
    exact .inr ⟨HA.out, g, c', rfl, hg, HS.out, hB⟩
end Go.Proofs.Qxb6613557a
