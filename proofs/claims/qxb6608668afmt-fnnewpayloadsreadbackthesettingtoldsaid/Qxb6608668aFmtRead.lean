import Derived.Test.Qxb6608668aFmtDec
namespace Go.Proofs.Qxb6608668aFmt
open Go.RowKit

/-- What the payload's row holds: the two numbers as uint64s, and the last byte. -/
def msg2 (vh vd b : Int) : List Int := b8 vh ++ b8 vd ++ [b]

theorem msg2_lo {w : World} {g : Nat} {vh vd b : Int} (r : Row w g (msg2 vh vd b)) : ∀ j, j < 8 → w.cell? ⟨g, 0 + j, none⟩ = some (.int .u8 ((b8 vh).getD j 0)) := by
  intro j hj
  rw [Nat.zero_add]
  rw [r.2 j (by simp [msg2, b8]; omega)]
  rcases j with _|_|_|_|_|_|_|_|j <;> first | rfl | omega
theorem msg2_hi {w : World} {g : Nat} {vh vd b : Int} (r : Row w g (msg2 vh vd b)) : ∀ j, j < 8 → w.cell? ⟨g, 8 + j, none⟩ = some (.int .u8 ((b8 vd).getD j 0)) := by
  intro j hj
  rw [r.2 (8 + j) (by simp [msg2, b8]; omega)]
  rcases j with _|_|_|_|_|_|_|_|j <;> first | rfl | omega
theorem msg2_last {w : World} {g : Nat} {vh vd b : Int} (r : Row w g (msg2 vh vd b)) : w.cell? ⟨g, 16, none⟩ = some (.int .u8 b) := r.2 16 (by simp [msg2, b8])

/-- The world behind decodeMessage's own block. -/
def Dec (w w' : World) : Prop := Below (w.heap.size + 1) (w.alloc (.cells #[.int .i64 0, .int .i64 0, .bool false] 28)) w'
theorem Dec.start (w : World) : Dec w (w.alloc (.cells #[.int .i64 0, .int .i64 0, .bool false] 28)) := Below.refl _ _
theorem Dec.drew {w w' : World} (h : Dec w w') : Dec w w'.drew := Below.drew h
theorem Dec.size {w w' : World} (h : Dec w w') : w.heap.size + 1 ≤ w'.heap.size := by have := Below.size h; simpa using this
theorem Dec.next {w w' w'' : World} (h : Dec w w') (hb : Below w'.heap.size w' w'') : Dec w w'' := Below.trans h (hb.mono h.size)
theorem Dec.row {w w' : World} {g : Nat} {l : List Int} (h : Dec w w') (r : Row w g l) : Row w' g l :=
  (r.below ((Below.refl w.heap.size w).alloc (Nat.le_refl _) _) r.1).below h (Nat.lt_succ_of_lt r.1)
theorem Dec.below {w w' : World} (h : Dec w w') : Below w.heap.size w w' := ((Below.refl w.heap.size w).alloc (Nat.le_refl _) _).trans (Below.mono h (by omega))
theorem Dec.cells {w w' : World} (h : Dec w w') : w'.cell? ⟨w.heap.size, 0, none⟩ = some (.int .i64 0) ∧ w'.cell? ⟨w.heap.size, 1, none⟩ = some (.int .i64 0) ∧ w'.cell? ⟨w.heap.size, 2, none⟩ = some (.bool false) ∧
    w'.frozen? ⟨w.heap.size, 0, none⟩ = false ∧ w'.frozen? ⟨w.heap.size, 1, none⟩ = false ∧ w'.frozen? ⟨w.heap.size, 2, none⟩ = false := by
  refine ⟨?_, ?_, ?_, ?_, ?_, ?_⟩
  all_goals first | rw [Below.cell h (by simp)] | rw [Below.frozen h (by simp)]
  all_goals simp [go_sem]

set_option maxHeartbeats 400000 in
theorem err_new (x : ByteArray) (w : World) : Calls Tryf.prog 14 #[.string x] w fun e w' => ∃ v, e = .returned (.iface 52 v) ∧ Below w.heap.size w w' := by
  go_enter Tryf.func14, Tryf.ntmps14
  go_wp2
  go_ret
  exact ⟨_, rfl, (Below.refl _ _).alloc (Nat.le_refl _) _⟩

set_option maxHeartbeats 1000000 in
theorem dec_good (g : Nat) (vh vd b : Int) (hb0 : 0 ≤ b) (hb1 : b ≤ 1) (w : World) (r : Row w g (msg2 vh vd b)) (h1 : 0 ≤ vh) (h2 : vh ≤ 9223372036854775807) (h3 : 0 ≤ vd) (h4 : vd ≤ 9223372036854775807) :
    Calls Tryf.prog 12 #[.slice (some ⟨g, 0, none⟩) 17 17] w fun e w' => e = .returned (.tuple #[.agg #[.int .i64 vh, .int .i64 vd, .bool (b == 1)], .nilIface]) ∧ Below w.heap.size w w' := by
  have R : Hid (Row w g (msg2 vh vd b)) := r
  clear r
  go_enter Tryf.func12, Tryf.ntmps12
  go_wp2_with fail
  go_region_held3 (fun w' => Dec w w') (first | exact Dec.start _ | exact (Dec.start _).drew | exact Dec.next (by assumption) hb | exact Dec.next (Dec.start _).drew hb)
    (first
      | (go_at_call_of 15 (Value.slice (some ⟨g, 0, none⟩) 8 17); refine (u64_of g 0 17 vh ⟨h1, by omega⟩ _ ?_ ?_).mono ?_; (exact ((Dec.start w).drew.row R.out).1); (exact msg2_lo ((Dec.start w).drew.row R.out)); rintro e w' ⟨rfl, hb⟩)
      | (go_at_call_of 15 (Value.slice (some ⟨g, 8, none⟩) 8 9); refine (u64_of g 8 9 vd ⟨h3, by omega⟩ _ ?_ ?_).mono ?_; (exact (Dec.row (by assumption) R.out).1); (exact msg2_hi (Dec.row (by assumption) R.out)); rintro e w' ⟨rfl, hb⟩))
  rename_i w1 hb1 hD
  obtain ⟨k0, k1, k2, f0, f1, f2⟩ := hD.cells
  have k16 := msg2_last (hD.row R.out)
  have D : Hid (Dec w w') := hD
  clear hD hb hb1
  go_wp2
  refine bodyPost_ret (v := .tuple #[.agg #[.int .i64 vh, .int .i64 vd, .bool (b == 1)], .nilIface]) (by simp [results, Tryf.results12, go_sem, k0, k1, k2]) rfl ⟨rfl, ?_⟩
  exact ((D.out.below.setCell (by simp) _).setCell (by simp) _).setCell (by simp) _
set_option maxHeartbeats 1000000 in
theorem dec_bad (g : Nat) (vh vd b : Int) (w : World) (r : Row w g (msg2 vh vd b)) (h1 : 0 ≤ vh) (h2 : vh < 18446744073709551616) (h3 : 0 ≤ vd) (h4 : vd < 18446744073709551616) (hx : 9223372036854775807 < vh ∨ (vh ≤ 9223372036854775807 ∧ 9223372036854775807 < vd)) :
    Calls Tryf.prog 12 #[.slice (some ⟨g, 0, none⟩) 17 17] w fun e w' => ∃ t x, e = .returned (.tuple #[.agg #[.int .i64 0, .int .i64 0, .bool false], .iface t x]) ∧ Below w.heap.size w w' := by
  have R : Hid (Row w g (msg2 vh vd b)) := r
  clear r
  go_enter Tryf.func12, Tryf.ntmps12
  go_wp2_with fail
  go_region_held3 (fun w' => Dec w w') (first | exact Dec.start _ | exact (Dec.start _).drew | exact Dec.next (by assumption) hb | exact Dec.next (Dec.start _).drew hb)
    (first
      | (go_at_call_of 15 (Value.slice (some ⟨g, 0, none⟩) 8 17); refine (u64_of g 0 17 vh ⟨h1, by omega⟩ _ ?_ ?_).mono ?_; (exact ((Dec.start w).drew.row R.out).1); (exact msg2_lo ((Dec.start w).drew.row R.out)); rintro e w' ⟨rfl, hb⟩)
      | (go_at_call_of 15 (Value.slice (some ⟨g, 8, none⟩) 8 9); refine (u64_of g 8 9 vd ⟨h3, by omega⟩ _ ?_ ?_).mono ?_; (exact (Dec.row (by assumption) R.out).1); (exact msg2_hi (Dec.row (by assumption) R.out)); rintro e w' ⟨rfl, hb⟩))
  rename_i w1 hb1 hD
  obtain ⟨k0, k1, k2, f0, f1, f2⟩ := hD.cells
  have k16 := msg2_last (hD.row R.out)
  have D : Hid (Dec w w') := hD
  clear hD hb hb1
  have hz := D.out.size
  have hz' : w.heap.size < w'.heap.size := by omega
  clear hz
  rcases hx with hx | ⟨hx1, hx2⟩
  all_goals
    go_wp2_with fail
    refine (err_new _ _).mono ?_
    rintro e w2 ⟨v, rfl, hb2⟩
    have D2 : Hid (Dec w w2) := D.out.next hb2
    clear k0 k1 k2 f0 f1 f2 k16
    obtain ⟨k0, k1, k2, f0, f1, f2⟩ := D2.out.cells
    go_wp2
    refine bodyPost_ret (v := .tuple #[.agg #[.int .i64 0, .int .i64 0, .bool false], .iface 52 v]) (by simp [results, Tryf.results12, go_sem, k0, k1, k2]) rfl ⟨52, v, rfl, ?_⟩
    exact ((D2.out.below.setCell (by simp) _).setCell (by simp) _).setCell (by simp) _
end Go.Proofs.Qxb6608668aFmt
namespace Go.Proofs.Qxb6608668aFmt
open Go.RowKit
/-- What a reading call hands back: the hello's three fields and an error of which P is said. -/
def Reads (f : FuncId) (args : Array Value) (a b : Int) (c : Bool) (P : Value → Prop) (w : World) : Prop :=
  Calls Tryf.prog f args w fun e w' => ∃ er, P er ∧ e = .returned (.tuple #[.agg #[.int .i64 a, .int .i64 b, .bool c], er]) ∧ Below w.heap.size w w'

set_option maxHeartbeats 400000 in
theorem read_of (p i s : Value) (a b : Int) (c : Bool) (P : Value → Prop) (w : World) (h : ∀ w1, Below w.heap.size w w1 → Reads 12 #[s] a b c P w1) : Reads 10 #[p, i, s] a b c P w := by
  have H : Hid (∀ w1, Below w.heap.size w w1 → Reads 12 #[s] a b c P w1) := h
  clear h
  show Calls _ _ _ _ _
  go_enter Tryf.func10, Tryf.ntmps10
  go_wp2_with fail
  refine Calls.mono (H.out _ ((Below.refl w.heap.size w).alloc (Nat.le_refl _) _)) ?_
  rintro e w' ⟨er, hP, rfl, hb⟩
  have D : Hid (Dec w w') := (Dec.start w).next hb
  obtain ⟨k0, k1, k2, f0, f1, f2⟩ := D.out.cells
  clear hb
  go_wp2
  refine bodyPost_ret (v := .tuple #[.agg #[.int .i64 a, .int .i64 b, .bool c], er]) (by simp [results, Tryf.results10, go_sem, k0, k1, k2]) rfl ⟨er, hP, rfl, ?_⟩
  exact ((D.out.below.setCell (by simp) _).setCell (by simp) _).setCell (by simp) _

set_option maxHeartbeats 400000 in
theorem zzread_of (p i s : Value) (a b : Int) (c : Bool) (P : Value → Prop) (w : World) (h : ∀ w1, Below w.heap.size w w1 → Reads 10 #[p, i, s] a b c P w1) : Reads 6 #[p, i, s] a b c P w := by
  have H : Hid (∀ w1, Below w.heap.size w w1 → Reads 10 #[p, i, s] a b c P w1) := h
  clear h
  show Calls _ _ _ _ _
  go_enter Tryf.func6, Tryf.ntmps6
  go_wp2_with fail
  refine Calls.mono (H.out _ ((Below.refl w.heap.size w).alloc (Nat.le_refl _) _)) ?_
  rintro e w' ⟨er, hP, rfl, hb⟩
  have D : Hid (Dec w w') := (Dec.start w).next hb
  obtain ⟨k0, k1, k2, f0, f1, f2⟩ := D.out.cells
  clear hb
  go_wp2
  refine bodyPost_ret (v := .tuple #[.agg #[.int .i64 a, .int .i64 b, .bool c], er]) (by simp [results, Tryf.results6, go_sem, k0, k1, k2]) rfl ⟨er, hP, rfl, ?_⟩
  exact ((D.out.below.setCell (by simp) _).setCell (by simp) _).setCell (by simp) _

theorem wrap_u64' (h : Int) : IntKind.u64.wrap h = h % 18446744073709551616 := by
  simp [IntKind.wrap, IntKind.bits, IntKind.signed]
def I64 (x : Int) : Prop := -9223372036854775808 ≤ x ∧ x ≤ 9223372036854775807

theorem zzread_good (p i : Value) (g : Nat) (h d : Int) (b : Bool) (w : World) (r : Row w g (msg h d (bi b))) (h1 : 0 ≤ h) (h2 : h ≤ 9223372036854775807) (h3 : 0 ≤ d) (h4 : d ≤ 9223372036854775807) :
    Reads 6 #[p, i, .slice (some ⟨g, 0, none⟩) 17 17] h d b (fun er => er = .nilIface) w := by
  refine zzread_of _ _ _ _ _ _ _ _ fun w1 hb1 => read_of _ _ _ _ _ _ _ _ fun w2 hb2 => ?_
  have r2 : Row w2 g (msg2 h d (bi b)) := by
    have e : msg h d (bi b) = msg2 h d (bi b) := by
      unfold msg msg2
      rw [wrap_u64', wrap_u64', Int.emod_eq_of_lt h1 (by omega), Int.emod_eq_of_lt h3 (by omega)]
    rw [← e]
    exact (r.below hb1 r.1).below hb2 (Nat.lt_of_lt_of_le r.1 hb1.size)
  refine Calls.mono (dec_good g h d (bi b) (by cases b <;> decide) (by cases b <;> decide) w2 r2 h1 h2 h3 h4) ?_
  rintro e w' ⟨rfl, hb⟩
  exact ⟨_, rfl, by cases b <;> rfl, hb⟩

theorem zzread_bad (p i : Value) (g : Nat) (h d b : Int) (w : World) (r : Row w g (msg h d b)) (h1 : I64 h) (h2 : I64 d) (hx : h < 0 ∨ d < 0) :
    Reads 6 #[p, i, .slice (some ⟨g, 0, none⟩) 17 17] 0 0 false (fun er => ∃ t x, er = .iface t x) w := by
  refine zzread_of _ _ _ _ _ _ _ _ fun w1 hb1 => read_of _ _ _ _ _ _ _ _ fun w2 hb2 => ?_
  have r2 : Row w2 g (msg h d b) := (r.below hb1 r.1).below hb2 (Nat.lt_of_lt_of_le r.1 hb1.size)
  have e : msg h d b = msg2 (h % 18446744073709551616) (d % 18446744073709551616) b := by
    unfold msg msg2
    rw [wrap_u64', wrap_u64']
  rw [e] at r2
  unfold I64 at h1 h2
  refine Calls.mono (dec_bad g _ _ b w2 r2 (by omega) (by omega) (by omega) (by omega) ?_) ?_
  · by_cases hh : h < 0
    · left; omega
    · right; omega
  · rintro e w' ⟨t, x, rfl, hb⟩
    exact ⟨_, ⟨t, x, rfl⟩, rfl, hb⟩

set_option maxHeartbeats 400000 in
theorem peers_any {p gh gu : Nat} {h d : Int} (w : World) (k : Pay w p gh gu h d) :
    Calls Tryf.prog 5 #[.pointer (some ⟨p, 0, none⟩)] w fun e w' => e = .returned (.slice none 0 0) ∧ w' = w := by
  obtain ⟨a0, a1, a2, r1, r2, hp⟩ := k
  clear r1 r2
  go_enter Tryf.func5, Tryf.ntmps5
  go_wp2
  go_ret
  exact ⟨rfl, rfl⟩
end Go.Proofs.Qxb6608668aFmt
