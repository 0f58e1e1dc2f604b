import Derived.Test.Qxb6608668aEnc
import Derived.LoopTactic
import Derived.Deep.QuietTactic
import Derived.BigQuiet
namespace Go.Proofs.Qxb6608668a
open Go.RowKit

/-- A carrier at p: no peers, the two rows. -/
def Pay (w : World) (p gh gu : Nat) (h d : Int) : Prop :=
  w.cell? ⟨p, 0, none⟩ = some (.slice none 0 0) ∧ w.cell? ⟨p, 1, none⟩ = some (.slice (some ⟨gh, 0, none⟩) 17 17) ∧ w.cell? ⟨p, 2, none⟩ = some (.slice (some ⟨gu, 0, none⟩) 17 17) ∧ Row w gh (msg h d 1) ∧ Row w gu (msg h d 0) ∧ p < w.heap.size

set_option maxHeartbeats 800000 in
theorem new_any (h d : Int) (w : World) :
    Calls Try.prog 17 #[.agg #[.int .i64 h, .int .i64 d]] w fun e w' => ∃ p gh gu, e = .returned (.pointer (some ⟨p, 0, none⟩)) ∧ Pay w' p gh gu h d ∧ w.heap.size ≤ p ∧ Below w.heap.size w w' := by
  go_enter Try.func17, Try.ntmps17
  go_wp2_with fail
  go_region_held3 (fun w' => w'.cell? ⟨w.heap.size, 0, none⟩ = some (.int .i64 h) ∧ w'.cell? ⟨w.heap.size, 1, none⟩ = some (.int .i64 d)) (first | (simp [go_sem]; done) | (simp [World.cell?_alloc_past, *]; done) | (refine ⟨?_, ?_⟩ <;> (rw [hb.cell (by first | omega | (simp; done) | (simp; omega))]; first | assumption | (simp [go_sem]; done) | (simp [*]; done)))) (first | (go_at_call 19; refine (enc_any _ _ _ _).mono ?_; rintro e w' ⟨g, hg, rfl, hrow, hb⟩; have hsz : w.heap.size < w'.heap.size := (by have := hb.size; (try simp at this); omega)))
  go_wp2
  go_ret
  rename_i w1 g1 hg1 hrow1 hb1 hsz1 _
  refine ⟨w'.heap.size, g1, g, rfl, ⟨by simp [go_sem], by simp [go_sem], by simp [go_sem], ?_, ?_, by simp⟩, by omega, ?_⟩
  · exact (hrow1.below hb hrow1.1).below ((Below.refl w'.heap.size w').alloc (Nat.le_refl _) _) (Nat.lt_of_lt_of_le hrow1.1 hb.size)
  · exact hrow.below ((Below.refl w'.heap.size w').alloc (Nat.le_refl _) _) hrow.1
  · exact (((((Below.refl w.heap.size w).alloc (Nat.le_refl _) _).drew).trans (hb1.mono (by simp))).trans (hb.mono (by omega))).alloc (by omega) _

theorem Pay.below {w w' : World} {p gh gu B : Nat} {h d : Int} (k : Pay w p gh gu h d) (hb : Below B w w') (hB : w.heap.size ≤ B) : Pay w' p gh gu h d := by
  obtain ⟨a0, a1, a2, r1, r2, hp⟩ := k
  refine ⟨?_, ?_, ?_, r1.below hb (Nat.lt_of_lt_of_le r1.1 hB), r2.below hb (Nat.lt_of_lt_of_le r2.1 hB), Nat.lt_of_lt_of_le hp hb.size⟩
  · rw [hb.cell (p := ⟨p, 0, none⟩) (Nat.lt_of_lt_of_le hp hB)]; exact a0
  · rw [hb.cell (p := ⟨p, 1, none⟩) (Nat.lt_of_lt_of_le hp hB)]; exact a1
  · rw [hb.cell (p := ⟨p, 2, none⟩) (Nat.lt_of_lt_of_le hp hB)]; exact a2

set_option maxHeartbeats 800000 in
theorem zznew_any (h d : Int) (w : World) :
    Calls Try.prog 12 #[.int .i64 h, .int .i64 d] w fun e w' => ∃ p gh gu, e = .returned (.pointer (some ⟨p, 0, none⟩)) ∧ Pay w' p gh gu h d ∧ w.heap.size ≤ p ∧ Below w.heap.size w w' := by
  go_enter Try.func12, Try.ntmps12
  go_wp2_with (go_at_call 17; refine (new_any _ _ _).mono ?_; rintro e w' ⟨p, gh, gu, rfl, hp, hs, hb⟩)
  go_ret
  exact ⟨p, gh, gu, rfl, hp, hs, hb⟩

set_option maxHeartbeats 800000 in
theorem heard_any {p gh gu : Nat} {h d : Int} (w : World) (k : Pay w p gh gu h d) :
    Calls Try.prog 13 #[.pointer (some ⟨p, 0, none⟩)] w fun e w' => e = .returned (.slice (some ⟨gh, 0, none⟩) 17 17) ∧ w' = w := by
  obtain ⟨a0, a1, a2, r1, r2, hp⟩ := k
  clear r1 r2
  go_enter Try.func13, Try.ntmps13
  go_wp2
  go_ret
  exact ⟨rfl, rfl⟩

set_option maxHeartbeats 800000 in
theorem unheard_any {p gh gu : Nat} {h d : Int} (w : World) (k : Pay w p gh gu h d) :
    Calls Try.prog 14 #[.pointer (some ⟨p, 0, none⟩)] w fun e w' => e = .returned (.slice (some ⟨gu, 0, none⟩) 17 17) ∧ w' = w := by
  obtain ⟨a0, a1, a2, r1, r2, hp⟩ := k
  clear r1 r2
  go_enter Try.func14, Try.ntmps14
  go_wp2
  go_ret
  exact ⟨rfl, rfl⟩


set_option maxHeartbeats 800000 in
theorem eq_any (g1 g2 : Nat) (l m : List Int) (n : Nat) (hn : n ≤ 1000) (hl : l.length = n) (hm : m.length = n) (w : World) (r1 : Row w g1 l) (r2 : Row w g2 m) (r : Bool) (hr : (r = true ∧ ∀ j, j < n → l.getD j 0 = m.getD j 0) ∨ (r = false ∧ ∃ j, j < n ∧ l.getD j 0 ≠ m.getD j 0)) :
    Calls Try.prog 15 #[.slice (some ⟨g1, 0, none⟩) n n, .slice (some ⟨g2, 0, none⟩) n n] w fun e w' => e = .returned (.bool r) ∧ Below w.heap.size w w' := by
  have HR : Hid ((r = true ∧ ∀ j, j < n → l.getD j 0 = m.getD j 0) ∨ (r = false ∧ ∃ j, j < n ∧ l.getD j 0 ≠ m.getD j 0)) := hr
  clear hr
  have HL : Hid (l.length = n ∧ m.length = n) := ⟨hl, hm⟩
  clear hl hm
  have R1 : Hid (Row w g1 l) := r1
  have R2 : Hid (Row w g2 m) := r2
  clear r1 r2
  go_enter Try.func15, Try.ntmps15
  go_wp2
  go_loopw [5] (fun i wr => ∃ k : Nat, k ≤ n ∧ i = .int .i64 k ∧ (∀ j, j < k → l.getD j 0 = m.getD j 0) ∧ Below w.heap.size w wr) (fun i _ => n - (intOf i).toNat)
  case atStart => exact ⟨0, Nat.zero_le _, rfl, by intro j hj; omega, Below.refl _ _⟩
  case round =>
    obtain ⟨k, hk, rfl, hall, hb⟩ := hrel
    by_cases hlt : k < n
    · have hlt' : (k : Int) < (n : Int) := by omega
      have hc1 : wr.cell? ⟨g1, k, none⟩ = some (.int .u8 (l.getD k 0)) := by
        rw [hb.cell (p := ⟨g1, k, none⟩) R1.out.1]; exact R1.out.2 k (by rw [HL.out.1]; exact hlt)
      have hc2 : wr.cell? ⟨g2, k, none⟩ = some (.int .u8 (m.getD k 0)) := by
        rw [hb.cell (p := ⟨g2, k, none⟩) R2.out.1]; exact R2.out.2 k (by rw [HL.out.2]; exact hlt)
      have HA : Hid (∀ j, j < k → l.getD j 0 = m.getD j 0) := hall
      have HB : Hid (Below w.heap.size w wr) := hb
      clear hall hb
      generalize hx : l.getD k 0 = x at *
      generalize hy : m.getD k 0 = y at *
      have HX : Hid (l.getD k 0 = x) := hx
      have HY : Hid (m.getD k 0 = y) := hy
      clear hx hy
      by_cases hxy : x = y
      · have hne : (x != y) = false := by simp [hxy]
        clear hxy
        go_wp2
        go_quiet (fail)
        go_wp2
        go_roundw
        case rel =>
          refine ⟨k + 1, by omega, by go_num, ?_, ?_⟩
          · intro j hj
            by_cases hjk : j < k
            · exact HA.out j hjk
            · have : j = k := by omega
              subst this
              rw [HX.out, HY.out]
              simpa using hne
          · exact below_drewN HB.out _
        case measure => simp [intOf]; omega
      · have hne : (x != y) = true := by simp [hxy]
        clear hxy
        go_wp2
        go_quiet (fail)
        go_wp2
        go_ret
        have hrf : r = false := by
          rcases HR.out with ⟨_, h⟩ | ⟨h, _⟩
          · have h1 := h k hlt
            rw [HX.out, HY.out] at h1
            simp [h1] at hne
          · exact h
        exact ⟨by rw [hrf]; rfl, below_drewN HB.out _⟩
    · have hlt' : ¬ (k : Int) < (n : Int) := by omega
      go_wp2
      go_ret
      have hrt : r = true := by
        rcases HR.out with ⟨h, _⟩ | ⟨_, j, hj, h⟩
        · exact h
        · exact absurd (hall j (by omega)) h
      exact ⟨by rw [hrt]; rfl, hb⟩

/-! ### The plain law -/
theorem wrap_u64 (h : Int) : IntKind.u64.wrap h = h % 18446744073709551616 := by
  simp [IntKind.wrap, IntKind.bits, IntKind.signed]
def I64 (x : Int) : Prop := -9223372036854775808 ≤ x ∧ x ≤ 9223372036854775807
theorem b8_inj (v u : Int) (hv : 0 ≤ v ∧ v < 18446744073709551616) (hu : 0 ≤ u ∧ u < 18446744073709551616) (h : b8 v = b8 u) : v = u := by
  simp [b8] at h
  omega
theorem msg_inj (h1 d1 h2 d2 b1 b2 : Int) (a1 : I64 h1) (a2 : I64 d1) (a3 : I64 h2) (a4 : I64 d2) (h : msg h1 d1 b1 = msg h2 d2 b2) : h1 = h2 ∧ d1 = d2 ∧ b1 = b2 := by
  unfold msg at h
  have l8 : ∀ v, (b8 v).length = 8 := fun _ => rfl
  have e := List.append_inj h (by simp [l8])
  have e2 := List.append_inj e.1 (by simp [l8])
  rw [wrap_u64, wrap_u64, wrap_u64, wrap_u64] at e2
  have k1 := b8_inj _ _ (by omega) (by omega) e2.1
  have k2 := b8_inj _ _ (by omega) (by omega) e2.2
  unfold I64 at a1 a2 a3 a4
  have k3 := e.2
  simp at k3
  exact ⟨by omega, by omega, k3⟩
theorem msg_len (h d b : Int) : (msg h d b).length = 17 := rfl
theorem getD_ext {l m : List Int} (hl : l.length = m.length) (h : ∀ j, j < l.length → l.getD j 0 = m.getD j 0) : l = m := by
  apply List.ext_getElem hl
  intro j h1 h2
  have := h j h1
  simpa [List.getD, h1, h2] using this
theorem msg_apart {l m : List Int} (hl : l.length = m.length) (h : l ≠ m) : ∃ j, j < l.length ∧ l.getD j 0 ≠ m.getD j 0 := by
  apply Classical.byContradiction
  intro hn
  apply h
  apply getD_ext hl
  intro j hj
  apply Classical.byContradiction
  intro hne
  exact hn ⟨j, hj, hne⟩
end Go.Proofs.Qxb6608668a
