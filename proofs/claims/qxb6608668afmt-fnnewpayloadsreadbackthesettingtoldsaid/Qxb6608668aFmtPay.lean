import Derived.Test.Qxb6608668aFmtEnc
import Derived.LoopTactic
import Derived.Deep.QuietTactic
import Derived.BigQuiet
namespace Go.Proofs.Qxb6608668aFmt
open Go.RowKit

/-- A carrier at p: no peers, the two rows. -/
def Pay (w : World) (p gh gu : Nat) (h d : Int) : Prop :=
  w.cell? ⟨p, 0, none⟩ = some (.slice none 0 0) ∧ w.cell? ⟨p, 1, none⟩ = some (.slice (some ⟨gh, 0, none⟩) 17 17) ∧ w.cell? ⟨p, 2, none⟩ = some (.slice (some ⟨gu, 0, none⟩) 17 17) ∧ Row w gh (msg h d 1) ∧ Row w gu (msg h d 0) ∧ p < w.heap.size

set_option maxHeartbeats 800000 in
theorem new_any (h d : Int) (w : World) :
    Calls Tryf.prog 9 #[.agg #[.int .i64 h, .int .i64 d]] w fun e w' => ∃ p gh gu, e = .returned (.pointer (some ⟨p, 0, none⟩)) ∧ Pay w' p gh gu h d ∧ w.heap.size ≤ p ∧ Below w.heap.size w w' := by
  go_enter Tryf.func9, Tryf.ntmps9
  go_wp2_with fail
  go_region_held3 (fun w' => w'.cell? ⟨w.heap.size, 0, none⟩ = some (.int .i64 h) ∧ w'.cell? ⟨w.heap.size, 1, none⟩ = some (.int .i64 d)) (first | (simp [go_sem]; done) | (simp [World.cell?_alloc_past, *]; done) | (refine ⟨?_, ?_⟩ <;> (rw [hb.cell (by first | omega | (simp; done) | (simp; omega))]; first | assumption | (simp [go_sem]; done) | (simp [*]; done)))) (first | (go_at_call 11; refine (enc_any _ _ _ _).mono ?_; rintro e w' ⟨g, hg, rfl, hrow, hb⟩; have hsz : w.heap.size < w'.heap.size := (by have := hb.size; (try simp at this); omega)))
  go_wp2
  go_ret
  rename_i w1 g1 hg1 hrow1 hb1 hsz1 _
  refine ⟨w'.heap.size, g1, g, rfl, ⟨by simp [go_sem], by simp [go_sem], by simp [go_sem], ?_, ?_, by simp⟩, by omega, ?_⟩
  · exact (hrow1.below hb hrow1.1).below ((Below.refl w'.heap.size w').alloc (Nat.le_refl _) _) (Nat.lt_of_lt_of_le hrow1.1 hb.size)
  · exact hrow.below ((Below.refl w'.heap.size w').alloc (Nat.le_refl _) _) hrow.1
  · exact (((((Below.refl w.heap.size w).alloc (Nat.le_refl _) _).drew).trans (hb1.mono (by simp))).trans (hb.mono (by omega))).alloc (by omega) _

theorem Pay.below {w w' : World} {p gh gu B : Nat} {h d : Int} (k : Pay w p gh gu h d) (hb : Below B w w') (hB : w.heap.size ≤ B) : Pay w' p gh gu h d := by
  obtain ⟨a0, a1, a2, r1, r2, hp⟩ := k
  refine ⟨?_, ?_, ?_, r1.below hb (Nat.lt_of_lt_of_le r1.1 hB), r2.below hb (Nat.lt_of_lt_of_le r2.1 hB), Nat.lt_of_lt_of_le hp hb.size⟩
  · rw [hb.cell (p := ⟨p, 0, none⟩) (Nat.lt_of_lt_of_le hp hB)]; exact a0
  · rw [hb.cell (p := ⟨p, 1, none⟩) (Nat.lt_of_lt_of_le hp hB)]; exact a1
  · rw [hb.cell (p := ⟨p, 2, none⟩) (Nat.lt_of_lt_of_le hp hB)]; exact a2

set_option maxHeartbeats 800000 in
theorem zznew_any (h d : Int) (w : World) :
    Calls Tryf.prog 4 #[.int .i64 h, .int .i64 d] w fun e w' => ∃ p gh gu, e = .returned (.pointer (some ⟨p, 0, none⟩)) ∧ Pay w' p gh gu h d ∧ w.heap.size ≤ p ∧ Below w.heap.size w w' := by
  go_enter Tryf.func4, Tryf.ntmps4
  go_wp2_with (go_at_call 9; refine (new_any _ _ _).mono ?_; rintro e w' ⟨p, gh, gu, rfl, hp, hs, hb⟩)
  go_ret
  exact ⟨p, gh, gu, rfl, hp, hs, hb⟩

set_option maxHeartbeats 800000 in
theorem heard_any {p gh gu : Nat} {h d : Int} (w : World) (k : Pay w p gh gu h d) :
    Calls Tryf.prog 7 #[.pointer (some ⟨p, 0, none⟩)] w fun e w' => e = .returned (.slice (some ⟨gh, 0, none⟩) 17 17) ∧ w' = w := by
  obtain ⟨a0, a1, a2, r1, r2, hp⟩ := k
  clear r1 r2
  go_enter Tryf.func7, Tryf.ntmps7
  go_wp2
  go_ret
  exact ⟨rfl, rfl⟩

set_option maxHeartbeats 800000 in
theorem unheard_any {p gh gu : Nat} {h d : Int} (w : World) (k : Pay w p gh gu h d) :
    Calls Tryf.prog 8 #[.pointer (some ⟨p, 0, none⟩)] w fun e w' => e = .returned (.slice (some ⟨gu, 0, none⟩) 17 17) ∧ w' = w := by
  obtain ⟨a0, a1, a2, r1, r2, hp⟩ := k
  clear r1 r2
  go_enter Tryf.func8, Tryf.ntmps8
  go_wp2
  go_ret
  exact ⟨rfl, rfl⟩


end Go.Proofs.Qxb6608668aFmt
