import Derived.Test.Qxb6608668aFmtPay
import Derived.Lib.EndianBits
namespace Go.Proofs.Qxb6608668aFmt
open Go.RowKit

def Byte (z : Int) : Prop := 0 ≤ z ∧ z ≤ 255

set_option maxHeartbeats 2000000 in
set_option maxRecDepth 100000 in
theorem u64_any (g o c : Nat) (z0 z1 z2 z3 z4 z5 z6 z7 : Int) (b0 : Byte z0) (b1 : Byte z1) (b2 : Byte z2) (b3 : Byte z3) (b4 : Byte z4) (b5 : Byte z5) (b6 : Byte z6) (b7 : Byte z7) (w : World) (hg : g < w.heap.size)
    (c0 : w.cell? ⟨g, o, none⟩ = some (.int .u8 z0)) (c1 : w.cell? ⟨g, o + 1, none⟩ = some (.int .u8 z1)) (c2 : w.cell? ⟨g, o + 2, none⟩ = some (.int .u8 z2)) (c3 : w.cell? ⟨g, o + 3, none⟩ = some (.int .u8 z3))
    (c4 : w.cell? ⟨g, o + 4, none⟩ = some (.int .u8 z4)) (c5 : w.cell? ⟨g, o + 5, none⟩ = some (.int .u8 z5)) (c6 : w.cell? ⟨g, o + 6, none⟩ = some (.int .u8 z6)) (c7 : w.cell? ⟨g, o + 7, none⟩ = some (.int .u8 z7)) :
    Calls Tryf.prog 15 #[.agg #[], .slice (some ⟨g, o, none⟩) 8 c] w fun e w' => e = .returned (.int .u64 (z7 + z6 * 256 + z5 * 65536 + z4 * 16777216 + z3 * 4294967296 + z2 * 1099511627776 + z1 * 281474976710656 + z0 * 72057594037927936)) ∧ Below w.heap.size w w' := by
  obtain ⟨_, _⟩ := b0
  obtain ⟨_, _⟩ := b1
  obtain ⟨_, _⟩ := b2
  obtain ⟨_, _⟩ := b3
  obtain ⟨_, _⟩ := b4
  obtain ⟨_, _⟩ := b5
  obtain ⟨_, _⟩ := b6
  obtain ⟨_, _⟩ := b7
  go_enter Tryf.func15, Tryf.ntmps15
  go_wp2
  go_quiet (fail)
  go_wp2
  go_ret
  refine ⟨?_, ((Below.refl _ w).alloc (Nat.le_refl _) _).trans ⟨rfl, rfl, rfl, Nat.le_refl _, fun _ _ => rfl⟩⟩
  simp (disch := omega) only [u64_or8, u64_or16, u64_or24, u64_or32, u64_or40, u64_or48, u64_or56]
  rfl

theorem b8_byte (v : Int) : ∀ z ∈ b8 v, Byte z := by
  intro z hz
  simp [b8] at hz
  unfold Byte
  omega

theorem u64_of (g o c : Nat) (v : Int) (hv : 0 ≤ v ∧ v < 18446744073709551616) (w : World) (hg : g < w.heap.size)
    (hc : ∀ j, j < 8 → w.cell? ⟨g, o + j, none⟩ = some (.int .u8 ((b8 v).getD j 0))) :
    Calls Tryf.prog 15 #[.agg #[], .slice (some ⟨g, o, none⟩) 8 c] w fun e w' => e = .returned (.int .u64 v) ∧ Below w.heap.size w w' := by
  refine (u64_any g o c _ _ _ _ _ _ _ _ (b8_byte v _ ?_) (b8_byte v _ ?_) (b8_byte v _ ?_) (b8_byte v _ ?_) (b8_byte v _ ?_) (b8_byte v _ ?_) (b8_byte v _ ?_) (b8_byte v _ ?_) w hg (hc 0 (by decide)) (hc 1 (by decide)) (hc 2 (by decide)) (hc 3 (by decide)) (hc 4 (by decide)) (hc 5 (by decide)) (hc 6 (by decide)) (hc 7 (by decide))).mono ?_
  all_goals try (simp [b8]; done)
  rintro e w' ⟨rfl, hb⟩
  refine ⟨?_, hb⟩
  congr 2
  simp [b8]
  omega
end Go.Proofs.Qxb6608668aFmt
