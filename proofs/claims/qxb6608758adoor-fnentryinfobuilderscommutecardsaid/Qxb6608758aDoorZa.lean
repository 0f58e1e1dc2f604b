import Derived.Test.Qxb6608758aDoorMem
namespace Go.Proofs.Qxb6608758aDoor
open Go.RowKit

/-- Some bool came back. -/
def SomeBool (e : Ending) : Prop := ∃ r : Bool, e = .returned (.bool r)

set_option maxRecDepth 100000 in
set_option maxHeartbeats 4000000 in
theorem zzLinks_any (a0 a1 a3 a4 a5 a6 : ByteArray) (m : MV) (zr za : Option Int) (f : Nat → Int) (s t : Nat → ByteArray) (w : World) (hm : MOK w m zr za f s t)
    (b0 : a0.size ≤ 9223372036854775807) (b1 : a1.size ≤ 9223372036854775807) (b3 : a3.size ≤ 9223372036854775807) (b4 : a4.size ≤ 9223372036854775807) (b5 : a5.size ≤ 9223372036854775807) (b6 : a6.size ≤ 9223372036854775807) :
    Calls Tryd.prog 16 #[.string a0, .string a1, .agg m.arr, .string a3, .string a4, .string a5, .string a6] w fun e w' => SomeBool e ∧ Below w.heap.size w w' := by
  obtain ⟨rep, api, sch, mo, dr, da, ts, pa, pl, pc, im, wa, wl, wq⟩ := m
  simp only [MV.arr]
  obtain ⟨_, _, _, hws, hpl, hwl, r1, r2, r3, r4, r5⟩ := hm
  simp only at hws hpl hwl r1 r2 r3 r4 r5
  have HW : Hid (PairsAt w wa wl wq s t) := hws
  clear hws
  go_enter Tryd.func16, Tryd.ntmps16
  go_wp2_with fail
  all_goals try (go_ret; exact ⟨⟨_, rfl⟩, (Below.refl _ _).alloc (Nat.le_refl _) _⟩)
  go_loop [15, 16] (fun q i => ∃ (k : Nat) (r : Int), k ≤ wl ∧ i = .int .i64 k ∧ q = .int .i64 r ∧ 0 ≤ r ∧ r ≤ 1048576) (fun _ i => wl - (intOf i).toNat)
  case atStart => exact ⟨0, _, Nat.zero_le _, rfl, rfl, by omega, by omega⟩
  case round =>
    obtain ⟨k, r, hk, rfl, rfl, hr0, hr1⟩ := hrel
    by_cases hlt : k < wl
    · rcases HW.out with ⟨rfl, rfl, rfl⟩ | ⟨b, o, sp, rfl, hc⟩
      · omega
      obtain ⟨rfl, c1, c2, l1, l2⟩ := hc k hlt
      clear hc
      have hbs := cell_lt c1
      simp only at hbs
      have hlt' : (k : Int) < (wl : Int) := by omega
      generalize s k = sk at *
      generalize t k = tk at *
      go_wp2_with fail
      all_goals try (go_ret; exact ⟨⟨_, rfl⟩, (Below.refl _ _).alloc (Nat.le_refl _) _⟩)
      go_round
      case rel => exact ⟨k + 1, _, by omega, by go_num, rfl, by omega, by omega⟩
      case measure => simp [intOf]; omega
    · have hlt' : ¬ (k : Int) < (wl : Int) := by omega
      go_wp2_with fail
      all_goals (go_ret; exact ⟨⟨_, rfl⟩, (Below.refl _ _).alloc (Nat.le_refl _) _⟩)
end Go.Proofs.Qxb6608758aDoor
