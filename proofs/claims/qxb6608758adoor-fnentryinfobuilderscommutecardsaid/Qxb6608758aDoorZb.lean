import Derived.Test.Qxb6608758aDoorZa
import Derived.Test.Qxb6608758aDoorMeta
namespace Go.Proofs.Qxb6608758aDoor
open Go.RowKit

set_option maxRecDepth 100000 in
set_option maxHeartbeats 8000000 in
theorem zzInc_any (a0 a1 : ByteArray) (m : MV) (zr za : Option Int) (f : Nat → Int) (s t : Nat → ByteArray) (p3 p4 : Option Addr) (l3 c3 l4 c4 : Nat) (s3 t3 s4 t4 : Nat → ByteArray) (w : World) (hm : MOK w m zr za f s t)
    (b0 : a0.size ≤ 9223372036854775807) (b1 : a1.size ≤ 9223372036854775807) (h3 : PairsAt w p3 l3 c3 s3 t3) (h4 : PairsAt w p4 l4 c4 s4 t4) (hl3 : l3 * 32 ≤ 140737488355328) (hl4 : l4 * 32 ≤ 140737488355328) :
    Calls Tryd.prog 21 #[.string a0, .string a1, .agg m.arr, .slice p3 l3 c3, .slice p4 l4 c4] w fun e w' => SomeBool e ∧ Below w.heap.size w w' := by
  obtain ⟨rep, api, sch, mo, dr, da, ts, pa, pl, pc, im, wa, wl, wq⟩ := m
  simp only [MV.arr]
  obtain ⟨_, _, _, hws, hpl, hwl, r1, r2, r3, r4, r5⟩ := hm
  simp only at hws hpl hwl r1 r2 r3 r4 r5
  have HW := hideIt hws
  clear hws
  have H3 := hideIt h3
  have H4 := hideIt h4
  clear h3 h4
  go_enter Tryd.func21, Tryd.ntmps21
  go_wp2_with fail
  all_goals try (go_ret; exact ⟨⟨_, rfl⟩, (Below.refl _ _).alloc (Nat.le_refl _) _⟩)
  go_loop [11, 12] (fun q i => ∃ (k : Nat) (r : Int), k ≤ wl ∧ i = .int .i64 k ∧ q = .int .i64 r ∧ 0 ≤ r ∧ r ≤ 1048576) (fun _ i => wl - (intOf i).toNat)
  case atStart => exact ⟨0, _, Nat.zero_le _, rfl, rfl, by omega, by omega⟩
  case round =>
    obtain ⟨k1, r1, hk1, rfl, rfl, hr1a, hr1b⟩ := hrel
    by_cases hlt1 : k1 < wl
    · rcases HW.out with ⟨rfl, rfl, rfl⟩ | ⟨b, o, sp, rfl, hc⟩
      · omega
      obtain ⟨rfl, c1, c2, l1, l2⟩ := hc k1 hlt1
      clear hc
      have hbs := cell_lt c1
      simp only at hbs
      have hlt' : (k1 : Int) < (wl : Int) := by omega
      generalize s k1 = sk at *
      generalize t k1 = tk at *
      go_wp2_with fail
      all_goals try (go_ret; exact ⟨⟨_, rfl⟩, (Below.refl _ _).alloc (Nat.le_refl _) _⟩)
      go_round
      case rel => exact ⟨k1 + 1, _, by omega, by go_num, rfl, by omega, by omega⟩
      case measure => simp [intOf]; omega
    · have hlt' : ¬ (k1 : Int) < (wl : Int) := by omega
      clear hlt1
      go_wp2_with fail
      all_goals try (go_ret; exact ⟨⟨_, rfl⟩, (Below.refl _ _).alloc (Nat.le_refl _) _⟩)
      go_loop [11, 13] (fun q i => ∃ (k : Nat) (r : Int), k ≤ l3 ∧ i = .int .i64 k ∧ q = .int .i64 r ∧ 0 ≤ r ∧ r ≤ 1048576) (fun _ i => l3 - (intOf i).toNat)
      case atStart => exact ⟨0, _, Nat.zero_le _, rfl, rfl, by omega, by omega⟩
      case round =>
        obtain ⟨k2, r2, hk2, rfl, rfl, hr2a, hr2b⟩ := hrel
        by_cases hlt2 : k2 < l3
        · rcases H3.out with ⟨rfl, rfl, rfl⟩ | ⟨b, o, sp, rfl, hc⟩
          · omega
          obtain ⟨rfl, c1, c2, l1, l2⟩ := hc k2 hlt2
          clear hc
          have hbs := cell_lt c1
          simp only at hbs
          have hlt' : (k2 : Int) < (l3 : Int) := by omega
          generalize s3 k2 = sk at *
          generalize t3 k2 = tk at *
          go_wp2_with fail
          all_goals try (go_ret; exact ⟨⟨_, rfl⟩, (Below.refl _ _).alloc (Nat.le_refl _) _⟩)
          go_round
          case rel => exact ⟨k2 + 1, _, by omega, by go_num, rfl, by omega, by omega⟩
          case measure => simp [intOf]; omega
        · have hlt' : ¬ (k2 : Int) < (l3 : Int) := by omega
          clear hlt2
          go_wp2_with fail
          all_goals try (go_ret; exact ⟨⟨_, rfl⟩, (Below.refl _ _).alloc (Nat.le_refl _) _⟩)
          go_loop [11, 14] (fun q i => ∃ (k : Nat) (r : Int), k ≤ l4 ∧ i = .int .i64 k ∧ q = .int .i64 r ∧ 0 ≤ r ∧ r ≤ 1048576) (fun _ i => l4 - (intOf i).toNat)
          case atStart => exact ⟨0, _, Nat.zero_le _, rfl, rfl, by omega, by omega⟩
          case round =>
            obtain ⟨k3, r3, hk3, rfl, rfl, hr3a, hr3b⟩ := hrel
            by_cases hlt3 : k3 < l4
            · rcases H4.out with ⟨rfl, rfl, rfl⟩ | ⟨b, o, sp, rfl, hc⟩
              · omega
              obtain ⟨rfl, c1, c2, l1, l2⟩ := hc k3 hlt3
              clear hc
              have hbs := cell_lt c1
              simp only at hbs
              have hlt' : (k3 : Int) < (l4 : Int) := by omega
              generalize s4 k3 = sk at *
              generalize t4 k3 = tk at *
              go_wp2_with fail
              all_goals try (go_ret; exact ⟨⟨_, rfl⟩, (Below.refl _ _).alloc (Nat.le_refl _) _⟩)
              go_round
              case rel => exact ⟨k3 + 1, _, by omega, by go_num, rfl, by omega, by omega⟩
              case measure => simp [intOf]; omega
            · have hlt' : ¬ (k3 : Int) < (l4 : Int) := by omega
              clear hlt3
              go_wp2_with fail
              all_goals try (go_ret; exact ⟨⟨_, rfl⟩, (Below.refl _ _).alloc (Nat.le_refl _) _⟩)
end Go.Proofs.Qxb6608758aDoor
