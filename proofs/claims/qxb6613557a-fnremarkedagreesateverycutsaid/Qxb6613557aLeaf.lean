/-
  The leaves of the road: zzAdd, zzOverStrings, the two zzBytes functions, zzAnyVerdict.
-/
import Derived.Test.Qxb6613557aRows
import Derived.WalkKit
import Derived.WalkSpells
import Derived.WalkLawsBesides
import Derived.StillTactics
import Derived.Laws.Pointers
import Derived.Deep.RegionHeld3
import Derived.RowKit3
import Derived.Outline
import Derived.LoopTactic
import Derived.Deep.QuietTactic
import Derived.BigQuiet
import Derived.Deep.MidRow
namespace Go.Proofs.Qxb6613557a
open Go.RowKit

theorem hideIt {p : Prop} (h : p) : Hid p := h
theorem cell_lt {w : World} {a : Addr} {v : Value} (h : w.cell? a = some v) : a.block < w.heap.size := by
  unfold World.cell? at h
  apply Classical.byContradiction
  intro hn
  rw [Array.getElem?_eq_none (by omega)] at h
  simp at h

/-- A slice of strings. -/
def StrsAt (w : World) (p : Option Addr) (n c : Nat) (s : Nat → ByteArray) : Prop :=
  (p = none ∧ n = 0 ∧ c = 0) ∨ ∃ b o sp, p = some ⟨b, o, sp⟩ ∧ ∀ j, j < n → sp = none ∧ w.cell? ⟨b, o + j, none⟩ = some (.string (s j)) ∧ (s j).size ≤ 9223372036854775807
theorem StrsAt.below {w w' : World} {p : Option Addr} {n c : Nat} {s : Nat → ByteArray} (h : StrsAt w p n c s) (hb : Below w.heap.size w w') : StrsAt w' p n c s := by
  rcases h with h | ⟨b, o, sp, h1, h2⟩
  · exact .inl h
  · refine .inr ⟨b, o, sp, h1, fun j hj => ?_⟩
    obtain ⟨a1, a2, a3⟩ := h2 j hj
    exact ⟨a1, by rw [hb.cell (cell_lt a2)]; exact a2, a3⟩

/-- A count of bytes that stops behind the limit. -/
def Cnt (n : Int) : Prop := 0 ≤ n ∧ n ≤ 1048577
/-- Some bool came back. -/
def SomeBool (e : Ending) : Prop := ∃ r : Bool, e = .returned (.bool r)

set_option maxHeartbeats 400000 in
theorem zzAdd_any (n l : Int) (hn : Cnt n) (hl : 0 ≤ l) (hl' : l ≤ 9223372036854775807) (w : World) :
    Calls Try.prog 29 #[.int .i64 n, .int .i64 l] w fun e w' => ∃ r, e = .returned (.int .i64 r) ∧ Cnt r ∧ w' = w := by
  obtain ⟨h0, h1⟩ := hn
  by_cases g1 : 1048576 < n
  · go_enter Try.func29, Try.ntmps29
    go_wp2
    go_ret
    exact ⟨_, rfl, ⟨by omega, by omega⟩, rfl⟩
  · by_cases g2 : 1048576 - n < l
    · go_enter Try.func29, Try.ntmps29
      go_wp2
      go_ret
      exact ⟨_, rfl, ⟨by omega, by omega⟩, rfl⟩
    · go_enter Try.func29, Try.ntmps29
      go_wp2
      go_ret
      exact ⟨_, rfl, ⟨by omega, by omega⟩, rfl⟩

set_option maxRecDepth 100000 in
set_option maxHeartbeats 1000000 in
theorem zzOver_any (n : Int) (hn : Cnt n) (p : Option Addr) (l c : Nat) (s : Nat → ByteArray) (w : World) (hp : StrsAt w p l c s) (bl : l ≤ 140737488355328) :
    Calls Try.prog 24 #[.int .i64 n, .slice p l c] w fun e w' => ∃ r, e = .returned (.int .i64 r) ∧ Cnt r ∧ w' = w := by
  have HP := hideIt hp
  clear hp
  go_enter Try.func24, Try.ntmps24
  go_wp2_with fail
  go_loop [0, 5] (fun q i => ∃ (k : Nat) (r : Int), k ≤ l ∧ i = .int .i64 k ∧ q = .int .i64 r ∧ Cnt r) (fun _ i => l - (intOf i).toNat)
  case atStart => exact ⟨0, n, Nat.zero_le _, rfl, rfl, hn⟩
  case round =>
    obtain ⟨k, r, hk, rfl, rfl, hr⟩ := hrel
    by_cases hlt : k < l
    · rcases HP.out with ⟨rfl, rfl, rfl⟩ | ⟨b, o, sp, rfl, hc⟩
      · omega
      obtain ⟨rfl, c1, l1⟩ := hc k hlt
      clear hc
      have hlt' : (k : Int) < (l : Int) := by omega
      generalize s k = sk at *
      by_cases hq : r ≤ 1048576
      · go_wp2_with fail
        refine (zzAdd_any _ _ hr (by omega) (by omega) _).mono ?_
        rintro e w' ⟨q1, rfl, hq1, rfl⟩
        go_wp2_with fail
        refine (zzAdd_any _ _ hq1 (by omega) (by omega) _).mono ?_
        rintro e w' ⟨q2, rfl, hq2, rfl⟩
        go_wp2_with fail
        go_round
        case rel => exact ⟨k + 1, q2, by omega, by go_num, rfl, hq2⟩
        case measure => simp [intOf]; omega
      · go_wp2_with fail
        go_ret
        exact ⟨_, rfl, hr, rfl⟩
    · have hlt' : ¬ (k : Int) < (l : Int) := by omega
      go_wp2_with fail
      go_ret
      exact ⟨_, rfl, hr, rfl⟩

set_option maxRecDepth 100000 in
set_option maxHeartbeats 4000000 in
theorem zzBytes_any (p0 : Option Addr) (l0 c0 : Nat) (s0 : Nat → ByteArray) (p1 : Option Addr) (l1 c1 : Nat) (s1 : Nat → ByteArray) (w : World) (h0 : StrsAt w p0 l0 c0 s0) (h1 : StrsAt w p1 l1 c1 s1) (b0 : l0 ≤ 9223372036854775807) (b1 : l1 ≤ 9223372036854775807) :
    Calls Try.prog 23 #[.slice p0 l0 c0, .slice p1 l1 c1] w fun e w' => SomeBool e ∧ w' = w := by
  have H0 := hideIt h0
  have H1 := hideIt h1
  clear h0 h1
  go_enter Try.func23, Try.ntmps23
  go_wp2_with fail
  all_goals try (go_ret; exact ⟨⟨_, rfl⟩, rfl⟩)
  go_loop [5, 6] (fun q i => ∃ (k : Nat) (r : Int), k ≤ l0 ∧ i = .int .i64 k ∧ q = .int .i64 r ∧ 0 ≤ r ∧ r ≤ 1048576) (fun _ i => l0 - (intOf i).toNat)
  case atStart => exact ⟨0, _, Nat.zero_le _, rfl, rfl, by omega, by omega⟩
  case round =>
    obtain ⟨k1, r1, hk1, rfl, rfl, hr1a, hr1b⟩ := hrel
    by_cases hlt1 : k1 < l0
    · rcases H0.out with ⟨rfl, rfl, rfl⟩ | ⟨b, o, sp, rfl, hc⟩
      · omega
      obtain ⟨rfl, c1, l1⟩ := hc k1 hlt1
      clear hc
      have hlt' : (k1 : Int) < (l0 : Int) := by omega
      generalize s0 k1 = sk at *
      go_wp2_with fail
      all_goals try (go_ret; exact ⟨⟨_, rfl⟩, rfl⟩)
      go_round
      case rel => exact ⟨k1 + 1, _, by omega, by go_num, rfl, by omega, by omega⟩
      case measure => simp [intOf]; omega
    · have hlt' : ¬ (k1 : Int) < (l0 : Int) := by omega
      clear hlt1
      go_wp2_with fail
      all_goals try (go_ret; exact ⟨⟨_, rfl⟩, rfl⟩)
      go_loop [5, 7] (fun q i => ∃ (k : Nat) (r : Int), k ≤ l1 ∧ i = .int .i64 k ∧ q = .int .i64 r ∧ 0 ≤ r ∧ r ≤ 1048576) (fun _ i => l1 - (intOf i).toNat)
      case atStart => exact ⟨0, _, Nat.zero_le _, rfl, rfl, by omega, by omega⟩
      case round =>
        obtain ⟨k2, r2, hk2, rfl, rfl, hr2a, hr2b⟩ := hrel
        by_cases hlt2 : k2 < l1
        · rcases H1.out with ⟨rfl, rfl, rfl⟩ | ⟨b, o, sp, rfl, hc⟩
          · omega
          obtain ⟨rfl, c1, l1⟩ := hc k2 hlt2
          clear hc
          generalize s1 k2 = sk at *
          go_wp2_with fail
          all_goals try (go_ret; exact ⟨⟨_, rfl⟩, rfl⟩)
          go_round
          case rel => exact ⟨k2 + 1, _, by omega, by go_num, rfl, by omega, by omega⟩
          case measure => simp [intOf]; omega
        · have hlt' : ¬ (k2 : Int) < (l1 : Int) := by omega
          clear hlt2
          go_wp2_with fail
          all_goals try (go_ret; exact ⟨⟨_, rfl⟩, rfl⟩)

set_option maxRecDepth 100000 in
set_option maxHeartbeats 4000000 in
theorem zzBytesCut_any (p0 : Option Addr) (l0 c0 : Nat) (s0 : Nat → ByteArray) (p1 : Option Addr) (l1 c1 : Nat) (s1 : Nat → ByteArray) (z : Int) (w : World) (h0 : StrsAt w p0 l0 c0 s0) (h1 : StrsAt w p1 l1 c1 s1) (b0 : l0 ≤ 9223372036854775807) (b1 : l1 ≤ 9223372036854775807) :
    Calls Try.prog 28 #[.slice p0 l0 c0, .slice p1 l1 c1, .int .i64 z] w fun e w' => SomeBool e ∧ w' = w := by
  have H0 := hideIt h0
  have H1 := hideIt h1
  clear h0 h1
  go_enter Try.func28, Try.ntmps28
  go_wp2_with fail
  all_goals try (go_ret; exact ⟨⟨_, rfl⟩, rfl⟩)
  go_loop [7, 8] (fun q i => ∃ (k : Nat) (r : Int), k ≤ l0 ∧ i = .int .i64 k ∧ q = .int .i64 r ∧ 0 ≤ r ∧ r ≤ 1048576) (fun _ i => l0 - (intOf i).toNat)
  case atStart => exact ⟨0, _, Nat.zero_le _, rfl, rfl, by omega, by omega⟩
  case round =>
    obtain ⟨k1, r1, hk1, rfl, rfl, hr1a, hr1b⟩ := hrel
    by_cases hlt1 : k1 < l0
    · rcases H0.out with ⟨rfl, rfl, rfl⟩ | ⟨b, o, sp, rfl, hc⟩
      · omega
      obtain ⟨rfl, c1, l1⟩ := hc k1 hlt1
      clear hc
      have hlt' : (k1 : Int) < (l0 : Int) := by omega
      generalize s0 k1 = sk at *
      go_wp2_with fail
      all_goals try (go_ret; exact ⟨⟨_, rfl⟩, rfl⟩)
      go_round
      case rel => exact ⟨k1 + 1, _, by omega, by go_num, rfl, by omega, by omega⟩
      case measure => simp [intOf]; omega
    · have hlt' : ¬ (k1 : Int) < (l0 : Int) := by omega
      clear hlt1
      go_wp2_with fail
      all_goals try (go_ret; exact ⟨⟨_, rfl⟩, rfl⟩)
      go_loop [7, 9] (fun q i => ∃ (k : Nat) (r : Int), k ≤ l1 ∧ i = .int .i64 k ∧ q = .int .i64 r ∧ 0 ≤ r ∧ r ≤ 1048576) (fun _ i => l1 - (intOf i).toNat)
      case atStart => exact ⟨0, _, Nat.zero_le _, rfl, rfl, by omega, by omega⟩
      case round =>
        obtain ⟨k2, r2, hk2, rfl, rfl, hr2a, hr2b⟩ := hrel
        by_cases hlt2 : k2 < l1
        · rcases H1.out with ⟨rfl, rfl, rfl⟩ | ⟨b, o, sp, rfl, hc⟩
          · omega
          obtain ⟨rfl, c1, l1⟩ := hc k2 hlt2
          clear hc
          generalize s1 k2 = sk at *
          go_wp2_with fail
          all_goals try (go_ret; exact ⟨⟨_, rfl⟩, rfl⟩)
          go_round
          case rel => exact ⟨k2 + 1, _, by omega, by go_num, rfl, by omega, by omega⟩
          case measure => simp [intOf]; omega
        · have hlt' : ¬ (k2 : Int) < (l1 : Int) := by omega
          clear hlt2
          go_wp2_with fail
          all_goals try (go_ret; exact ⟨⟨_, rfl⟩, rfl⟩)

/-- "unscanned". -/
abbrev unsL : List UInt8 := [117, 110, 115, 99, 97, 110, 110, 101, 100]
/-- Does one of the first n get a verdict? -/
def anyV (s v : Nat → ByteArray) : Nat → Bool
  | 0 => false
  | n + 1 => anyV s v n || (((s n).toList == unsL) && !((v n).toList == unsL))
theorem anyV_true {s v : Nat → ByteArray} {n k : Nat} (hk : k < n) (h1 : (s k).toList = unsL) (h2 : ¬ (v k).toList = unsL) : anyV s v n = true := by
  induction n with
  | zero => omega
  | succ n ih =>
    by_cases h : k = n
    · subst h
      simp [anyV, h1, h2]
    · simp [anyV, ih (by omega)]

set_option maxRecDepth 100000 in
set_option maxHeartbeats 1000000 in
theorem zzAny_any (p0 : Option Addr) (l c0 : Nat) (s : Nat → ByteArray) (p1 : Option Addr) (c1 : Nat) (v : Nat → ByteArray) (w : World) (h0 : StrsAt w p0 l c0 s) (h1 : StrsAt w p1 l c1 v) (bl : l ≤ 140737488355328) :
    Calls Try.prog 27 #[.slice p0 l c0, .slice p1 l c1] w fun e w' => e = .returned (.bool (anyV s v l)) ∧ w' = w := by
  have H0 := hideIt h0
  have H1 := hideIt h1
  clear h0 h1
  go_enter Try.func27, Try.ntmps27
  go_wp2_with fail
  go_loop [5] (fun i => ∃ (k : Nat), k ≤ l ∧ i = .int .i64 k ∧ anyV s v k = false) (fun i => l - (intOf i).toNat)
  case atStart => exact ⟨0, Nat.zero_le _, rfl, rfl⟩
  case round =>
    obtain ⟨k, hk, rfl, hv⟩ := hrel
    by_cases hlt : k < l
    · rcases H0.out with ⟨rfl, rfl, rfl⟩ | ⟨b, o, sp, rfl, hc⟩
      · omega
      rcases H1.out with ⟨rfl, rfl, rfl⟩ | ⟨b', o', sp', rfl, hc'⟩
      · omega
      obtain ⟨rfl, c1, l1⟩ := hc k hlt
      obtain ⟨rfl, c2, l2⟩ := hc' k hlt
      clear hc hc'
      have hlt' : (k : Int) < (l : Int) := by omega
      have HT := hideIt (@anyV_true s v l k hlt)
      have HE := hideIt (show anyV s v (k + 1) = (anyV s v k || (((s k).toList == unsL) && !((v k).toList == unsL))) from rfl)
      generalize s k = sk at *
      generalize v k = vk at *
      by_cases hs : sk.toList = [117, 110, 115, 99, 97, 110, 110, 101, 100]
      · by_cases hv' : vk.toList = [117, 110, 115, 99, 97, 110, 110, 101, 100]
        · go_wp2_with fail
          go_round
          case rel => exact ⟨k + 1, by omega, by go_num, by rw [HE.out, hv, hs, hv']; rfl⟩
          case measure => simp [intOf]; omega
        · have HA := hideIt (HT.out hs hv')
          have hv2 : (vk.toList == [117, 110, 115, 99, 97, 110, 110, 101, 100]) = false := by simpa using hv'
          go_wp2_with fail
          go_ret
          exact ⟨by rw [HA.out]; rfl, rfl⟩
      · have hs2 : (sk.toList == [117, 110, 115, 99, 97, 110, 110, 101, 100]) = false := by simpa using hs
        go_wp2_with fail
        go_round
        case rel => exact ⟨k + 1, by omega, by go_num, by rw [HE.out, hv, hs2]; rfl⟩
        case measure => simp [intOf]; omega
    · have hlt' : ¬ (k : Int) < (l : Int) := by omega
      obtain rfl : k = l := by omega
      have HV := hideIt hv
      clear hv
      go_wp2_with fail
      go_ret
      exact ⟨by rw [HV.out]; rfl, rfl⟩
end Go.Proofs.Qxb6613557a
