import Derived.Test.Qxb6608758aDoorRows
import Derived.WalkKit
import Derived.WalkSpells
import Derived.WalkLawsBesides
import Derived.StillTactics
import Derived.Laws.Pointers
import Derived.Deep.RegionHeld3
import Derived.RowKit3
import Derived.Outline
import Derived.LoopTactic
import Derived.Deep.QuietTactic
import Derived.BigQuiet
namespace Go.Proofs.Qxb6608758aDoor
open Go.RowKit

/-- A count of bytes that stops behind the limit. -/
def Cnt (n : Int) : Prop := 0 ≤ n ∧ n ≤ 1048577

set_option maxHeartbeats 400000 in
theorem addLen_any (n l : Int) (hn : Cnt n) (hl : 0 ≤ l) (hl' : l ≤ 9223372036854775807) (w : World) :
    Calls Tryd.prog 7 #[.int .i64 n, .int .i64 l] w fun e w' => ∃ r, e = .returned (.int .i64 r) ∧ Cnt r ∧ w' = w := by
  obtain ⟨h0, h1⟩ := hn
  by_cases g1 : 1048576 < n
  · go_enter Tryd.func7, Tryd.ntmps7
    go_wp2
    go_ret
    exact ⟨_, rfl, ⟨by omega, by omega⟩, rfl⟩
  · by_cases g2 : 1048576 - n < l
    · go_enter Tryd.func7, Tryd.ntmps7
      go_wp2
      go_ret
      exact ⟨_, rfl, ⟨by omega, by omega⟩, rfl⟩
    · go_enter Tryd.func7, Tryd.ntmps7
      go_wp2
      go_ret
      exact ⟨_, rfl, ⟨by omega, by omega⟩, rfl⟩

set_option maxHeartbeats 400000 in
theorem copyInt_nil (w : World) : Calls Tryd.prog 24 #[.pointer none] w fun e w' => e = .returned (.pointer none) ∧ w' = w := by
  go_enter Tryd.func24, Tryd.ntmps24
  go_wp2
  go_ret
  exact ⟨rfl, rfl⟩
set_option maxHeartbeats 400000 in
theorem copyInt_some (b o : Nat) (z : Int) (w : World) (hc : w.cell? ⟨b, o, none⟩ = some (.int .i64 z)) :
    Calls Tryd.prog 24 #[.pointer (some ⟨b, o, none⟩)] w fun e w' => e = .returned (.pointer (some ⟨w.heap.size, 0, none⟩)) ∧ w' = w.alloc (.cells #[.int .i64 z] 3) := by
  go_enter Tryd.func24, Tryd.ntmps24
  go_wp2
  go_ret
  exact ⟨rfl, rfl⟩

set_option maxHeartbeats 400000 in
theorem ptrs_nil (w : World) : Calls Tryd.prog 26 #[.pointer none, .pointer none] w fun e w' => e = .returned (.bool true) ∧ w' = w := by
  go_enter Tryd.func26, Tryd.ntmps26
  go_wp2
  go_ret
  exact ⟨rfl, rfl⟩
set_option maxHeartbeats 400000 in
theorem ptrs_some (b o b' o' : Nat) (z : Int) (w : World) (hc : w.cell? ⟨b, o, none⟩ = some (.int .i64 z)) (hc' : w.cell? ⟨b', o', none⟩ = some (.int .i64 z)) :
    Calls Tryd.prog 26 #[.pointer (some ⟨b, o, none⟩), .pointer (some ⟨b', o', none⟩)] w fun e w' => e = .returned (.bool true) ∧ Below w.heap.size w w' := by
  go_enter Tryd.func26, Tryd.ntmps26
  go_wp2
  go_quiet (fail)
  go_wp2
  go_ret
  exact ⟨rfl, below_drewN (Below.refl _ _) _⟩

def s11 : ByteArray := ⟨#[49, 46, 49]⟩
def sOpt : ByteArray := ⟨#[79, 80, 84, 73, 77, 65, 68, 69]⟩
def s120 : ByteArray := ⟨#[49, 46, 50, 46, 48]⟩
set_option maxHeartbeats 400000 in
theorem jsonapi_any (w : World) :
    Calls Tryd.prog 19 #[.agg #[.string s11, .string sOpt, .string s120]] w fun e w' => e = .returned (.bool true) ∧ Below w.heap.size w w' := by
  unfold s11 sOpt s120
  go_enter Tryd.func19, Tryd.ntmps19
  go_wp2
  go_ret
  exact ⟨rfl, (Below.refl _ _).alloc (Nat.le_refl _) _⟩
end Go.Proofs.Qxb6608758aDoor
