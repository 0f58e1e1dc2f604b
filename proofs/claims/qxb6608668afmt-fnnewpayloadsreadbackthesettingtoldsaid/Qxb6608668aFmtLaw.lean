import Derived.Test.Qxb6608668aFmtRead
namespace Go.Proofs.Qxb6608668aFmt
open Go.RowKit

set_option maxHeartbeats 1000000 in
theorem walk_good (h d : Int) (h1 : 0 ≤ h) (h2 : h ≤ 9223372036854775807) (h3 : 0 ≤ d) (h4 : d ≤ 9223372036854775807) (w : World) :
    Calls Tryf.prog 3 #[.int .i64 h, .int .i64 d] w fun e w' => e = .returned (.bool true) ∧ Below w.heap.size w w' := by
  go_enter Tryf.func3, Tryf.ntmps3
  go_wp2_with fail
  refine (zznew_any _ _ _).mono ?_
  rintro e w1 ⟨p, gh, gu, rfl, hp, hs, hb⟩
  go_wp2_with fail
  refine (peers_any _ hp).mono ?_
  rintro e w2 ⟨rfl, rfl⟩
  go_wp2_with fail
  refine (heard_any _ hp).mono ?_
  rintro e w3 ⟨rfl, rfl⟩
  go_wp2_with fail
  refine Calls.mono (zzread_good _ _ gh h d true _ hp.2.2.2.1 h1 h2 h3 h4) ?_
  rintro e w4 ⟨er, rfl, rfl, hb4⟩
  have hp4 := hp.below hb4 (Nat.le_refl _)
  have hbb4 := hb.trans (hb4.mono hb.size)
  clear hp hb hb4
  go_wp2_with fail
  have hp5 := hp4.below ((Below.refl w4.heap.size w4).alloc (Nat.le_refl _) (.cells #[.int .i64 h, .int .i64 d, .bool true] 28)) (Nat.le_refl _)
  refine (unheard_any _ hp5).mono ?_
  rintro e w5 ⟨rfl, rfl⟩
  go_wp2_with fail
  refine Calls.mono (zzread_good _ _ gu h d false _ hp5.2.2.2.2.1 h1 h2 h3 h4) ?_
  rintro e w6 ⟨er, rfl, rfl, hb5⟩
  have k0 := hb5.cell (p := ⟨w4.heap.size, 0, none⟩) (by simp)
  have k1 := hb5.cell (p := ⟨w4.heap.size, 1, none⟩) (by simp)
  have k2 := hb5.cell (p := ⟨w4.heap.size, 2, none⟩) (by simp)
  simp [go_sem] at k0 k1 k2
  have hz : w4.heap.size < w6.heap.size := by have := hb5.size; simp at this; omega
  have hbb6 := (hbb4.alloc hbb4.size (.cells #[.int .i64 h, .int .i64 d, .bool true] 28)).trans (hb5.mono (by have := hbb4.size; simp; omega))
  have B6 : Hid (Below w.heap.size w w6) := hbb6
  clear hp4 hp5 hb5 hbb4 hbb6
  go_wp2
  go_ret
  exact ⟨rfl, B6.out.alloc B6.out.size _⟩

set_option maxHeartbeats 1000000 in
theorem walk_bad (h d : Int) (h1 : I64 h) (h2 : I64 d) (hx : Hid (h < 0 ∨ d < 0)) (w : World) :
    Calls Tryf.prog 3 #[.int .i64 h, .int .i64 d] w fun e w' => e = .returned (.bool true) ∧ Below w.heap.size w w' := by
  go_enter Tryf.func3, Tryf.ntmps3
  go_wp2_with fail
  refine (zznew_any _ _ _).mono ?_
  rintro e w1 ⟨p, gh, gu, rfl, hp, hs, hb⟩
  go_wp2_with fail
  refine (peers_any _ hp).mono ?_
  rintro e w2 ⟨rfl, rfl⟩
  go_wp2_with fail
  refine (heard_any _ hp).mono ?_
  rintro e w3 ⟨rfl, rfl⟩
  go_wp2_with fail
  refine Calls.mono (zzread_bad _ _ gh h d 1 _ hp.2.2.2.1 h1 h2 hx.out) ?_
  rintro e w4 ⟨er, ⟨t1, x1, rfl⟩, rfl, hb4⟩
  have hp4 := hp.below hb4 (Nat.le_refl _)
  have hbb4 := hb.trans (hb4.mono hb.size)
  clear hp hb hb4
  go_wp2_with fail
  have hp5 := hp4.below ((Below.refl w4.heap.size w4).alloc (Nat.le_refl _) (.cells #[.int .i64 0, .int .i64 0, .bool false] 28)) (Nat.le_refl _)
  refine (unheard_any _ hp5).mono ?_
  rintro e w5 ⟨rfl, rfl⟩
  go_wp2_with fail
  refine Calls.mono (zzread_bad _ _ gu h d 0 _ hp5.2.2.2.2.1 h1 h2 hx.out) ?_
  rintro e w6 ⟨er, ⟨t2, x2, rfl⟩, rfl, hb5⟩
  have k0 := hb5.cell (p := ⟨w4.heap.size, 0, none⟩) (by simp)
  have k1 := hb5.cell (p := ⟨w4.heap.size, 1, none⟩) (by simp)
  have k2 := hb5.cell (p := ⟨w4.heap.size, 2, none⟩) (by simp)
  simp [go_sem] at k0 k1 k2
  have hz : w4.heap.size < w6.heap.size := by have := hb5.size; simp at this; omega
  have hbb6 := (hbb4.alloc hbb4.size (.cells #[.int .i64 0, .int .i64 0, .bool false] 28)).trans (hb5.mono (by have := hbb4.size; simp; omega))
  have B6 : Hid (Below w.heap.size w w6) := hbb6
  clear hp4 hp5 hb5 hbb4 hbb6
  by_cases hh : h < 0
  · go_wp2
    go_ret
    exact ⟨rfl, B6.out.alloc B6.out.size _⟩
  · have hd : d < 0 := by have := hx.out; omega
    go_wp2
    go_ret
    exact ⟨rfl, B6.out.alloc B6.out.size _⟩
end Go.Proofs.Qxb6608668aFmt
namespace Go.Proofs.Qxb6608668aFmt
open Go.RowKit
theorem i64_of {x : Int} (h : (Lit.int .i64 x).wf = true) : I64 x := by
  simp [Lit.wf, IntKind.min, IntKind.max, IntKind.signed, IntKind.bits] at h
  exact ⟨by omega, by omega⟩
theorem walk (h d : Int) (w0 : (Lit.int .i64 h).wf = true) (w1 : (Lit.int .i64 d).wf = true) (w : World) :
    Calls Tryf.prog 3 #[.int .i64 h, .int .i64 d] w fun e w' => e = .returned (.bool true) ∧ Below w.heap.size w w' := by
  have k0 := i64_of w0
  have k1 := i64_of w1
  by_cases hx : h < 0 ∨ d < 0
  · exact walk_bad h d k0 k1 hx w
  · exact walk_good h d (by omega) k0.2 (by omega) k1.2 w
end Go.Proofs.Qxb6608668aFmt
