import Derived.Test.Qxb6608668aFmtRows
import Derived.WalkKit
import Derived.WalkSpells
import Derived.WalkLawsBesides
import Derived.StillTactics
import Derived.Laws.Pointers
import Derived.Deep.RegionHeld3
import Derived.RowKit3
import Derived.Outline
namespace Go.Proofs.Qxb6608668aFmt
open Go.RowKit

set_option maxHeartbeats 400000 in
theorem app_any (g n : Nat) (v : Int) (w : World) (hg : g < w.heap.size) (hn : n + 8 ≤ 17)
   (hc : ∀ j, j < 17 → ∃ u, w.cell? ⟨g, j, none⟩ = some u) (hf : ∀ j, j < 17 → w.frozen? ⟨g, j, none⟩ = false) :
    Calls Tryf.prog 13 #[.agg #[], .slice (some ⟨g, 0, none⟩) n 17, .int .u64 v] w fun e w' => e = .returned (.slice (some ⟨g, 0, none⟩) (n + 8) 17) ∧
     w' = ((((((((((w.setCell { block := g, off := n } (Value.int IntKind.u8 (v / 72057594037927936 % 256))).setCell
                                      { block := g, off := n + 1 }
                                      (Value.int IntKind.u8 (v / 281474976710656 % 256))).setCell
                                  { block := g, off := n + 2 } (Value.int IntKind.u8 (v / 1099511627776 % 256))).setCell
                              { block := g, off := n + 3 } (Value.int IntKind.u8 (v / 4294967296 % 256))).setCell
                          { block := g, off := n + 4 } (Value.int IntKind.u8 (v / 16777216 % 256))).setCell
                      { block := g, off := n + 5 } (Value.int IntKind.u8 (v / 65536 % 256))).setCell
                  { block := g, off := n + 6 } (Value.int IntKind.u8 (v / 256 % 256))).setCell
              { block := g, off := n + 7 } (Value.int IntKind.u8 (v % 256))).alloc
          (Obj.cells #[] 45)).alloc
      (Obj.cells
        #[Value.int IntKind.u8 (v / 72057594037927936 % 256), Value.int IntKind.u8 (v / 281474976710656 % 256),
          Value.int IntKind.u8 (v / 1099511627776 % 256), Value.int IntKind.u8 (v / 4294967296 % 256),
          Value.int IntKind.u8 (v / 16777216 % 256), Value.int IntKind.u8 (v / 65536 % 256),
          Value.int IntKind.u8 (v / 256 % 256), Value.int IntKind.u8 (v % 256)]
        5)) := by
  obtain ⟨u0, c0⟩ := hc (n + 0) (by omega)
  obtain ⟨u1, c1⟩ := hc (n + 1) (by omega)
  obtain ⟨u2, c2⟩ := hc (n + 2) (by omega)
  obtain ⟨u3, c3⟩ := hc (n + 3) (by omega)
  obtain ⟨u4, c4⟩ := hc (n + 4) (by omega)
  obtain ⟨u5, c5⟩ := hc (n + 5) (by omega)
  obtain ⟨u6, c6⟩ := hc (n + 6) (by omega)
  obtain ⟨u7, c7⟩ := hc (n + 7) (by omega)
  have f0 := hf (n + 0) (by omega)
  have f1 := hf (n + 1) (by omega)
  have f2 := hf (n + 2) (by omega)
  have f3 := hf (n + 3) (by omega)
  have f4 := hf (n + 4) (by omega)
  have f5 := hf (n + 5) (by omega)
  have f6 := hf (n + 6) (by omega)
  have f7 := hf (n + 7) (by omega)
  clear hc hf
  simp only [Nat.add_zero] at c0 f0
  go_enter Tryf.func13, Tryf.ntmps13
  go_wp2_with fail
  go_ret
  exact ⟨rfl, rfl⟩

theorem hmk17 (w : World) : (Instr.makeSlice 33 (.int .i64 0) (.int .i64 17)).run Tryf.prog w = .ok (.slice (some ⟨w.heap.size, 0, none⟩) 0 17) (w.alloc (.cells #[.int .u8 0, .int .u8 0, .int .u8 0, .int .u8 0, .int .u8 0, .int .u8 0, .int .u8 0, .int .u8 0, .int .u8 0, .int .u8 0, .int .u8 0, .int .u8 0, .int .u8 0, .int .u8 0, .int .u8 0, .int .u8 0, .int .u8 0] 5)) := by kernel_rfl


def b8 (v : Int) : List Int := [v / 72057594037927936 % 256, v / 281474976710656 % 256, v / 1099511627776 % 256, v / 4294967296 % 256, v / 16777216 % 256, v / 65536 % 256, v / 256 % 256, v % 256]
def msg (h d b : Int) : List Int := b8 (IntKind.u64.wrap h) ++ b8 (IntKind.u64.wrap d) ++ [b]

/-- A row of bytes in block g, from its first cell on. -/
def Row (w : World) (g : Nat) (l : List Int) : Prop := g < w.heap.size ∧ ∀ j, j < l.length → w.cell? ⟨g, j, none⟩ = some (.int .u8 (l.getD j 0))

set_option maxHeartbeats 800000 in
theorem enc_true (h d : Int) (w : World) :
    Calls Tryf.prog 11 #[.agg #[.int .i64 h, .int .i64 d, .bool true]] w fun e w' => ∃ g, w.heap.size ≤ g ∧ e = .returned (.slice (some ⟨g, 0, none⟩) 17 17) ∧ Row w' g (msg h d 1) ∧ Below w.heap.size w w' := by
  have hmk := hmk17
  go_enter Tryf.func11, Tryf.ntmps11
  go_wp2_with fail
  go_region_held3 (fun w' => w'.cell? ⟨w.heap.size, 0, none⟩ = some (.int .i64 h)) (go_keep) (first | (go_at_call 13; refine (app_any _ 0 _ _ ?_ (by omega) ?_ ?_).mono ?_; (simp); (intro j hj; exact ⟨(.int .u8 0), by simp [go_sem]; (rcases j with _|_|_|_|_|_|_|_|_|_|_|_|_|_|_|_|_|j <;> first | rfl | omega)⟩); (intro j hj; simp [go_sem]); rintro e w' ⟨rfl, rfl⟩))
  go_wp2
  go_ret
  refine ⟨w.heap.size + 1, by omega, rfl, ⟨by simp, ?_⟩, ?_⟩
  · intro j hj
    simp [go_sem]
    simp [msg, b8] at hj
    rcases j with _|_|_|_|_|_|_|_|_|_|_|_|_|_|_|_|_|j <;> first | rfl | omega
  · repeat (first | exact Below.refl _ _ | apply Below.drew | refine Below.alloc ?_ (by simp; try omega) _)

set_option maxHeartbeats 800000 in
theorem enc_false (h d : Int) (w : World) :
    Calls Tryf.prog 11 #[.agg #[.int .i64 h, .int .i64 d, .bool false]] w fun e w' => ∃ g, w.heap.size ≤ g ∧ e = .returned (.slice (some ⟨g, 0, none⟩) 17 17) ∧ Row w' g (msg h d 0) ∧ Below w.heap.size w w' := by
  have hmk := hmk17
  go_enter Tryf.func11, Tryf.ntmps11
  go_wp2_with fail
  go_region_held3 (fun w' => w'.cell? ⟨w.heap.size, 0, none⟩ = some (.int .i64 h)) (go_keep) (first | (go_at_call 13; refine (app_any _ 0 _ _ ?_ (by omega) ?_ ?_).mono ?_; (simp); (intro j hj; exact ⟨(.int .u8 0), by simp [go_sem]; (rcases j with _|_|_|_|_|_|_|_|_|_|_|_|_|_|_|_|_|j <;> first | rfl | omega)⟩); (intro j hj; simp [go_sem]); rintro e w' ⟨rfl, rfl⟩))
  go_wp2
  go_ret
  refine ⟨w.heap.size + 1, by omega, rfl, ⟨by simp, ?_⟩, ?_⟩
  · intro j hj
    simp [go_sem]
    simp [msg, b8] at hj
    rcases j with _|_|_|_|_|_|_|_|_|_|_|_|_|_|_|_|_|j <;> first | rfl | omega
  · repeat (first | exact Below.refl _ _ | apply Below.drew | refine Below.alloc ?_ (by simp; try omega) _)


def bi : Bool → Int | true => 1 | false => 0
theorem enc_any (h d : Int) (b : Bool) (w : World) :
    Calls Tryf.prog 11 #[.agg #[.int .i64 h, .int .i64 d, .bool b]] w fun e w' => ∃ g, w.heap.size ≤ g ∧ e = .returned (.slice (some ⟨g, 0, none⟩) 17 17) ∧ Row w' g (msg h d (bi b)) ∧ Below w.heap.size w w' := by
  cases b
  · exact enc_false h d w
  · exact enc_true h d w

theorem Row.below {w w' : World} {g B : Nat} {l : List Int} (h : Row w g l) (hb : Below B w w') (hg : g < B) : Row w' g l :=
  ⟨Nat.lt_of_lt_of_le h.1 hb.size, fun j hj => by rw [hb.cell (p := ⟨g, j, none⟩) hg]; exact h.2 j hj⟩
end Go.Proofs.Qxb6608668aFmt
