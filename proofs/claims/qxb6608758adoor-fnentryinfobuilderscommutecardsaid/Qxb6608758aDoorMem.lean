import Derived.Test.Qxb6608758aDoorDoc
namespace Go.Proofs.Qxb6608758aDoor
open Go.RowKit

theorem cell_lt {w : World} {a : Addr} {v : Value} (h : w.cell? a = some v) : a.block < w.heap.size := by
  unfold World.cell? at h
  apply Classical.byContradiction
  intro hn
  rw [Array.getElem?_eq_none (by omega)] at h
  simp at h

def PtrAt (w : World) (p : Option Addr) (z : Option Int) : Prop :=
  (p = none ∧ z = none) ∨ ∃ b o k, p = some ⟨b, o, none⟩ ∧ z = some k ∧ w.cell? ⟨b, o, none⟩ = some (.int .i64 k)
def BytesAt (w : World) (p : Option Addr) (n c : Nat) (f : Nat → Int) : Prop :=
  (p = none ∧ n = 0 ∧ c = 0) ∨ ∃ b o sp, p = some ⟨b, o, sp⟩ ∧ ∀ j, j < n → sp = none ∧ w.cell? ⟨b, o + j, none⟩ = some (.int .u8 (f j))
def PairsAt (w : World) (p : Option Addr) (n c : Nat) (s t : Nat → ByteArray) : Prop :=
  (p = none ∧ n = 0 ∧ c = 0) ∨ ∃ b o sp, p = some ⟨b, o, sp⟩ ∧ ∀ j, j < n → sp = none ∧ w.cell? ⟨b, o + j * 2, none⟩ = some (.string (s j)) ∧ w.cell? ⟨b, o + j * 2 + 1, none⟩ = some (.string (t j)) ∧ (s j).size ≤ 9223372036854775807 ∧ (t j).size ≤ 9223372036854775807

theorem PtrAt.below {w w' : World} {p : Option Addr} {z : Option Int} (h : PtrAt w p z) (hb : Below w.heap.size w w') : PtrAt w' p z := by
  rcases h with h | ⟨b, o, k, h1, h2, h3⟩
  · exact .inl h
  · exact .inr ⟨b, o, k, h1, h2, by rw [hb.cell (cell_lt h3)]; exact h3⟩
theorem BytesAt.below {w w' : World} {p : Option Addr} {n c : Nat} {f : Nat → Int} (h : BytesAt w p n c f) (hb : Below w.heap.size w w') : BytesAt w' p n c f := by
  rcases h with h | ⟨b, o, sp, h1, h2⟩
  · exact .inl h
  · exact .inr ⟨b, o, sp, h1, fun j hj => ⟨(h2 j hj).1, by rw [hb.cell (cell_lt (h2 j hj).2)]; exact (h2 j hj).2⟩⟩
theorem PairsAt.below {w w' : World} {p : Option Addr} {n c : Nat} {s t : Nat → ByteArray} (h : PairsAt w p n c s t) (hb : Below w.heap.size w w') : PairsAt w' p n c s t := by
  rcases h with h | ⟨b, o, sp, h1, h2⟩
  · exact .inl h
  · refine .inr ⟨b, o, sp, h1, fun j hj => ?_⟩
    obtain ⟨a1, a2, a3, a4, a5⟩ := h2 j hj
    exact ⟨a1, by rw [hb.cell (cell_lt a2)]; exact a2, by rw [hb.cell (cell_lt a3)]; exact a3, a4, a5⟩

/-- What the meta's fields lead to. -/
structure MOK (w : World) (m : MV) (zr za : Option Int) (f : Nat → Int) (s t : Nat → ByteArray) : Prop where
  dr : PtrAt w m.dr zr
  da : PtrAt w m.da za
  pr : BytesAt w m.pa m.pl m.pc f
  ws : PairsAt w m.wa m.wl m.wc s t
  pl : m.pl ≤ 140737488355328
  wl : m.wl * 32 ≤ 140737488355328
  r1 : m.rep.size ≤ 9223372036854775807
  r2 : m.api.size ≤ 9223372036854775807
  r3 : m.sch.size ≤ 9223372036854775807
  r4 : m.ts.size ≤ 9223372036854775807
  r5 : m.im.size ≤ 9223372036854775807
theorem MOK.below {w w' : World} {m : MV} {zr za : Option Int} {f : Nat → Int} {s t : Nat → ByteArray} (h : MOK w m zr za f s t) (hb : Below w.heap.size w w') : MOK w' m zr za f s t :=
  ⟨h.dr.below hb, h.da.below hb, h.pr.below hb, h.ws.below hb, h.pl, h.wl, h.r1, h.r2, h.r3, h.r4, h.r5⟩

set_option maxHeartbeats 1000000 in
theorem metaBytes_any (m : MV) (zr za : Option Int) (f : Nat → Int) (s t : Nat → ByteArray) (n : Int) (hn : Cnt n) (w : World) (hm : MOK w m zr za f s t) :
    Calls Tryd.prog 8 #[.agg m.arr, .int .i64 n] w fun e w' => ∃ r, e = .returned (.int .i64 r) ∧ Cnt r ∧ Below w.heap.size w w' := by
  obtain ⟨rep, api, sch, mo, dr, da, ts, pa, pl, pc, im, wa, wl, wc⟩ := m
  simp only [MV.arr]
  obtain ⟨_, _, _, hws, hpl, hwl, r1, r2, r3, r4, r5⟩ := hm
  simp only at hws hpl hwl r1 r2 r3 r4 r5
  have HW : Hid (PairsAt w wa wl wc s t) := hws
  clear hws
  go_enter Tryd.func8, Tryd.ntmps8
  go_wp2_with fail
  refine (addLen_any _ _ hn (by omega) (by omega) _).mono ?_
  rintro e w' ⟨q1, rfl, hq1, rfl⟩
  go_wp2_with fail
  refine (addLen_any _ _ hq1 (by omega) (by omega) _).mono ?_
  rintro e w' ⟨q2, rfl, hq2, rfl⟩
  go_wp2_with fail
  refine (addLen_any _ _ hq2 (by omega) (by omega) _).mono ?_
  rintro e w' ⟨q3, rfl, hq3, rfl⟩
  go_wp2_with fail
  refine (addLen_any _ _ hq3 (by omega) (by omega) _).mono ?_
  rintro e w' ⟨q4, rfl, hq4, rfl⟩
  go_wp2_with fail
  refine (addLen_any _ _ hq4 (by omega) (by omega) _).mono ?_
  rintro e w' ⟨q5, rfl, hq5, rfl⟩
  go_wp2_with fail
  refine (addLen_any _ _ hq5 (by omega) (by omega) _).mono ?_
  rintro e w' ⟨q6, rfl, hq6, rfl⟩
  go_wp2_with fail
  clear hq1 hq2 hq3 hq4 hq5 hn
  go_loop [1, 5] (fun q i => ∃ (k : Nat) (r : Int), k ≤ wl ∧ i = .int .i64 k ∧ q = .int .i64 r ∧ Cnt r) (fun _ i => wl - (intOf i).toNat)
  case atStart => exact ⟨0, q6, Nat.zero_le _, rfl, rfl, hq6⟩
  case round =>
    obtain ⟨k, r, hk, rfl, rfl, hr⟩ := hrel
    by_cases hlt : k < wl
    · rcases HW.out with ⟨rfl, rfl, rfl⟩ | ⟨b, o, sp, rfl, hc⟩
      · omega
      obtain ⟨rfl, c1, c2, l1, l2⟩ := hc k hlt
      clear hc
      have hbs := cell_lt c1
      simp only at hbs
      have hlt' : (k : Int) < (wl : Int) := by omega
      generalize s k = sk at *
      generalize t k = tk at *
      by_cases hq : 1048576 < r
      · go_wp2_with fail
        go_ret
        exact ⟨_, rfl, hr, (Below.refl _ _).alloc (Nat.le_refl _) _⟩
      · go_wp2_with fail
        refine (addLen_any _ _ hr (by omega) (by omega) _).mono ?_
        rintro e w' ⟨q1, rfl, hq1, rfl⟩
        go_wp2_with fail
        refine (addLen_any _ _ hq1 (by omega) (by omega) _).mono ?_
        rintro e w' ⟨q2, rfl, hq2, rfl⟩
        go_wp2_with fail
        refine (addLen_any _ _ hq2 (by omega) (by omega) _).mono ?_
        rintro e w' ⟨q3, rfl, hq3, rfl⟩
        go_wp2_with fail
        go_round
        case rel => exact ⟨k + 1, q3, by omega, by go_num, rfl, hq3⟩
        case measure => simp [intOf]; omega
    · have hlt' : ¬ (k : Int) < (wl : Int) := by omega
      go_wp2_with fail
      go_ret
      exact ⟨_, rfl, hr, (Below.refl _ _).alloc (Nat.le_refl _) _⟩
end Go.Proofs.Qxb6608758aDoor
