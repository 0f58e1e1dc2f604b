import Derived.Test.Qxb6608668aPay
namespace Go.Proofs.Qxb6608668a
open Go.RowKit
theorem hideIt {p : Prop} (h : p) : Hid p := h
theorem u8i (x : Int) (h : (Lit.int .i64 x).wf = true) : I64 x := by
  simp [Lit.wf, IntKind.min, IntKind.max, IntKind.signed, IntKind.bits] at h
  exact ⟨by omega, by omega⟩

set_option maxHeartbeats 1000000 in
theorem walk_core (a0 a1 a2 a3 : Int) (b1 b2 : Bool) (w : World) (he1 : (a0 == a2) = b1) (he2 : (a1 == a3) = b2)
    (H1 : Hid (((b1 && b2) = true ∧ msg a0 a1 1 = msg a2 a3 1 ∧ msg a0 a1 0 = msg a2 a3 0) ∨ ((b1 && b2) = false ∧ msg a0 a1 1 ≠ msg a2 a3 1 ∧ msg a0 a1 0 ≠ msg a2 a3 0)))
    (H2 : Hid (msg a0 a1 1 ≠ msg a0 a1 0)) (H3 : Hid (msg a0 a1 1 ≠ msg a2 a3 0)) :
    Calls Try.prog 5 #[.int .i64 a0, .int .i64 a1, .int .i64 a2, .int .i64 a3] w fun e w' => e = .returned (.bool true) ∧ Below w.heap.size w w' := by
  have hx : ∀ (l m : List Int), l.length = 17 → m.length = 17 → l ≠ m → (∃ j, j < 17 ∧ l.getD j 0 ≠ m.getD j 0) := by
    intro l m hl hm hne
    obtain ⟨j, h1, h2⟩ := msg_apart (hl.trans hm.symm) hne
    exact ⟨j, by omega, h2⟩
  have hq : ∀ c : Int, (((b1 && b2) = true ∧ msg a0 a1 c = msg a2 a3 c) ∨ ((b1 && b2) = false ∧ msg a0 a1 c ≠ msg a2 a3 c)) → (((b1 && b2) = true ∧ ∀ j, j < 17 → (msg a0 a1 c).getD j 0 = (msg a2 a3 c).getD j 0) ∨ ((b1 && b2) = false ∧ ∃ j, j < 17 ∧ (msg a0 a1 c).getD j 0 ≠ (msg a2 a3 c).getD j 0)) := by
    intro c h
    rcases h with ⟨h1, h2⟩ | ⟨h1, h2⟩
    · exact .inl ⟨h1, fun j _ => by rw [h2]⟩
    · obtain ⟨j, h3, h4⟩ := msg_apart (l := msg a0 a1 c) (m := msg a2 a3 c) rfl h2
      exact .inr ⟨h1, j, h3, h4⟩
  have q1 := hq 1 (by rcases H1.out with h | h; exact .inl ⟨h.1, h.2.1⟩; exact .inr ⟨h.1, h.2.1⟩)
  have q0 := hq 0 (by rcases H1.out with h | h; exact .inl ⟨h.1, h.2.2⟩; exact .inr ⟨h.1, h.2.2⟩)
  have q2 := hx _ _ (msg_len a0 a1 1) (msg_len a0 a1 0) H2.out
  have q3 := hx _ _ (msg_len a0 a1 1) (msg_len a2 a3 0) H3.out
  have Q1 := hideIt q1
  have Q0 := hideIt q0
  have Q2 := hideIt q2
  have Q3 := hideIt q3
  clear hx hq H1 H2 H3 q1 q0 q2 q3
  go_enter Try.func5, Try.ntmps5
  go_wp2_with fail
  refine (zznew_any _ _ _).mono ?_
  rintro e w1 ⟨p, gh, gu, rfl, hp, hs, hb⟩
  go_wp2_with fail
  refine (zznew_any _ _ _).mono ?_
  rintro e w2 ⟨p2, gh2, gu2, rfl, hp2, hs2, hb2⟩
  have hp' := hp.below hb2 (Nat.le_refl _)
  have hbb := hb.trans (hb2.mono hb.size)
  clear hp hb hb2
  go_wp2_with fail
  refine (heard_any _ hp').mono ?_
  rintro e w3 ⟨rfl, rfl⟩
  go_wp2_with fail
  refine (unheard_any _ hp').mono ?_
  rintro e w4 ⟨rfl, rfl⟩
  go_wp2_with fail
  refine (heard_any _ hp2).mono ?_
  rintro e w5 ⟨rfl, rfl⟩
  go_wp2_with fail
  refine (unheard_any _ hp2).mono ?_
  rintro e w6 ⟨rfl, rfl⟩
  cases b1 <;> cases b2
  all_goals
    go_wp2_with fail
    refine (eq_any _ _ _ _ 17 (by decide) (msg_len _ _ _) (msg_len _ _ _) _ hp'.2.2.2.1 hp2.2.2.2.1 _ Q1.out).mono ?_
    rintro e w7 ⟨rfl, hb7⟩
    have hp7 := hp'.below hb7 (Nat.le_refl _)
    have hq7 := hp2.below hb7 (Nat.le_refl _)
    have hbb7 := hbb.trans (hb7.mono hbb.size)
    clear hp' hp2 hbb hb7
    go_wp2_with fail
    refine (eq_any _ _ _ _ 17 (by decide) (msg_len _ _ _) (msg_len _ _ _) _ hp7.2.2.2.2.1 hq7.2.2.2.2.1 _ Q0.out).mono ?_
    rintro e w8 ⟨rfl, hb8⟩
    have hp8 := hp7.below hb8 (Nat.le_refl _)
    have hq8 := hq7.below hb8 (Nat.le_refl _)
    have hbb8 := hbb7.trans (hb8.mono hbb7.size)
    clear hp7 hq7 hbb7 hb8
    go_wp2_with fail
    refine (eq_any _ _ _ _ 17 (by decide) (msg_len _ _ _) (msg_len _ _ _) _ hp8.2.2.2.1 hp8.2.2.2.2.1 false (.inr ⟨rfl, Q2.out⟩)).mono ?_
    rintro e w9 ⟨rfl, hb9⟩
    have hp9 := hp8.below hb9 (Nat.le_refl _)
    have hq9 := hq8.below hb9 (Nat.le_refl _)
    have hbb9 := hbb8.trans (hb9.mono hbb8.size)
    clear hp8 hq8 hbb8 hb9
    go_wp2_with fail
    refine (eq_any _ _ _ _ 17 (by decide) (msg_len _ _ _) (msg_len _ _ _) _ hp9.2.2.2.1 hq9.2.2.2.2.1 false (.inr ⟨rfl, Q3.out⟩)).mono ?_
    rintro e w10 ⟨rfl, hb10⟩
    have hbb10 := hbb9.trans (hb10.mono hbb9.size)
    clear hp9 hq9 hbb9 hb10
    go_wp2
    go_ret
    exact ⟨rfl, hbb10⟩

theorem walk (a0 a1 a2 a3 : Int) (w0 : (Lit.int .i64 a0).wf = true) (w1 : (Lit.int .i64 a1).wf = true) (w2 : (Lit.int .i64 a2).wf = true) (w3 : (Lit.int .i64 a3).wf = true) (w : World) :
    Calls Try.prog 5 #[.int .i64 a0, .int .i64 a1, .int .i64 a2, .int .i64 a3] w fun e w' => e = .returned (.bool true) ∧ Below w.heap.size w w' := by
  have k0 := u8i _ w0
  have k1 := u8i _ w1
  have k2 := u8i _ w2
  have k3 := u8i _ w3
  refine walk_core a0 a1 a2 a3 _ _ w rfl rfl ?_ ?_ ?_
  · by_cases h : a0 = a2 ∧ a1 = a3
    · obtain ⟨rfl, rfl⟩ := h
      exact .inl ⟨by simp, rfl, rfl⟩
    · refine .inr ⟨by simpa using h, fun e => h ?_, fun e => h ?_⟩
      · have := msg_inj _ _ _ _ _ _ k0 k1 k2 k3 e; exact ⟨this.1, this.2.1⟩
      · have := msg_inj _ _ _ _ _ _ k0 k1 k2 k3 e; exact ⟨this.1, this.2.1⟩
  · intro e
    have := msg_inj _ _ _ _ _ _ k0 k1 k0 k1 e
    exact absurd this.2.2 (by decide)
  · intro e
    have := msg_inj _ _ _ _ _ _ k0 k1 k2 k3 e
    exact absurd this.2.2 (by decide)
end Go.Proofs.Qxb6608668a
