/-
  THE PROOF OF 'Rows.FnRemarkedAgreesAtEveryCutSaid': the row.
-/
import Derived.Test.Qxb6613557aCut
import Derived.ProofKit
import Derived.OpenShut
import Derived.ShutString
import Derived.SliceStrings
import Derived.Deep.Slices
namespace Go.Proofs.Qxb6613557a
open Go.ChangeShapes Go.WideShapes Go.ChangeAt Go.RowKit

theorem Try.own : ownKnob Try.prog.godebug = none := by kernel_rfl
theorem Try.laidOut : laidOutB Try.prog = true := by kernel_rfl
theorem Try.cells9 : Try.prog.cellsOf 9 = 1 := by kernel_rfl

/-- A slice of strings that came in. -/
theorem strs_form {H : Type} {enc : TypeId × Value → H} {W : World} {v : Value} {d : DataW H} {p : List MemPlace} (hv : ∃ q l c, v = .slice q l c) (h : DataW.Trod enc Try.prog W 0 (fun _ => true) true 23 v d p) :
    ∃ q l c s, v = .slice q l c ∧ StrsAt W q l c s ∧ l ≤ 9223372036854775807 ∧ l ≤ c := by
  obtain ⟨q, l, c, rfl⟩ := hv
  obtain ⟨fuel, hf⟩ := h
  rcases open_strings Try.underlying23 Try.underlying9 Try.cells9 hf with ⟨h1, _⟩ | ⟨a, len, cap, ss, h1, _, hl, hcap, hlen, _, hc, hz⟩
  · simp [Value.cells] at h1
    obtain ⟨rfl, rfl, rfl⟩ := h1
    exact ⟨none, 0, 0, fun _ => ⟨#[]⟩, rfl, .inl ⟨rfl, rfl, rfl⟩, by omega, by omega⟩
  · simp [Value.cells] at h1
    obtain ⟨rfl, rfl, rfl⟩ := h1
    simp at hlen
    have hm : maxLen = 9223372036854775807 := rfl
    obtain ⟨b, o, sp⟩ := a
    refine ⟨_, l, c, fun j => ss.getD j ByteArray.empty, rfl, .inr ⟨b, o, sp, rfl, fun j hj => ?_⟩, by omega, hl⟩
    have e := hc j (by omega)
    have hsp : sp = none := by simpa [Addr.add] using World.cell?_spot (hc 0 (by omega))
    subst hsp
    rw [Addr.add_lit] at e
    refine ⟨rfl, e, ?_⟩
    have hx : ss.getD j ByteArray.empty ∈ ss := by
      rw [List.getD_eq_getElem?_getD, List.getElem?_eq_getElem (by omega), Option.getD_some]
      exact List.getElem_mem _
    have hy := hz _ hx
    show (ss.getD j ByteArray.empty).size ≤ 9223372036854775807
    omega

set_option maxRecDepth 100000 in
theorem cut_lifted (os : Os) (started : os.Started) (H : Type) (enc : TypeId × Value → H) :
    ReturnsInHanded {} Try.checked os 6 .any (Rows.fnRemarkedAgreesAtEveryCutSpec.pre6 enc Try.prog Try.f6 Rows.fnRemarkedAgreesAtEveryCutRow.domain false) (Rows.fnRemarkedAgreesAtEveryCutSpec.post enc Try.prog Try.f6 false true false false) := by
  refine returnsInHanded_of_change (C := Try.checked) Try.own started (by kernel_rfl) Try.func6
    (ChangeSpec.witness6 (enc := enc) (C := Try.checked) false ⟨#[], #[.slice none 0 0, .slice none 0 0, .int .i64 0], []⟩ 8 (by kernel_rfl) (by kernel_rfl) (by kernel_rfl) (by kernel_rfl)) ?_
  intro W base args ds gs before hval0 hW hcnd _
  have hval : ∀ (j : Nat) t v, Try.f6.params[j]? = some t → args[j]? = some v → Value.okWide Try.prog W .any base t v := hval0
  have hW' := hW
  obtain ⟨p, q, hA0, hV, rfl, hfz, hnd⟩ := hW
  have hA : DataW.TrodAll enc Try.prog W 0 (fun _ => true) true Try.f6.params.toList args.toList ds p := hA0
  rw [Try.params6] at hA hval
  obtain ⟨v0, vs0, d0, ds0, p0, q0, hargs, rfl, rfl, h0, r0⟩ := trodAll_cons hA
  obtain ⟨v1, vs1, d1, ds1, p1, q1, rfl, rfl, rfl, h1, r1⟩ := trodAll_cons r0
  obtain ⟨v2, vs2, d2, ds2, p2, q2, rfl, rfl, rfl, h2, r2⟩ := trodAll_cons r1
  obtain ⟨rfl, rfl, rfl⟩ := trodAll_nil r2
  obtain rfl : args = #[v0, v1, v2] := by cases args; simp_all
  obtain ⟨rfl, rfl⟩ := trodVars_none hV
  have k0 := h0
  have k1 := h1
  have lt0 : ∀ x ∈ p0, x.block < W.heap.size := by obtain ⟨m, hm⟩ := k0; exact DataW.trod_lt m _ _ _ hm
  have lt1 : ∀ x ∈ p1, x.block < W.heap.size := by obtain ⟨m, hm⟩ := k1; exact DataW.trod_lt m _ _ _ hm
  obtain ⟨x0, l0, c0, s, hv0, P0, n0, m0⟩ := strs_form (okWide_slice Try.underlying23 (hval 0 23 v0 rfl rfl)) h0
  subst hv0
  obtain ⟨x1, l1, c1, v, hv1, P1, n1, m1⟩ := strs_form (okWide_slice Try.underlying23 (hval 1 23 v1 rfl rfl)) h1
  subst hv1
  obtain ⟨z, rfl, rfl, rfl, w2⟩ := open_int Try.underlying3 (hval 2 3 v2 rfl rfl) h2
  clear hA0 hval0
  simp only [List.append_nil] at hW'
  refine (cut_walk x0 l0 c0 s x1 l1 c1 v z W P0 P1 n0 n1 m0 m1).mono fun e W' ⟨he, bel⟩ => ?_
  subst he
  exact ⟨_, rfl, _, _, _, [], _, [], hW', trodAll_mk1 (shut_bool Try.underlying4 _),
    (trodAll_cons_mk (Below.trod Try.laidOut (by kernel_rfl) (of_decide_eq_true (by kernel_rfl)) k0 bel lt0) (trodAll_cons_mk (Below.trod Try.laidOut (by kernel_rfl) (of_decide_eq_true (by kernel_rfl)) k1 bel lt1) (trodAll_cons_mk (shut_int Try.underlying3 w2) trodAll_mk0))),
    rfl, bel.frame _, fun h => by cases h⟩

/-- ████ THE STATEMENT ████ -/
theorem fnRemarkedAgreesAtEveryCut_proved : Rows.FnRemarkedAgreesAtEveryCutSaid :=
  OpenClaim.holds_of_wide 6 Try.f6 rfl rfl rfl rfl rfl rfl rfl ⟨rfl, rfl, rfl, rfl, rfl⟩ rfl rfl rfl rfl rfl (by kernel_rfl) Try.func6 (by kernel_rfl)
    (of_decide_eq_true (by kernel_rfl)) (by unfold Func.isWrapper; first | (rw [if_pos (by decide +kernel)]; kernel_rfl) | (rw [if_neg (by decide +kernel)]; exact ⟨rfl, rfl⟩))
    (fun os started H enc _ => cut_lifted os started H enc)
end Go.Proofs.Qxb6613557a
