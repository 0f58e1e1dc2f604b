/-
  THE PROOF OF 'Rows.FnEntryInfoBuildersCommuteCardSaid': the row and its tied card.
-/
import Derived.Test.Qxb6608758aDoorLaid
import Derived.Test.Qxb6608758aDoorCom
import Derived.Test.Qxb6608758aDoorTie
import Derived.Test.Qxb6608758aDoorCards
import Derived.ShutString
import Derived.SevenTiedAt
namespace Go.Proofs.Qxb6608758aDoor
open Go.ChangeShapes Go.WideShapes Go.ChangeAt Go.RowKit
open Go.ChangeMaps (open_string shut_string)

theorem max63' {s : ByteArray} (h : s.size ≤ maxLen) : s.size ≤ 9223372036854775807 := h

theorem slice_form {H : Type} {enc : TypeId × Value → H} {W : World} {v : Value} {d : DataW H} {p : List MemPlace} (hv : ∃ q l c, v = .slice q l c) (h : DataW.Trod enc Tryd.prog W 0 (fun _ => true) true 27 v d p)
    (hw : ∀ el sp, d = .slice el sp → (el.length + sp.length) * 32 ≤ reachBytes) :
    ∃ q l c s t, v = .slice q l c ∧ PairsAt W q l c s t ∧ l * 32 ≤ 140737488355328 := by
  obtain ⟨q, l, c, rfl⟩ := hv
  obtain ⟨fuel, hf⟩ := h
  exact pairs_form Tryd.underlying27 Tryd.underlying70 Tryd.cells70 rfl rfl rfl rfl hf hw

set_option maxRecDepth 100000 in
theorem com_lifted (os : Os) (started : os.Started) (H : Type) (enc : TypeId × Value → H) :
    ReturnsInHanded {} Tryd.checked os 3 .any (fun w args => (Rows.fnEntryInfoBuildersCommuteSpec.pre enc Tryd.prog Tryd.f3 [] false w args ∧ laidMetH Tryd.prog theLaid w) ∧ sizedMet enc Tryd.prog Tryd.f3 (OpenSpec.ofChange Rows.fnEntryInfoBuildersCommuteSpec) false w args)
      (Rows.fnEntryInfoBuildersCommuteSpec.post enc Tryd.prog Tryd.f3 false true false false) := by
  refine returnsInHanded_of_change_and (C := Tryd.checked) (X := fun w _ => laidMetH Tryd.prog theLaid w) (fun _ _ _ hh h => h.of_heap hh) Tryd.own started (by kernel_rfl) Tryd.func3
    (ChangeSpec.witness_shaped (enc := enc) (C := Tryd.checked) (os := os) (X := fun w _ => laidMetH Tryd.prog theLaid w) false (World.doorLaid Tryd.prog 400 os) #[.string ⟨#[]⟩, .agg #[.string ⟨#[]⟩, .string ⟨#[]⟩, .string ⟨#[]⟩, .bool false, .pointer none, .pointer none, .string ⟨#[]⟩, .slice none 0 0, .string ⟨#[]⟩, .slice none 0 0], .string ⟨#[]⟩, .string ⟨#[]⟩, .slice none 0 0] 8 rfl (World.shaped_of_RefB (by kernel_rfl) (by kernel_rfl)) (by kernel_rfl) (by kernel_rfl) (by kernel_rfl) (door_met os _)) ?_
  intro W base args ds gs before hval0 hW _ hsz hL _
  have hval : ∀ (j : Nat) t v, Tryd.f3.params[j]? = some t → args[j]? = some v → Value.okWide Tryd.prog W .any base t v := hval0
  have hW' := hW
  obtain ⟨p, q, hA0, hV, rfl, hfz, hnd⟩ := hW
  have hA : DataW.TrodAll enc Tryd.prog W 0 (fun _ => true) true Tryd.f3.params.toList args.toList ds p := hA0
  rw [Tryd.params3] at hA hval
  obtain ⟨v0, vs0, d0, ds0, p0, q0, hargs, rfl, rfl, h0, r0⟩ := trodAll_cons hA
  obtain ⟨v1, vs1, d1, ds1, p1, q1, rfl, rfl, rfl, h1, r1⟩ := trodAll_cons r0
  obtain ⟨v2, vs2, d2, ds2, p2, q2, rfl, rfl, rfl, h2, r2⟩ := trodAll_cons r1
  obtain ⟨v3, vs3, d3, ds3, p3, q3, rfl, rfl, rfl, h3, r3⟩ := trodAll_cons r2
  obtain ⟨v4, vs4, d4, ds4, p4, q4, rfl, rfl, rfl, h4, r4⟩ := trodAll_cons r3
  obtain ⟨rfl, rfl, rfl⟩ := trodAll_nil r4
  obtain rfl : args = #[v0, v1, v2, v3, v4] := by cases args; simp_all
  have k1 := h1
  have k4 := h4
  have lt1 : ∀ x ∈ p1, x.block < W.heap.size := by obtain ⟨m, hm⟩ := k1; exact DataW.trod_lt m _ _ _ hm
  have lt4 : ∀ x ∈ p4, x.block < W.heap.size := by obtain ⟨m, hm⟩ := k4; exact DataW.trod_lt m _ _ _ hm
  obtain ⟨m, zr, za, f, s, t, hv1, hM⟩ := open_meta (hval 1 26 v1 rfl rfl) h1 (fun parts hp => by
    subst hp
    exact sized_agg hsz (j := 1) (t := 26) rfl rfl Tryd.underlying26)
  subst hv1
  obtain ⟨x4, l4, c4, s4, t4, hv4, P4, n4⟩ := slice_form (okWide_slice Tryd.underlying27 (hval 4 27 v4 rfl rfl)) h4 (fun el sp he => by
    subst he
    have := sized_slice hsz (j := 4) (t := 27) (e := 70) (elems := el) (spare := sp) rfl rfl Tryd.underlying27
    rw [show Tryd.checked.prog.bytesOf 70 = 32 from Tryd.bytes70] at this
    exact this)
  subst hv4
  obtain ⟨a0, rfl, rfl, rfl, w0⟩ := open_string Tryd.underlying9 (hval 0 9 v0 rfl rfl) h0
  obtain ⟨a2, rfl, rfl, rfl, w2⟩ := open_string Tryd.underlying9 (hval 2 9 v2 rfl rfl) h2
  obtain ⟨a3, rfl, rfl, rfl, w3⟩ := open_string Tryd.underlying9 (hval 3 9 v3 rfl rfl) h3
  have hLd := of_laid hL
  clear hA0 hval0
  refine (com_walk a0 a2 a3 m zr za f s t x4 l4 c4 s4 t4 W hM hLd (max63' w0) (max63' w2) (max63' w3) P4 n4).mono fun e W' ⟨he, bel⟩ => ?_
  subst he
  have hV' := Below.trodVars Tryd.laidOut bel (by kernel_rfl) hV
  obtain ⟨g1, rfl⟩ : ∃ g1, gs = [g1] := by
    match gs, hV with
    | [g1], _ => exact ⟨g1, rfl⟩
  exact ⟨_, rfl, _, _, _, [], _, _, hW', trodAll_mk1 (shut_bool Tryd.underlying4 _),
    (trodAll_cons_mk (shut_string Tryd.underlying9 w0) (trodAll_cons_mk (Below.trod Tryd.laidOut (by kernel_rfl) (of_decide_eq_true (by kernel_rfl)) k1 bel lt1) (trodAll_cons_mk (shut_string Tryd.underlying9 w2) (trodAll_cons_mk (shut_string Tryd.underlying9 w3) (trodAll_cons_mk (Below.trod Tryd.laidOut (by kernel_rfl) (of_decide_eq_true (by kernel_rfl)) k4 bel lt4) trodAll_mk0))))),
    hV', bel.frame _, fun h => by cases h⟩

theorem com_holds : Rows.FnEntryInfoBuildersCommuteSaid :=
  OpenClaim.holds_of_wide 3 Tryd.f3 rfl rfl rfl rfl rfl rfl rfl ⟨rfl, rfl, rfl, rfl, rfl⟩ rfl rfl rfl rfl rfl (by kernel_rfl) Tryd.func3 (by kernel_rfl)
    (of_decide_eq_true (by kernel_rfl)) (by unfold Func.isWrapper; first | (rw [if_pos (by decide +kernel)]; kernel_rfl) | (rw [if_neg (by decide +kernel)]; exact ⟨rfl, rfl⟩))
    (fun os started H enc _ => com_lifted os started H enc)

/-- ████ THE TIED CARD ████ -/
theorem fnEntryInfoBuildersCommute_card : Rows.FnEntryInfoBuildersCommuteCardSaid :=
  Claim7.holds_tied_plain_at .later [] [.data] true (true, "b5e6087324de49a302dbcb12610fe5875ae06866d4adf3cc57626d84f530665e") true
    com_holds (fun _ h => by cases h) (by kernel_rfl) (fun _ h => by cases h) fnEntryInfoBuildersCommute_row_tie rfl ⟨rfl, rfl⟩ (by kernel_rfl) rfl
    (fun f fn hf hfn => by
      obtain rfl : f = 3 := Option.some.inj ((show Tryd.prog.funcNamed Rows.fnEntryInfoBuildersCommuteRow.func = some 3 by kernel_rfl).symm.trans hf) |>.symm
      obtain rfl : fn = Tryd.f3 := (Option.some.inj (Tryd.func3.symm.trans hfn)).symm
      exact ⟨by kernel_rfl, fun j t ht => by
        rw [Tryd.params3] at ht
        have hm : t ∈ [9, 26, 9, 9, 27] := by simpa using Array.mem_of_getElem? ht
        have hall : ([9, 26, 9, 9, 27].all fun u => !Tryd.prog.wantsStandIn u) = true := by kernel_rfl
        exact (show Tryd.prog.wantsStandIn t = false by simpa using List.all_eq_true.1 hall t hm)⟩)
    (by kernel_rfl)
end Go.Proofs.Qxb6608758aDoor
