import Derived.Test.Qxb6608758aDoorMem
import Derived.ProofKit
import Derived.Deep.Slices
import Derived.Lib.SmallJoins
import Derived.SizedLaws
namespace Go.Proofs.Qxb6608758aDoor
open Go.ChangeShapes Go.WideShapes Go.ChangeAt Go.RowKit
open Go.Deep

theorem Tryd.cells9 : Tryd.prog.cellsOf 9 = 1 := by kernel_rfl
theorem Tryd.cells26 : Tryd.prog.cellsOf 26 = 10 := by kernel_rfl
theorem Tryd.cells4 : Tryd.prog.cellsOf 4 = 1 := by kernel_rfl
theorem Tryd.cells22 : Tryd.prog.cellsOf 22 = 1 := by kernel_rfl
theorem Tryd.cells23 : Tryd.prog.cellsOf 23 = 1 := by kernel_rfl
theorem Tryd.cells24 : Tryd.prog.cellsOf 24 = 1 := by kernel_rfl
theorem Tryd.cells3 : Tryd.prog.cellsOf 3 = 1 := by kernel_rfl
theorem Tryd.cells5 : Tryd.prog.cellsOf 5 = 1 := by kernel_rfl
theorem Tryd.cells68 : Tryd.prog.cellsOf 68 = 2 := by kernel_rfl
theorem Tryd.cells70 : Tryd.prog.cellsOf 70 = 2 := by kernel_rfl
theorem Tryd.bytes5 : Tryd.prog.bytesOf 5 = 1 := by kernel_rfl
theorem Tryd.bytes68 : Tryd.prog.bytesOf 68 = 32 := by kernel_rfl
theorem Tryd.bytes70 : Tryd.prog.bytesOf 70 = 32 := by kernel_rfl

section
variable {H : Type} {enc : TypeId × Value → H} {W : World} {held : Bool} {n : Nat}

theorem ptr_form {c : Value} {y : DataW H × List MemPlace} (h : DataW.trod enc Tryd.prog W 0 (fun _ => true) held n 22 [c] = some y) : ∃ p z, c = .pointer p ∧ PtrAt W p z := by
  rcases DataW.trod_pointer Tryd.underlying22 h with ⟨h1, _⟩ | ⟨a, cs', y', m, _, h1, _, hc, hd⟩
  · simp at h1
    exact ⟨none, none, h1, .inl ⟨rfl, rfl⟩⟩
  · simp at h1
    obtain ⟨z, hz, _, _⟩ := DataW.trod_int Tryd.underlying3 hd
    subst hz
    rw [Tryd.cells3] at hc
    have hcell := cell_of_cells?_one hc
    obtain ⟨b, o, sp⟩ := a
    have hsp : sp = none := World.cell?_spot hcell
    subst hsp
    exact ⟨_, some z, h1, .inr ⟨b, o, z, rfl, rfl, hcell⟩⟩

theorem bytes_form {c : Value} {y : DataW H × List MemPlace} (h : DataW.trod enc Tryd.prog W 0 (fun _ => true) held n 23 [c] = some y) (hw : ∀ el sp, y.1 = .slice el sp → (el.length + sp.length) * 1 ≤ reachBytes) :
    ∃ p l cp f, c = .slice p l cp ∧ BytesAt W p l cp f ∧ l ≤ 140737488355328 := by
  have hr := reachBytes_lt
  rcases open_slice1 Tryd.underlying23 Tryd.cells5 h with ⟨h1, _⟩ | ⟨a, len, cap, m, k, V, D, Pl, h1, _, hl, _, hm, hx, hc⟩
  · simp at h1
    exact ⟨none, 0, 0, fun _ => 0, h1, .inl ⟨rfl, rfl, rfl⟩, by omega⟩
  · simp at h1 hm
    subst hm
    have hb := hw _ _ (by rw [hx])
    simp at hb
    have hf : ∀ i, i < m → ∃ z : Int, W.cell? (a.add i) = some (.int .u8 z) := fun i hi => by
      obtain ⟨e1, e2⟩ := hc i hi
      obtain ⟨z, e3, _, _⟩ := DataW.trod_int Tryd.underlying5 e2
      simp at e3
      exact ⟨z, by rw [e1, e3]⟩
    obtain ⟨f, hf⟩ := choose_lt hf
    obtain ⟨b, o, sp⟩ := a
    refine ⟨_, len, m, f, h1, .inr ⟨b, o, sp, rfl, fun j hj => ?_⟩, by omega⟩
    have e := hf j (by omega)
    have hsp : sp = none := by simpa [Addr.add] using World.cell?_spot (hf 0 (by omega))
    subst hsp
    exact ⟨rfl, by rw [add_plain] at e; exact e⟩

/-- A slice of structs of two strings. -/
theorem pairs_form {T E : TypeId} {f0 f1 : Field} {c : Value} {y : DataW H × List MemPlace} (hT : Tryd.prog.underlying T = some (.slice E)) (hE : Tryd.prog.underlying E = some (.struct #[f0, f1])) (h2 : Tryd.prog.cellsOf E = 2)
    (ht0 : f0.type = 9) (ht1 : f1.type = 9) (ho0 : f0.offset = 0) (ho1 : f1.offset = 1)
    (h : DataW.trod enc Tryd.prog W 0 (fun _ => true) held n T [c] = some y) (hw : ∀ el sp, y.1 = .slice el sp → (el.length + sp.length) * 32 ≤ reachBytes) :
    ∃ p l cp s t, c = .slice p l cp ∧ PairsAt W p l cp s t ∧ l * 32 ≤ 140737488355328 := by
  have hr := reachBytes_lt
  rcases open_slice hT h with ⟨h1, _⟩ | ⟨a, len, cap, m, k, D, Pl, h1, _, hl, _, hm, hx, hc⟩
  · simp at h1
    exact ⟨none, 0, 0, fun _ => ⟨#[]⟩, fun _ => ⟨#[]⟩, h1, .inl ⟨rfl, rfl, rfl⟩, by omega⟩
  · simp at h1 hm
    subst hm
    have hb := hw _ _ (by rw [hx])
    simp at hb
    have hf : ∀ i, i < m → ∃ z : ByteArray × ByteArray, W.cell? (a.add (i * 2)) = some (.string z.1) ∧ W.cell? (a.add (i * 2 + 1)) = some (.string z.2) ∧ z.1.size ≤ maxLen ∧ z.2.size ≤ maxLen := fun i hi => by
      obtain ⟨cs, e1, e2⟩ := hc i hi
      rw [h2] at e1
      obtain ⟨_, hlen, hcc⟩ := World.cells?_some e1
      obtain ⟨c0, c1, rfl⟩ : ∃ c0 c1, cs = [c0, c1] := by
        match cs, hlen with
        | [c0, c1], _ => exact ⟨c0, c1, rfl⟩
      obtain ⟨xs, n', _, _, _, hlx, hff⟩ := DataW.trod_struct hE e2
      have g0 := hff 0 f0 rfl
      have g1 := hff 1 f1 rfl
      rw [ht0, ho0, Tryd.cells9] at g0
      rw [ht1, ho1, Tryd.cells9] at g1
      simp at g0 g1 hlx
      obtain ⟨y0, y1, rfl⟩ : ∃ y0 y1, xs = [y0, y1] := by
        match xs, hlx with
        | [y0, y1], _ => exact ⟨y0, y1, rfl⟩
      simp at g0 g1
      obtain ⟨s0, q0, _, l0⟩ := DataW.trod_string Tryd.underlying9 g0
      obtain ⟨s1, q1, _, l1⟩ := DataW.trod_string Tryd.underlying9 g1
      simp at q0 q1
      subst q0 q1
      have k0 := hcc 0 (by omega)
      have k1 := hcc 1 (by omega)
      rw [add_add] at k0 k1
      exact ⟨(s0, s1), by simpa using k0, by simpa using k1, l0, l1⟩
    obtain ⟨f, hf⟩ := choose_lt hf
    obtain ⟨b, o, sp⟩ := a
    refine ⟨_, len, m, fun j => (f j).1, fun j => (f j).2, h1, .inr ⟨b, o, sp, rfl, fun j hj => ?_⟩, by omega⟩
    obtain ⟨e1, e2, e3, e4⟩ := hf j (by omega)
    have hsp : sp = none := by simpa [Addr.add] using World.cell?_spot (hf 0 (by omega)).1
    subst hsp
    rw [add_plain] at e1 e2
    exact ⟨rfl, e1, by rw [Nat.add_assoc]; exact e2, e3, e4⟩

theorem array10 {α : Type} {cs : Array α} (h : cs.size = 10) : ∃ c0 c1 c2 c3 c4 c5 c6 c7 c8 c9, cs = #[c0, c1, c2, c3, c4, c5, c6, c7, c8, c9] := by
  obtain ⟨l⟩ := cs
  match l, h with
  | [c0, c1, c2, c3, c4, c5, c6, c7, c8, c9], _ => exact ⟨c0, c1, c2, c3, c4, c5, c6, c7, c8, c9, rfl⟩
theorem list10 {α : Type} {cs : List α} (h : cs.length = 10) : ∃ c0 c1 c2 c3 c4 c5 c6 c7 c8 c9, cs = [c0, c1, c2, c3, c4, c5, c6, c7, c8, c9] := by
  match cs, h with
  | [c0, c1, c2, c3, c4, c5, c6, c7, c8, c9], _ => exact ⟨c0, c1, c2, c3, c4, c5, c6, c7, c8, c9, rfl⟩

theorem sized_agg {P : Program} {ts : List TypeId} {ds : List (DataW H)} (h : (DataW.weightsEach P ts ds).all (· ≤ reachBytes) = true) {j : Nat} {t : TypeId} {fs : Array Field} {parts : List (DataW H)} (ht : ts[j]? = some t) (hd : ds[j]? = some (.agg parts)) (hu : P.underlying t = some (.struct fs)) :
    (DataW.weightsEach P (fs.toList.map (·.type)) parts).all (· ≤ reachBytes) = true := by
  rw [List.all_eq_true] at h ⊢
  intro x hx
  exact h x (DataW.weights_mem_each ht hd x (by simp only [DataW.weights, hu]; exact hx))

theorem open_meta {r : Reach} {b0 : Nat} {v : Value} {d : DataW H} {p : List MemPlace} (hv : Value.okWide Tryd.prog W r b0 26 v) (h : DataW.Trod enc Tryd.prog W 0 (fun _ => true) true 26 v d p)
    (hw : ∀ parts, d = .agg parts → (DataW.weightsEach Tryd.prog [9, 9, 9, 4, 22, 22, 9, 23, 9, 24] parts).all (· ≤ reachBytes) = true) :
    ∃ m zr za f s t, v = .agg (MV.arr m) ∧ MOK W m zr za f s t := by
  obtain ⟨cs, rfl, hsz⟩ := okWide_struct Tryd.underlying26 hv
  rw [Tryd.cells26] at hsz
  obtain ⟨c0, c1, c2, c3, c4, c5, c6, c7, c8, c9, rfl⟩ := array10 hsz
  obtain ⟨fuel, hf⟩ := h
  obtain ⟨xs, n', _, hd, _, hlx, hff⟩ := DataW.trod_struct Tryd.underlying26 hf
  obtain ⟨y0, y1, y2, y3, y4, y5, y6, y7, y8, y9, rfl⟩ := list10 (show xs.length = 10 from hlx)
  simp only [Prod.mk.injEq] at hd
  obtain ⟨rfl, rfl⟩ := hd
  have hW := hw _ rfl
  have g0 := hff 0 _ rfl
  have g1 := hff 1 _ rfl
  have g2 := hff 2 _ rfl
  have g3 := hff 3 _ rfl
  have g4 := hff 4 _ rfl
  have g5 := hff 5 _ rfl
  have g6 := hff 6 _ rfl
  have g7 := hff 7 _ rfl
  have g8 := hff 8 _ rfl
  have g9 := hff 9 _ rfl
  simp [Value.cells, Tryd.cells9] at g0 g1 g2 g6 g8
  simp [Value.cells, Tryd.cells4] at g3
  simp [Value.cells, Tryd.cells22] at g4 g5
  simp [Value.cells, Tryd.cells23] at g7
  simp [Value.cells, Tryd.cells24] at g9
  obtain ⟨rep, e0, _, l0⟩ := DataW.trod_string Tryd.underlying9 g0
  obtain ⟨api, e1, _, l1⟩ := DataW.trod_string Tryd.underlying9 g1
  obtain ⟨sch, e2, _, l2⟩ := DataW.trod_string Tryd.underlying9 g2
  obtain ⟨mo, e3, _⟩ := DataW.trod_bool Tryd.underlying4 g3
  obtain ⟨dr, zr, e4, m4⟩ := ptr_form g4
  obtain ⟨da, za, e5, m5⟩ := ptr_form g5
  obtain ⟨ts, e6, _, l6⟩ := DataW.trod_string Tryd.underlying9 g6
  obtain ⟨pa, pl, pc, f, e7, m7, l7⟩ := bytes_form g7 (fun el sp he => by
    have := sized_slice hW (j := 7) (t := 23) (e := 5) (elems := el) (spare := sp) rfl (by simp [he]) Tryd.underlying23
    rw [Tryd.bytes5] at this
    exact this)
  obtain ⟨im, e8, _, l8⟩ := DataW.trod_string Tryd.underlying9 g8
  obtain ⟨wa, wl, wc, s, t, e9, m9, l9⟩ := pairs_form Tryd.underlying24 Tryd.underlying68 Tryd.cells68 rfl rfl rfl rfl g9 (fun el sp he => by
    have := sized_slice hW (j := 9) (t := 24) (e := 68) (elems := el) (spare := sp) rfl (by simp [he]) Tryd.underlying24
    rw [Tryd.bytes68] at this
    exact this)
  simp at e0 e1 e2 e3 e6 e8
  subst e0 e1 e2 e3 e4 e5 e6 e7 e8 e9
  exact ⟨⟨rep, api, sch, mo, dr, da, ts, pa, pl, pc, im, wa, wl, wc⟩, zr, za, f, s, t, rfl, m4, m5, m7, m9, l7, l9, l0, l1, l2, l6, l8⟩
end
end Go.Proofs.Qxb6608758aDoor
