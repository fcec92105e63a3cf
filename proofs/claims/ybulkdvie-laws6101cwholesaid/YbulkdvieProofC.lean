import Derived.Test.YbulkdvieLawC
import Derived.ProofKit
import Derived.OpenShut
import Derived.Deep.Strs
namespace Go.Proofs.Ybulkdvie
open Go.ChangeShapes Go.WideShapes Go.ChangeAt Go.RowKit Go.Deep

theorem Yba.own : ownKnob Yba.prog.godebug = none := by kernel_rfl
theorem Yba.laidOut : laidOutB Yba.prog = true := by kernel_rfl
theorem Yba.cells9 : Yba.prog.cellsOf 9 = 1 := by kernel_rfl

/-- The walk, whatever slice of names came in. -/
theorem lawC_read {H : Type} {enc : TypeId × Value → H} (v : Value) (d : DataW H) (p : List MemPlace) (w : World)
    (ho : Value.okWide Yba.prog w .any 0 28 v) (h : DataW.Trod enc Yba.prog w 0 (fun _ => true) true 28 v d p) :
    Calls Yba.prog 4 #[v] w fun e w' => e = .returned (.bool true) ∧ Below w.heap.size w w' := by
  obtain ⟨a0, len, cap, rfl⟩ := okWide_slice Yba.underlying28 ho
  have lt0 : ∀ x ∈ p, x.block < w.heap.size := by obtain ⟨m, hm⟩ := h; exact DataW.trod_lt m _ _ _ hm
  obtain ⟨fuel, hf⟩ := h
  rcases open_slice1 Yba.underlying28 Yba.cells9 hf with ⟨hcs, _⟩ | ⟨a, len', cap', m, n, V, D, Pl, hcs, _, hl, hm, hmm, hx, hcell⟩
  · simp [Value.cells] at hcs
    obtain ⟨rfl, rfl, rfl⟩ := hcs
    exact lawC_zero none 0 w
  · simp [Value.cells] at hcs
    obtain ⟨rfl, rfl, rfl⟩ := hcs
    by_cases hbig : 4096 < len
    · exact lawC_many _ len cap w hbig
    · by_cases h0 : len = 0
      · subst h0
        exact lawC_zero (some a) cap w
      · obtain ⟨b, off, spot⟩ := a
        simp at hmm
        subst hmm
        have hspot : spot = none := by
          have := World.cell?_spot (hcell 0 (by omega)).1
          simpa [Addr.add] using this
        subst hspot
        have each : ∀ i, i < len → ∃ q : ByteArray, w.cell? ⟨b, off + i, none⟩ = some (.string q) ∧ q.size ≤ maxLen := by
          intro i hi
          obtain ⟨c0, t0⟩ := hcell i (by omega)
          obtain ⟨s0, e0, _, hs0⟩ := DataW.trod_string Yba.underlying9 t0
          simp at e0
          rw [e0, add_plain] at c0
          exact ⟨s0, c0, hs0⟩
        have : Inhabited ByteArray := ⟨⟨#[]⟩⟩
        obtain ⟨q, hq⟩ := choose_lt each
        have hb : b < w.heap.size := by
          have hp : p = MemPlace.row ⟨b, off, none⟩ m ++ (List.range m).flatMap Pl := congrArg Prod.snd hx
          exact lt0 (.cell b off) (by rw [hp]; exact List.mem_append_left _ (MemPlace.mem_row.2 ⟨0, by omega, by simp⟩))
        exact lawC_some b off len m q w (by omega) (by omega) hb (fun i hi => (hq i hi).2) (fun i hi => (hq i hi).1)

set_option maxRecDepth 100000 in
theorem lawC_lifted (os : Os) (started : os.Started) (H : Type) (enc : TypeId × Value → H) :
    ReturnsInHanded {} Yba.checked os 4 .any (Rows.lawS6101CWholeSpec.pre6 enc Yba.prog Yba.f4 Rows.lawS6101CWholeRow.domain false) (Rows.lawS6101CWholeSpec.post enc Yba.prog Yba.f4 false true false false) := by
  refine returnsInHanded_of_change (C := Yba.checked) Yba.own started (by kernel_rfl) Yba.func4
    (ChangeSpec.witness6 (enc := enc) (C := Yba.checked) false ⟨#[], #[.slice none 0 0], []⟩ 8 (by kernel_rfl) (by kernel_rfl) (by kernel_rfl) (by kernel_rfl)) ?_
  intro W base args ds gs before hval0 hW hcnd _
  have hval : ∀ (j : Nat) t v, Yba.f4.params[j]? = some t → args[j]? = some v → Value.okWide Yba.prog W .any base t v := hval0
  have hW' := hW
  obtain ⟨p, q, hA0, hV, rfl, hfz, hnd⟩ := hW
  have hA : DataW.TrodAll enc Yba.prog W 0 (fun _ => true) true Yba.f4.params.toList args.toList ds p := hA0
  rw [Yba.params4] at hA hval
  obtain ⟨v0, d0, rfl, rfl, h0⟩ := trodAll_one hA
  obtain ⟨rfl, rfl⟩ := trodVars_none hV
  have k0 := h0
  have lt0 : ∀ x ∈ p, x.block < W.heap.size := by obtain ⟨m, hm⟩ := k0; exact DataW.trod_lt m _ _ _ hm
  clear hA0 hval0
  refine (lawC_read v0 d0 p W (hval 0 28 v0 rfl rfl) h0).mono fun e W' ⟨he, bel⟩ => ?_
  subst he
  exact ⟨_, rfl, _, _, _, [], _, [], hW', trodAll_mk1 (shut_bool Yba.underlying4 _), trodAll_mk1 (Below.trod Yba.laidOut (by kernel_rfl) (of_decide_eq_true (by kernel_rfl)) k0 bel lt0), rfl, bel.frame _, fun h => by cases h⟩

theorem lawS6101CWhole_holds : Rows.LawS6101CWholeSaid :=
  OpenClaim.holds_of_wide 4 Yba.f4 rfl rfl rfl rfl rfl rfl rfl ⟨rfl, rfl, rfl, rfl, rfl⟩ rfl rfl rfl rfl rfl (by kernel_rfl) Yba.func4 (by kernel_rfl)
    (of_decide_eq_true (by kernel_rfl)) (by unfold Func.isWrapper; first | (rw [if_pos (by decide +kernel)]; kernel_rfl) | (rw [if_neg (by decide +kernel)]; exact ⟨rfl, rfl⟩))
    (fun os started H enc _ => lawC_lifted os started H enc)
end Go.Proofs.Ybulkdvie
