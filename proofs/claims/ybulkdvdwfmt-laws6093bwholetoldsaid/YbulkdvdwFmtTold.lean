import Derived.Test.YbulkdvdwFmtLaw
import Derived.ProofKit
import Derived.OpenShut
import Derived.ShutString
import Derived.Deep.SlicePairs
import Derived.Stop.JoinedTold
import Derived.SevenToldRow
namespace Go.Proofs.YbulkdvdwFmt
open Go.ChangeShapes Go.WideShapes Go.ChangeAt Go.RowKit Go.Deep
open Go.ChangeMaps (open_string shut_string)
open Go.Extern.Stop Go.Stop Go.Extern

theorem Ybaf.own : ownKnob Ybaf.prog.godebug = none := by kernel_rfl
theorem Ybaf.laidOut : laidOutB Ybaf.pinned.checked.prog = true := by kernel_rfl
theorem Ybaf.stops : Ybaf.pinned.checked.prog.stops = Rows.lawS6093BWholeRow.stops := by kernel_rfl
theorem Ybaf.stopKnobs : Ybaf.pinned.checked.prog.stopKnobs = [] := by kernel_rfl
theorem Ybaf.quiet (os : Os) : Stop.quiet Ybaf.pinned.checked.prog os := by
  intro k hk
  rw [Ybaf.stopKnobs] at hk
  cases hk
theorem Ybaf.cells36 : Ybaf.prog.cellsOf 36 = 2 := by kernel_rfl
theorem Ybaf.cells9 : Ybaf.prog.cellsOf 9 = 1 := by kernel_rfl

/-- The walk, whatever slice of keys came in. -/
theorem law_read {H : Type} {enc : TypeId × Value → H} (F : Interp) (nm st : ByteArray) (v : Value) (d : DataW H) (p : List MemPlace) (w : World) (hF : F.answers w.tape)
    (ho : Value.okWide Ybaf.prog w .any 0 22 v) (h : DataW.Trod enc Ybaf.prog w 0 (fun _ => true) true 22 v d p) :
    Calls Ybaf.prog 3 #[.string nm, .string st, v] w fun e w' => e = .returned (.bool true) ∧ Below w.heap.size w w' := by
  obtain ⟨a0, len, cap, rfl⟩ := okWide_slice Ybaf.underlying22 ho
  have lt0 : ∀ x ∈ p, x.block < w.heap.size := by obtain ⟨m, hm⟩ := h; exact DataW.trod_lt m _ _ _ hm
  obtain ⟨fuel, hf⟩ := h
  rcases open_slice_pairs Ybaf.underlying22 Ybaf.underlying36 Ybaf.cells36 rfl rfl Ybaf.cells9 Ybaf.cells9 hf with ⟨hcs, _⟩ | ⟨a, len', cap', m, n, V0, V1, D0, D1, P0, P1, hcs, _, hl, hm, hmm, hx, hcell⟩
  · simp [Value.cells] at hcs
    obtain ⟨rfl, rfl, rfl⟩ := hcs
    exact law_nil nm st w
  · simp [Value.cells] at hcs
    obtain ⟨rfl, rfl, rfl⟩ := hcs
    by_cases hbig : 1048576 < len
    · exact law_many nm st _ len cap w hbig
    · by_cases h0 : len = 0
      · subst h0
        exact law_empty nm st a cap w
      · obtain ⟨b, off, spot⟩ := a
        simp at hmm
        subst hmm
        have hspot : spot = none := by
          have := World.cell?_spot (hcell 0 (by omega)).1
          simpa [Addr.add] using this
        subst hspot
        have each : ∀ i, i < len → ∃ q : ByteArray × ByteArray, w.cell? ⟨b, off + i * 2, none⟩ = some (.string q.1) ∧ w.cell? ⟨b, off + i * 2 + 1, none⟩ = some (.string q.2) := by
          intro i hi
          obtain ⟨c0, c1, t0, t1⟩ := hcell i (by omega)
          obtain ⟨s0, e0, _⟩ := DataW.trod_string Ybaf.underlying9 t0
          obtain ⟨s1, e1, _⟩ := DataW.trod_string Ybaf.underlying9 t1
          simp at e0 e1
          rw [e0, add_plain] at c0
          rw [e1, add_plain] at c1
          exact ⟨(s0, s1), c0, by simpa [Nat.add_assoc] using c1⟩
        have : Inhabited (ByteArray × ByteArray) := ⟨(⟨#[]⟩, ⟨#[]⟩)⟩
        obtain ⟨q, hq⟩ := choose_lt each
        have hb : b < w.heap.size := by
          have hp : p = MemPlace.row ⟨b, off, none⟩ (m * 2) ++ (List.range m).flatMap fun i => P0 i ++ P1 i := congrArg Prod.snd hx
          exact lt0 (.cell b off) (by rw [hp]; exact List.mem_append_left _ (MemPlace.mem_row.2 ⟨0, by omega, by simp⟩))
        exact law_some F nm st b off len m (fun i => (q i).1) (fun i => (q i).2) w hF (by omega) (by omega) hb hq

set_option maxRecDepth 100000 in
theorem t_lifted (os : Os) (started : os.Started) (H : Type) (enc : TypeId × Value → H) :
    ReturnsInTold none {} Ybaf.checked os 3 .any Input.okWide ((OpenSpec.ofChange Rows.lawS6093BWholeSpec).preRow enc Ybaf.prog Ybaf.f3 Rows.lawS6093BWholeRow.domain false []) (fun F => ((OpenSpec.ofChange Rows.lawS6093BWholeSpec).at F).post enc Ybaf.prog Ybaf.f3 false true false false) (aloneAtReturn Ybaf.prog) nothingAlways := by
  refine returnsInTold_of_row (C := Ybaf.checked) (s := OpenSpec.ofChange Rows.lawS6093BWholeSpec) (by kernel_rfl) Ybaf.own started (by kernel_rfl) Ybaf.func3
    (OpenSpec.witness_stopped (enc := enc) (C := Ybaf.checked) false ⟨#[], #[.string ⟨#[]⟩, .string ⟨#[]⟩, .slice none 0 0], []⟩ 8 (by kernel_rfl) (by kernel_rfl) (by kernel_rfl) (by kernel_rfl)) ?_
  intro F W base args ds gs before _ hF hval0 hW _ _ hsz _ _
  have hval : ∀ (j : Nat) t v, Ybaf.f3.params[j]? = some t → args[j]? = some v → Value.okWide Ybaf.prog W .any base t v := hval0
  have hW' := hW
  obtain ⟨p, q, hA0, hV, rfl, hfz, hnd⟩ := hW
  have hA : DataW.TrodAll enc Ybaf.prog W 0 (fun _ => true) true Ybaf.f3.params.toList args.toList ds p := hA0
  rw [Ybaf.params3] at hA hval
  obtain ⟨v0, v1, v2, d0, d1, d2, p0, p1, p2, rfl, rfl, rfl, h0, h1, h2⟩ := trodAll_three hA
  obtain ⟨rfl, rfl⟩ := trodVars_none hV
  obtain ⟨nm, rfl, rfl, rfl, wn⟩ := open_string Ybaf.underlying9 (hval 0 9 v0 rfl rfl) h0
  obtain ⟨st, rfl, rfl, rfl, ws⟩ := open_string Ybaf.underlying9 (hval 1 9 v1 rfl rfl) h1
  have k2 := h2
  have lt2 : ∀ x ∈ p2, x.block < W.heap.size := by obtain ⟨m, hm⟩ := k2; exact DataW.trod_lt m _ _ _ hm
  clear hA0 hval0
  refine (law_read F.told nm st v2 d2 p2 W hF (hval 2 22 v2 rfl rfl) h2).mono fun e W' ⟨he, bel⟩ => ?_
  subst he
  exact ⟨_, rfl, _, _, _, [], _, [], hW', trodAll_mk1 (shut_bool Ybaf.underlying4 _), trodAll_mk3 (shut_string Ybaf.underlying9 wn) (shut_string Ybaf.underlying9 ws) (Below.trod Ybaf.laidOut (by kernel_rfl) (of_decide_eq_true (by kernel_rfl)) k2 bel lt2), rfl, bel.frame _, fun h => by cases h⟩

theorem lawS6093BWhole_told : Rows.LawS6093BWholeToldSaid :=
  Claim7.holds_of_told_any 3 Ybaf.f3 _ _ [] _ _ _ (by kernel_rfl) rfl rfl rfl Ybaf.laidOut (by kernel_rfl) rfl ⟨rfl, rfl, rfl, rfl, rfl, rfl, rfl⟩ rfl rfl (by kernel_rfl) (by kernel_rfl) Ybaf.func3 (by kernel_rfl)
    (of_decide_eq_true (by kernel_rfl)) (of_decide_eq_true (by kernel_rfl)) Ybaf.stops.symm rfl Ybaf.stopKnobs.symm (by kernel_rfl)
    (by kernel_rfl) (by kernel_rfl) (by kernel_rfl) (by kernel_rfl) (by kernel_rfl) (by kernel_rfl) (by kernel_rfl) (by kernel_rfl) (by kernel_rfl) rfl (by kernel_rfl) rfl rfl
    rfl rfl
    rfl (by kernel_rfl) (by kernel_rfl) (by kernel_rfl) (by decide) (by kernel_rfl)
    (OpenClaim.moreEntering_of (by kernel_rfl) (by kernel_rfl) (by kernel_rfl) (by kernel_rfl) (by kernel_rfl) (by kernel_rfl) (by kernel_rfl) (by kernel_rfl) (by kernel_rfl) (by kernel_rfl))
    ⟨_, WideRow.started_initial, Ybaf.quiet _⟩
    (fun os started _ H enc _ => t_lifted os started H enc)

end Go.Proofs.YbulkdvdwFmt
