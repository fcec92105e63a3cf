import Derived.Test.YbulkdvjuMain
import Derived.Test.YbulkdvjuZeroC
import Derived.Test.YbulkdvjuOpenC
namespace Go.Proofs.Ybulkdvju
open Go.ChangeShapes Go.WideShapes Go.ChangeAt Go.RowKit Go.Deep
open Go.ChangeMaps (open_string shut_string)

namespace PC
set_option maxRecDepth 100000 in
/-- The walk, whatever slice of hosts came in. -/
theorem read {H : Type} {enc : TypeId × Value → H} (v : Value) (d : DataW H) (p : List MemPlace) (name : ByteArray) (w : World)
    (ho : Value.okWide Yba.prog w .any 0 64 v) (h : DataW.Trod enc Yba.prog w 0 (fun _ => true) true 64 v d p) (hw : ∀ k ∈ d.weights Yba.prog 64, k ≤ 140737488351232) :
    Calls Yba.prog 4 #[v, .string name] w fun e w' => e = .returned (.bool true) ∧ Below w.heap.size w w' := by
  rcases hosts_open v d p w ho h hw with ⟨a, cap, rfl⟩ | ⟨b, off, len, cap, HR, TF, AG, JA, JX, JO, JL, JC, J, rfl, h0, HI⟩
  · exact lawC_zero a cap name w
  · by_cases hbig : 65536 < len
    · exact lawC_many _ len cap name w hbig
    · by_cases hsm : sumTo JL len ≤ 1048576
      · exact lawC_main b off len cap HR TF AG JA JX JO JL JC J name w h0 (by omega) HI hsm
      · exact lawC_full b off len cap HR TF AG JA JX JO JL JC J name w h0 (by omega) HI (by omega)

set_option maxRecDepth 100000 in
theorem lifted (os : Os) (started : os.Started) (H : Type) (enc : TypeId × Value → H) :
    ReturnsInHanded {} Yba.checked os 4 .any (Rows.lawS6104CWholeSpec.pre6 enc Yba.prog Yba.f4 Rows.lawS6104CWholeRow.domain false) (Rows.lawS6104CWholeSpec.post enc Yba.prog Yba.f4 false true false false) := by
  refine returnsInHanded_of_change_sized (C := Yba.checked) own started (by kernel_rfl) Yba.func4
    (ChangeSpec.witness6 (enc := enc) (C := Yba.checked) false ⟨#[], #[.slice none 0 0, .string ⟨#[]⟩], []⟩ 8 (by kernel_rfl) (by kernel_rfl) (by kernel_rfl) (by kernel_rfl)) ?_
  intro W base args ds gs before hval0 hW hcnd hsz0 _
  have hval : ∀ (j : Nat) t v, Yba.f4.params[j]? = some t → args[j]? = some v → Value.okWide Yba.prog W .any base t v := hval0
  have hsz : (DataW.weightsEach Yba.prog (Yba.f4.params.toList ++ Rows.lawS6104CWholeSpec.plain.varTypes Yba.prog) (ds ++ gs)).all (· ≤ reachBytes) = true := hsz0
  have hW' := hW
  obtain ⟨p, q, hA0, hV, rfl, hfz, hnd⟩ := hW
  have hA : DataW.TrodAll enc Yba.prog W 0 (fun _ => true) true Yba.f4.params.toList args.toList ds p := hA0
  rw [Yba.params4] at hA hval hsz
  obtain ⟨v0, v1, d0, d1, p0, p1, rfl, rfl, rfl, h0, h1⟩ := trodAll_two hA
  obtain ⟨rfl, rfl⟩ := trodVars_none hV
  have k0 := h0
  have lt0 : ∀ x ∈ p0, x.block < W.heap.size := by obtain ⟨m, hm⟩ := k0; exact DataW.trod_lt m _ _ _ hm
  obtain ⟨name, rfl, rfl, rfl, w1⟩ := open_string Yba.underlying9 (hval 1 9 v1 rfl rfl) h1
  have hw : ∀ k ∈ d0.weights Yba.prog 64, k ≤ 140737488351232 := fun k hk => by
    have := List.all_eq_true.1 hsz k (DataW.weights_mem_each (j := 0) (t := 64) (d := d0) rfl rfl k hk)
    exact of_decide_eq_true this
  clear hA0 hval0 hsz0 hsz
  refine (read v0 d0 p0 name W (hval 0 64 v0 rfl rfl) h0 hw).mono fun e W' ⟨he, bel⟩ => ?_
  subst he
  exact ⟨_, rfl, _, _, _, [], _, [], hW', trodAll_mk1 (shut_bool Yba.underlying4 _), trodAll_mk2 (Below.trod laidOut (by kernel_rfl) (of_decide_eq_true (by kernel_rfl)) k0 bel lt0) (shut_string Yba.underlying9 w1), rfl, bel.frame _, fun h => by cases h⟩
end PC

theorem lawS6104CWhole_holds : Rows.LawS6104CWholeSaid :=
  OpenClaim.holds_of_wide 4 Yba.f4 rfl rfl rfl rfl rfl rfl rfl ⟨rfl, rfl, rfl, rfl, rfl⟩ rfl rfl rfl rfl rfl (by kernel_rfl) Yba.func4 (by kernel_rfl)
    (of_decide_eq_true (by kernel_rfl)) (by unfold Func.isWrapper; first | (rw [if_pos (by decide +kernel)]; kernel_rfl) | (rw [if_neg (by decide +kernel)]; exact ⟨rfl, rfl⟩))
    (fun os started H enc _ => PC.lifted os started H enc)
end Go.Proofs.Ybulkdvju
