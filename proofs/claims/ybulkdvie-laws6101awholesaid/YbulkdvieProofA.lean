import Derived.Test.YbulkdvieZeroA
import Derived.ProofKit
import Derived.OpenShut
import Derived.ShutString
import Derived.Deep.Strs
namespace Go.Proofs.Ybulkdvie
open Go.ChangeShapes Go.WideShapes Go.ChangeAt Go.RowKit Go.Deep
open Go.ChangeMaps (open_string shut_string)

namespace PA
theorem own : ownKnob Yba.prog.godebug = none := by kernel_rfl
theorem laidOut : laidOutB Yba.prog = true := by kernel_rfl
theorem cells9 : Yba.prog.cellsOf 9 = 1 := by kernel_rfl
theorem cells2 : Yba.prog.cellsOf 2 = 1 := by kernel_rfl
theorem cells5 : Yba.prog.cellsOf 5 = 1 := by kernel_rfl
theorem cells4 : Yba.prog.cellsOf 4 = 1 := by kernel_rfl
theorem cells24 : Yba.prog.cellsOf 24 = 6 := by kernel_rfl

/-- One entry's cells. -/
structure Ent where
  key : ByteArray
  kd : Int
  se : Int
  re : ByteArray
  cn : Bool
  de : ByteArray

theorem list6 {α : Type} {l : List α} (h : l.length = 6) : ∃ c0 c1 c2 c3 c4 c5, l = [c0, c1, c2, c3, c4, c5] := by
  match l, h with
  | [c0, c1, c2, c3, c4, c5], _ => exact ⟨c0, c1, c2, c3, c4, c5, rfl⟩

theorem entry_at {H : Type} {enc : TypeId × Value → H} {w : World} {base : Nat} {spare : Nat → Bool} {held : Bool} {ad : Addr} {cs : List Value} {n : Nat} {y : DataW H × List MemPlace}
    (hcs : w.cells? base ad 6 = some cs) (ht : DataW.trod enc Yba.prog w base spare held n 24 cs = some y) :
    ∃ q : Ent, w.cell? (ad.add 0) = some (.string q.key) ∧ w.cell? (ad.add 1) = some (.int .i64 q.kd) ∧ w.cell? (ad.add 2) = some (.int .u8 q.se) ∧ w.cell? (ad.add 3) = some (.string q.re) ∧
      w.cell? (ad.add 4) = some (.bool q.cn) ∧ w.cell? (ad.add 5) = some (.string q.de) ∧ 0 ≤ q.se ∧ q.se ≤ 255 ∧ q.key.size ≤ maxLen := by
  obtain ⟨_, hlen, hcell⟩ := World.cells?_some hcs
  obtain ⟨xs, m, _, _, _, hl, hf⟩ := DataW.trod_struct Yba.underlying24 ht
  obtain ⟨v0, v1, v2, v3, v4, v5, rfl⟩ := list6 hlen
  have g0 := hf 0 _ rfl
  have g1 := hf 1 _ rfl
  have g2 := hf 2 _ rfl
  have g3 := hf 3 _ rfl
  have g4 := hf 4 _ rfl
  have g5 := hf 5 _ rfl
  rw [List.getElem?_eq_getElem (by rw [hl]; decide)] at g0 g1 g2 g3 g4 g5
  obtain ⟨x0, e0, _, s0⟩ := DataW.trod_string Yba.underlying9 g0
  obtain ⟨x1, e1, _, _⟩ := DataW.trod_int Yba.underlying2 g1
  obtain ⟨x2, e2, _, s2⟩ := DataW.trod_int Yba.underlying5 g2
  obtain ⟨x3, e3, _, _⟩ := DataW.trod_string Yba.underlying9 g3
  obtain ⟨x4, e4, _⟩ := DataW.trod_bool Yba.underlying4 g4
  obtain ⟨x5, e5, _, _⟩ := DataW.trod_string Yba.underlying9 g5
  simp [cells9, cells2, cells5, cells4] at e0 e1 e2 e3 e4 e5
  subst e0 e1 e2 e3 e4 e5
  have k0 := hcell 0 (by omega)
  have k1 := hcell 1 (by omega)
  have k2 := hcell 2 (by omega)
  have k3 := hcell 3 (by omega)
  have k4 := hcell 4 (by omega)
  have k5 := hcell 5 (by omega)
  simp at k0 k1 k2 k3 k4 k5
  refine ⟨⟨x0, x1, x2, x3, x4, x5⟩, k0, k1, k2, k3, k4, k5, ?_, ?_, s0⟩
  · show 0 ≤ x2
    simp [Lit.wf, IntKind.min, IntKind.max, IntKind.signed, IntKind.bits] at s2; omega
  · show x2 ≤ 255
    simp [Lit.wf, IntKind.min, IntKind.max, IntKind.signed, IntKind.bits] at s2; omega

theorem plain_add (b off i j : Nat) : ((⟨b, off, none⟩ : Addr).add i).add j = ⟨b, off + i + j, none⟩ := by rw [add_plain, add_plain]

/-- The walk, whatever slice of entries came in. -/
theorem read {H : Type} {enc : TypeId × Value → H} (v : Value) (d : DataW H) (p : List MemPlace) (sel : Int) (raw : ByteArray) (w : World) (hs0 : 0 ≤ sel) (hs1 : sel ≤ 255) (hraw : raw.size ≤ maxLen)
    (ho : Value.okWide Yba.prog w .any 0 22 v) (h : DataW.Trod enc Yba.prog w 0 (fun _ => true) true 22 v d p) :
    Calls Yba.prog 3 #[v, .int .u8 sel, .string raw] w fun e w' => e = .returned (.bool true) ∧ Below w.heap.size w w' := by
  obtain ⟨a0, len, cap, rfl⟩ := okWide_slice Yba.underlying22 ho
  have lt0 : ∀ x ∈ p, x.block < w.heap.size := by obtain ⟨m, hm⟩ := h; exact DataW.trod_lt m _ _ _ hm
  obtain ⟨fuel, hf⟩ := h
  rcases open_slice Yba.underlying22 hf with ⟨hcs, _⟩ | ⟨a, len', cap', m, n, D, Pl, hcs, _, hl, hm, hmm, hx, hcell⟩
  · simp [Value.cells] at hcs
    obtain ⟨rfl, rfl, rfl⟩ := hcs
    exact lawA_zero none 0 sel raw w hraw
  · simp [Value.cells] at hcs
    obtain ⟨rfl, rfl, rfl⟩ := hcs
    by_cases hbig : 1048576 < len
    · exact lawA_many _ len cap sel raw w hbig
    · by_cases h0 : len = 0
      · subst h0
        exact lawA_zero (some a) cap sel raw w hraw
      · obtain ⟨b, off, spot⟩ := a
        simp at hmm
        subst hmm
        rw [cells24] at hcell hx
        have hspot : spot = none := by
          obtain ⟨cs', h1, h2⟩ := hcell 0 (by omega)
          obtain ⟨q, hq, _⟩ := entry_at h1 h2
          have := World.cell?_spot hq
          simpa [Addr.add] using this
        subst hspot
        have each : ∀ i, i < len → ∃ q : Ent, w.cell? ⟨b, off + i * 6, none⟩ = some (.string q.key) ∧ w.cell? ⟨b, off + i * 6 + 1, none⟩ = some (.int .i64 q.kd) ∧ w.cell? ⟨b, off + i * 6 + 2, none⟩ = some (.int .u8 q.se) ∧ w.cell? ⟨b, off + i * 6 + 3, none⟩ = some (.string q.re) ∧
            w.cell? ⟨b, off + i * 6 + 4, none⟩ = some (.bool q.cn) ∧ w.cell? ⟨b, off + i * 6 + 5, none⟩ = some (.string q.de) ∧ 0 ≤ q.se ∧ q.se ≤ 255 ∧ q.key.size ≤ maxLen := by
          intro i hi
          obtain ⟨cs', h1, h2⟩ := hcell i (by omega)
          obtain ⟨q, hq⟩ := entry_at h1 h2
          simp only [plain_add, Nat.add_zero] at hq
          exact ⟨q, hq⟩
        have : Inhabited Ent := ⟨⟨⟨#[]⟩, 0, 0, ⟨#[]⟩, false, ⟨#[]⟩⟩⟩
        obtain ⟨q, hq⟩ := choose_lt each
        have hb : b < w.heap.size := by
          have hp : p = MemPlace.row ⟨b, off, none⟩ (m * 6) ++ (List.range m).flatMap Pl := congrArg Prod.snd hx
          exact lt0 (.cell b off) (by rw [hp]; exact List.mem_append_left _ (MemPlace.mem_row.2 ⟨0, by omega, by simp⟩))
        exact lawA_some len b off m (fun i => (q i).key) (fun i => (q i).kd) (fun i => (q i).se) (fun i => (q i).re) (fun i => (q i).cn) (fun i => (q i).de) sel raw w (by omega) (by omega) hb hs0 hs1 hraw
          ⟨fun i hi => (hq i hi).1, fun i hi => (hq i hi).2.1, fun i hi => (hq i hi).2.2.1, fun i hi => (hq i hi).2.2.2.1, fun i hi => (hq i hi).2.2.2.2.1, fun i hi => (hq i hi).2.2.2.2.2.1, fun i hi => ⟨(hq i hi).2.2.2.2.2.2.1, (hq i hi).2.2.2.2.2.2.2.1⟩, fun i hi => (hq i hi).2.2.2.2.2.2.2.2⟩

set_option maxRecDepth 100000 in
theorem lifted (os : Os) (started : os.Started) (H : Type) (enc : TypeId × Value → H) :
    ReturnsInHanded {} Yba.checked os 3 .any (Rows.lawS6101AWholeSpec.pre6 enc Yba.prog Yba.f3 Rows.lawS6101AWholeRow.domain false) (Rows.lawS6101AWholeSpec.post enc Yba.prog Yba.f3 false true false false) := by
  refine returnsInHanded_of_change (C := Yba.checked) own started (by kernel_rfl) Yba.func3
    (ChangeSpec.witness6 (enc := enc) (C := Yba.checked) false ⟨#[], #[.slice none 0 0, .int .u8 0, .string ⟨#[]⟩], []⟩ 8 (by kernel_rfl) (by kernel_rfl) (by kernel_rfl) (by kernel_rfl)) ?_
  intro W base args ds gs before hval0 hW hcnd _
  have hval : ∀ (j : Nat) t v, Yba.f3.params[j]? = some t → args[j]? = some v → Value.okWide Yba.prog W .any base t v := hval0
  have hW' := hW
  obtain ⟨p, q, hA0, hV, rfl, hfz, hnd⟩ := hW
  have hA : DataW.TrodAll enc Yba.prog W 0 (fun _ => true) true Yba.f3.params.toList args.toList ds p := hA0
  rw [Yba.params3] at hA hval
  obtain ⟨v0, v1, v2, d0, d1, d2, p0, p1, p2, rfl, rfl, rfl, h0, h1, h2⟩ := trodAll_three hA
  obtain ⟨rfl, rfl⟩ := trodVars_none hV
  have k0 := h0
  have lt0 : ∀ x ∈ p0, x.block < W.heap.size := by obtain ⟨m, hm⟩ := k0; exact DataW.trod_lt m _ _ _ hm
  obtain ⟨sel, rfl, rfl, rfl, w1⟩ := open_int Yba.underlying5 (hval 1 5 v1 rfl rfl) h1
  obtain ⟨raw, rfl, rfl, rfl, w2⟩ := open_string Yba.underlying9 (hval 2 9 v2 rfl rfl) h2
  have hs := w1
  simp [Lit.wf, IntKind.min, IntKind.max, IntKind.signed, IntKind.bits] at hs
  clear hA0 hval0
  refine (read v0 d0 p0 sel raw W (by omega) (by omega) w2 (hval 0 22 v0 rfl rfl) h0).mono fun e W' ⟨he, bel⟩ => ?_
  subst he
  exact ⟨_, rfl, _, _, _, [], _, [], hW', trodAll_mk1 (shut_bool Yba.underlying4 _), trodAll_mk3 (Below.trod laidOut (by kernel_rfl) (of_decide_eq_true (by kernel_rfl)) k0 bel lt0) (shut_int Yba.underlying5 w1) (shut_string Yba.underlying9 w2), rfl, bel.frame _, fun h => by cases h⟩
end PA

theorem lawS6101AWhole_holds : Rows.LawS6101AWholeSaid :=
  OpenClaim.holds_of_wide 3 Yba.f3 rfl rfl rfl rfl rfl rfl rfl ⟨rfl, rfl, rfl, rfl, rfl⟩ rfl rfl rfl rfl rfl (by kernel_rfl) Yba.func3 (by kernel_rfl)
    (of_decide_eq_true (by kernel_rfl)) (by unfold Func.isWrapper; first | (rw [if_pos (by decide +kernel)]; kernel_rfl) | (rw [if_neg (by decide +kernel)]; exact ⟨rfl, rfl⟩))
    (fun os started H enc _ => PA.lifted os started H enc)

end Go.Proofs.Ybulkdvie
