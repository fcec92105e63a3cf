import Derived.Test.YbulkdvjuStB
import Derived.ProofKit
import Derived.OpenShut
import Derived.ShutString
import Derived.Deep.Strs
import Derived.SizedLaws
import Derived.Laws.Cover2
namespace Go.Proofs.Ybulkdvju
open Go.ChangeShapes Go.WideShapes Go.ChangeAt Go.RowKit Go.Deep

namespace PB
theorem own : ownKnob Yba.prog.godebug = none := by kernel_rfl
theorem laidOut : laidOutB Yba.prog = true := by kernel_rfl
theorem cells5 : Yba.prog.cellsOf 5 = 1 := by kernel_rfl
theorem cells22 : Yba.prog.cellsOf 22 = 1 := by kernel_rfl
theorem cells53 : Yba.prog.cellsOf 53 = 4 := by kernel_rfl
theorem bytes53 : Yba.prog.bytesOf 53 = 24 := by kernel_rfl

theorem trod_float {H : Type} {enc : TypeId × Value → H} {P : Program} {w : World} {base : Nat} {spare : Nat → Bool} {held : Bool} {fuel : Nat} {t : TypeId} {cs : List Value} {x : DataW H × List MemPlace} {k : FloatKind}
    (ht : P.underlying t = some (.float k)) (h : DataW.trod enc P w base spare held fuel t cs = some x) : ∃ b, cs = [.float k b] ∧ x = (.lit (.float k b), []) ∧ (Lit.float k b).wf = true := by
  cases fuel with
  | zero => simp [DataW.trod] at h
  | succ n =>
    unfold DataW.trod at h
    rw [ht] at h
    split at h <;> simp_all

/-- One entry's cells. -/
structure EntE where
  j : Int
  c : Int
  t : Nat
  m : Nat

theorem list4 {α : Type} {l : List α} (h : l.length = 4) : ∃ c0 c1 c2 c3, l = [c0, c1, c2, c3] := by
  match l, h with
  | [c0, c1, c2, c3], _ => exact ⟨c0, c1, c2, c3, rfl⟩

theorem entry_at {H : Type} {enc : TypeId × Value → H} {w : World} {ad : Addr} {cs : List Value} {n : Nat} {y : DataW H × List MemPlace}
    (hcs : w.cells? 0 ad 4 = some cs) (ht : DataW.trod enc Yba.prog w 0 (fun _ => true) true n 53 cs = some y) :
    ∃ q : EntE, w.cell? (ad.add 0) = some (.int .u8 q.j) ∧ w.cell? (ad.add 1) = some (.int .u8 q.c) ∧ w.cell? (ad.add 2) = some (.float .f64 q.t) ∧ w.cell? (ad.add 3) = some (.float .f64 q.m) ∧
      (0 ≤ q.j ∧ q.j ≤ 255) ∧ (0 ≤ q.c ∧ q.c ≤ 255) := by
  obtain ⟨_, hlen, hcell⟩ := World.cells?_some hcs
  obtain ⟨xs, m, _, _, _, hl, hf⟩ := DataW.trod_struct Yba.underlying53 ht
  obtain ⟨v0, v1, v2, v3, rfl⟩ := list4 hlen
  obtain ⟨y0, y1, y2, y3, rfl⟩ := list4 (show xs.length = 4 from hl)
  have g0 := hf 0 _ rfl
  have g1 := hf 1 _ rfl
  have g2 := hf 2 _ rfl
  have g3 := hf 3 _ rfl
  simp [cells5, cells22] at g0 g1 g2 g3
  obtain ⟨x0, e0, _, s0⟩ := DataW.trod_int Yba.underlying5 g0
  obtain ⟨x1, e1, _, s1⟩ := DataW.trod_int Yba.underlying5 g1
  obtain ⟨x2, e2, _, _⟩ := trod_float Yba.underlying22 g2
  obtain ⟨x3, e3, _, _⟩ := trod_float Yba.underlying22 g3
  simp at e0 e1 e2 e3
  subst e0 e1 e2 e3
  have k0 := hcell 0 (by omega)
  have k1 := hcell 1 (by omega)
  have k2 := hcell 2 (by omega)
  have k3 := hcell 3 (by omega)
  simp at k0 k1 k2 k3
  simp [Lit.wf, IntKind.min, IntKind.max, IntKind.signed, IntKind.bits] at s0 s1
  exact ⟨⟨x0, x1, x2, x3⟩, k0, k1, k2, k3, ⟨by show 0 ≤ x0; omega, by show x0 ≤ 255; omega⟩, ⟨by show 0 ≤ x1; omega, by show x1 ≤ 255; omega⟩⟩

theorem plain_add (b off i j : Nat) : ((⟨b, off, none⟩ : Addr).add i).add j = ⟨b, off + i + j, none⟩ := by rw [add_plain, add_plain]

set_option maxRecDepth 100000 in
/-- Whatever slice of entries came in. -/
theorem entries_open {H : Type} {enc : TypeId × Value → H} (v : Value) (d : DataW H) (p : List MemPlace) (w : World)
    (ho : Value.okWide Yba.prog w .any 0 23 v) (h : DataW.Trod enc Yba.prog w 0 (fun _ => true) true 23 v d p) (hw : ∀ k ∈ d.weights Yba.prog 23, k ≤ 140737488351232) :
    ∃ a n cap b off J C T M, v = .slice a n cap ∧ n ≤ 140737488351232 ∧ InE a n b off J C T M w := by
  obtain ⟨a0, len, cap, rfl⟩ := okWide_slice Yba.underlying23 ho
  have lt0 : ∀ x ∈ p, x.block < w.heap.size := by obtain ⟨m, hm⟩ := h; exact DataW.trod_lt m _ _ _ hm
  have hzero : ∀ a cap, ∃ a' n cap' b off J C T M, Value.slice a 0 cap = .slice a' n cap' ∧ n ≤ 140737488351232 ∧ InE a' n b off J C T M w := fun a cap =>
    ⟨a, 0, cap, 0, 0, fun _ => 0, fun _ => 0, fun _ => 0, fun _ => 0, rfl, by omega, ⟨fun h => absurd h (Nat.lt_irrefl _), fun i hi => absurd hi (Nat.not_lt_zero _), fun i hi => absurd hi (Nat.not_lt_zero _), fun i hi => absurd hi (Nat.not_lt_zero _), fun i hi => absurd hi (Nat.not_lt_zero _), fun i hi => absurd hi (Nat.not_lt_zero _), fun i hi => absurd hi (Nat.not_lt_zero _)⟩⟩
  obtain ⟨fuel, hf⟩ := h
  rcases open_slice Yba.underlying23 hf with ⟨hcs, _⟩ | ⟨a, len', cap', m, n, D, Pl, hcs, _, hl, hm, hmm, hx, hcell⟩
  · simp [Value.cells] at hcs
    obtain ⟨rfl, rfl, rfl⟩ := hcs
    exact hzero none 0
  · simp [Value.cells] at hcs
    obtain ⟨rfl, rfl, rfl⟩ := hcs
    by_cases h0 : len = 0
    · subst h0
      exact hzero _ _
    · obtain ⟨b, off, spot⟩ := a
      simp at hmm
      subst hmm
      rw [cells53] at hcell hx
      simp only [Prod.mk.injEq] at hx
      obtain ⟨rfl, rfl⟩ := hx
      have hone : ∀ i, i < len → ∃ q : EntE, w.cell? (((⟨b, off, spot⟩ : Addr).add (i * 4)).add 0) = some (.int .u8 q.j) ∧ w.cell? (((⟨b, off, spot⟩ : Addr).add (i * 4)).add 1) = some (.int .u8 q.c) ∧
          w.cell? (((⟨b, off, spot⟩ : Addr).add (i * 4)).add 2) = some (.float .f64 q.t) ∧ w.cell? (((⟨b, off, spot⟩ : Addr).add (i * 4)).add 3) = some (.float .f64 q.m) ∧ (0 ≤ q.j ∧ q.j ≤ 255) ∧ (0 ≤ q.c ∧ q.c ≤ 255) := by
        intro i hi
        obtain ⟨cs', h1, h2⟩ := hcell i (by omega)
        exact entry_at h1 h2
      have hspot : spot = none := by
        obtain ⟨q, hq, _⟩ := hone 0 (by omega)
        have := World.cell?_spot hq
        simpa [Addr.add] using this
      subst hspot
      simp only [plain_add, Nat.add_zero] at hone
      have : Inhabited EntE := ⟨⟨0, 0, 0, 0⟩⟩
      obtain ⟨q, hq⟩ := choose_lt hone
      have hb : b < w.heap.size := lt0 (.cell b off) (List.mem_append_left _ (MemPlace.mem_row.2 ⟨0, by omega, by simp⟩))
      have hsz := hw ((((List.range len).map D).length + ((List.range (m - len)).map fun j => D (len + j)).length) * Yba.prog.bytesOf 53) (by simp [DataW.weights, Yba.underlying23])
      rw [bytes53] at hsz
      simp at hsz
      exact ⟨_, len, m, b, off, fun i => (q i).j, fun i => (q i).c, fun i => (q i).t, fun i => (q i).m, rfl, by omega,
        ⟨fun _ => ⟨rfl, hb⟩, fun i hi => (hq i hi).1, fun i hi => (hq i hi).2.1, fun i hi => (hq i hi).2.2.1, fun i hi => (hq i hi).2.2.2.1, fun i hi => (hq i hi).2.2.2.2.1, fun i hi => (hq i hi).2.2.2.2.2⟩⟩
end PB

set_option maxRecDepth 100000 in
theorem lawB_many (cJ cC : Int) (cH : Bool) (cT : Nat) (nano wt : Int) (ta pa : Option Addr) (tn tc pn pc : Nat) (w : World) (h1 : tn ≤ 140737488351232) (h2 : pn ≤ 140737488351232) (hsum : 65536 < tn + pn) :
    Calls Yba.prog 3 #[.int .u8 cJ, .bool cH, .int .u8 cC, .float .f64 cT, .int .i64 nano, .int .i64 wt, .slice ta tn tc, .slice pa pn pc] w fun e w' => e = .returned (.bool true) ∧ Below w.heap.size w w' := by
  have hs1 : (tn : Int) + (pn : Int) ≤ 9223372036854775807 := by omega
  have hd : decide ((65536 : Int) < (tn : Int) + (pn : Int)) = true := by simp; omega
  go_enter Yba.func3, Yba.ntmps3
  go_wp2
  go_ret
  exact ⟨rfl, Below.refl _ _⟩

end Go.Proofs.Ybulkdvju
