import Derived.Test.YbulkdvjuLawC
import Derived.ProofKit
import Derived.OpenShut
import Derived.ShutString
import Derived.Deep.Strs
import Derived.SizedLaws
namespace Go.Proofs.Ybulkdvju
open Go.ChangeShapes Go.WideShapes Go.ChangeAt Go.RowKit Go.Deep

namespace PC
theorem own : ownKnob Yba.prog.godebug = none := by kernel_rfl
theorem laidOut : laidOutB Yba.prog = true := by kernel_rfl
theorem cells9 : Yba.prog.cellsOf 9 = 1 := by kernel_rfl
theorem cells4 : Yba.prog.cellsOf 4 = 1 := by kernel_rfl
theorem cells5 : Yba.prog.cellsOf 5 = 1 := by kernel_rfl
theorem cells22 : Yba.prog.cellsOf 22 = 1 := by kernel_rfl
theorem cells65 : Yba.prog.cellsOf 65 = 1 := by kernel_rfl
theorem cells67 : Yba.prog.cellsOf 67 = 4 := by kernel_rfl
theorem bytes5 : Yba.prog.bytesOf 5 = 1 := by kernel_rfl
end PC

theorem trod_float {H : Type} {enc : TypeId × Value → H} {P : Program} {w : World} {base : Nat} {spare : Nat → Bool} {held : Bool} {fuel : Nat} {t : TypeId} {cs : List Value} {x : DataW H × List MemPlace} {k : FloatKind}
    (ht : P.underlying t = some (.float k)) (h : DataW.trod enc P w base spare held fuel t cs = some x) : ∃ b, cs = [.float k b] ∧ x = (.lit (.float k b), []) ∧ (Lit.float k b).wf = true := by
  cases fuel with
  | zero => simp [DataW.trod] at h
  | succ n =>
    unfold DataW.trod at h
    rw [ht] at h
    split at h <;> simp_all

theorem weightsAll_mem {H : Type} {P : Program} {e : TypeId} : ∀ {l : List (DataW H)} {d : DataW H}, d ∈ l → ∀ n ∈ d.weights P e, n ∈ DataW.weightsAll P e l
  | x :: l, d, hd, n, hn => by
    simp only [DataW.weightsAll]
    rcases List.mem_cons.1 hd with rfl | hd
    · exact List.mem_append_left _ hn
    · exact List.mem_append_right _ (weightsAll_mem hd n hn)

/-- One host's cells, and its jobs'. -/
structure HostE where
  hr : Bool
  tf : Nat
  ag : ByteArray
  ja : Option Addr
  jx : Nat
  jo : Nat
  jl : Nat
  jc : Nat
  j : Nat → Int

theorem list4 {α : Type} {l : List α} (h : l.length = 4) : ∃ c0 c1 c2 c3, l = [c0, c1, c2, c3] := by
  match l, h with
  | [c0, c1, c2, c3], _ => exact ⟨c0, c1, c2, c3, rfl⟩

/-- The jobs' slice. -/
theorem jobs_at {H : Type} {enc : TypeId × Value → H} {w : World} {n : Nat} {v : Value} {y : DataW H × List MemPlace}
    (ht : DataW.trod enc Yba.prog w 0 (fun _ => true) true n 65 [v] = some y) (hlt : ∀ x ∈ y.2, x.block < w.heap.size) (hw : ∀ k ∈ y.1.weights Yba.prog 65, k ≤ 140737488351232) :
    ∃ (ja : Option Addr) (jx jo jl jc : Nat) (j : Nat → Int), v = .slice ja jl jc ∧ (0 < jl → ja = some ⟨jx, jo, none⟩ ∧ jx < w.heap.size) ∧
      (∀ k, k < jl → w.cell? ⟨jx, jo + k, none⟩ = some (.int .u8 (j k)) ∧ 0 ≤ j k ∧ j k ≤ 255) ∧ jl ≤ 140737488351232 := by
  rcases open_slice1 Yba.underlying65 PC.cells5 ht with ⟨hcs, _⟩ | ⟨a, len, cap, m, n', V, D, Pl, hcs, _, hl, hm, hmm, hx, hcell⟩
  · simp at hcs
    exact ⟨none, 0, 0, 0, 0, fun _ => 0, hcs, fun h => by omega, fun k hk => by omega, by omega⟩
  · simp at hcs
    obtain ⟨b, off, spot⟩ := a
    simp at hmm
    subst hmm
    have hint : ∀ i, i < len → ∃ z : Int, w.cell? ((⟨b, off, spot⟩ : Addr).add i) = some (.int .u8 z) ∧ 0 ≤ z ∧ z ≤ 255 := by
      intro i hi
      obtain ⟨c0, t0⟩ := hcell i (by omega)
      obtain ⟨z, e0, _, hz⟩ := DataW.trod_int Yba.underlying5 t0
      simp at e0
      rw [e0] at c0
      simp [Lit.wf, IntKind.min, IntKind.max, IntKind.signed, IntKind.bits] at hz
      exact ⟨z, c0, by omega, by omega⟩
    obtain ⟨z, hz⟩ := choose_lt hint
    have hsp : 0 < len → spot = none := by
      intro h0
      have := World.cell?_spot (hz 0 h0).1
      simpa [Addr.add] using this
    refine ⟨some ⟨b, off, spot⟩, b, off, len, m, z, hcs, fun h0 => ⟨by rw [hsp h0], ?_⟩, fun k hk => ?_, ?_⟩
    · rw [hx] at hlt
      exact hlt (.cell b off) (List.mem_append_left _ (MemPlace.mem_row.2 ⟨0, by omega, by simp⟩))
    · have hs := hsp (by omega)
      subst hs
      have := hz k hk
      rwa [add_plain] at this
    · rw [hx] at hw
      have := hw ((((List.range len).map D).length + ((List.range (m - len)).map fun j => D (len + j)).length) * Yba.prog.bytesOf 5) (by simp [DataW.weights, Yba.underlying65])
      rw [PC.bytes5] at this
      simp at this
      omega

theorem host_at {H : Type} {enc : TypeId × Value → H} {w : World} {ad : Addr} {cs : List Value} {n : Nat} {y : DataW H × List MemPlace}
    (hcs : w.cells? 0 ad 4 = some cs) (ht : DataW.trod enc Yba.prog w 0 (fun _ => true) true n 67 cs = some y) (hlt : ∀ x ∈ y.2, x.block < w.heap.size) (hw : ∀ k ∈ y.1.weights Yba.prog 67, k ≤ 140737488351232) :
    ∃ q : HostE, w.cell? (ad.add 0) = some (.bool q.hr) ∧ w.cell? (ad.add 1) = some (.float .f64 q.tf) ∧ w.cell? (ad.add 2) = some (.string q.ag) ∧ w.cell? (ad.add 3) = some (.slice q.ja q.jl q.jc) ∧
      (0 < q.jl → q.ja = some ⟨q.jx, q.jo, none⟩ ∧ q.jx < w.heap.size) ∧ (∀ k, k < q.jl → w.cell? ⟨q.jx, q.jo + k, none⟩ = some (.int .u8 (q.j k)) ∧ 0 ≤ q.j k ∧ q.j k ≤ 255) ∧ q.jl ≤ 140737488351232 := by
  obtain ⟨_, hlen, hcell⟩ := World.cells?_some hcs
  obtain ⟨xs, m, _, hy, _, hl, hf⟩ := DataW.trod_struct Yba.underlying67 ht
  obtain ⟨v0, v1, v2, v3, rfl⟩ := list4 hlen
  obtain ⟨y0, y1, y2, y3, rfl⟩ := list4 (show xs.length = 4 from hl)
  have g0 := hf 0 _ rfl
  have g1 := hf 1 _ rfl
  have g2 := hf 2 _ rfl
  have g3 := hf 3 _ rfl
  simp [PC.cells9, PC.cells4, PC.cells22, PC.cells65] at g0 g1 g2 g3
  obtain ⟨x0, e0, _⟩ := DataW.trod_bool Yba.underlying4 g0
  obtain ⟨x1, e1, _, _⟩ := trod_float Yba.underlying22 g1
  obtain ⟨x2, e2, _, _⟩ := DataW.trod_string Yba.underlying9 g2
  subst hy
  obtain ⟨ja, jx, jo, jl, jc, j, rfl, h1, h2, h3⟩ := jobs_at g3 (fun x hx => hlt x (by simp [hx])) (fun k hk => hw k (by simp [DataW.weights, DataW.weightsEach, Yba.underlying67, hk]))
  simp at e0 e1 e2
  subst e0 e1 e2
  have k0 := hcell 0 (by omega)
  have k1 := hcell 1 (by omega)
  have k2 := hcell 2 (by omega)
  have k3 := hcell 3 (by omega)
  simp at k0 k1 k2 k3
  exact ⟨⟨x0, x1, x2, ja, jx, jo, jl, jc, j⟩, k0, k1, k2, k3, h1, h2, h3⟩

theorem plain_add (b off i j : Nat) : ((⟨b, off, none⟩ : Addr).add i).add j = ⟨b, off + i + j, none⟩ := by rw [add_plain, add_plain]

set_option maxRecDepth 100000 in
/-- Whatever slice of hosts came in. -/
theorem hosts_open {H : Type} {enc : TypeId × Value → H} (v : Value) (d : DataW H) (p : List MemPlace) (w : World)
    (ho : Value.okWide Yba.prog w .any 0 64 v) (h : DataW.Trod enc Yba.prog w 0 (fun _ => true) true 64 v d p) (hw : ∀ k ∈ d.weights Yba.prog 64, k ≤ 140737488351232) :
    (∃ a cap, v = .slice a 0 cap) ∨ ∃ b off len cap HR TF AG JA JX JO JL JC J, v = .slice (some ⟨b, off, none⟩) len cap ∧ 0 < len ∧ InHosts b off len HR TF AG JA JX JO JL JC J w := by
  obtain ⟨a0, len, cap, rfl⟩ := okWide_slice Yba.underlying64 ho
  have lt0 : ∀ x ∈ p, x.block < w.heap.size := by obtain ⟨m, hm⟩ := h; exact DataW.trod_lt m _ _ _ hm
  obtain ⟨fuel, hf⟩ := h
  rcases open_slice Yba.underlying64 hf with ⟨hcs, _⟩ | ⟨a, len', cap', m, n, D, Pl, hcs, _, hl, hm, hmm, hx, hcell⟩
  · simp [Value.cells] at hcs
    obtain ⟨rfl, rfl, rfl⟩ := hcs
    exact Or.inl ⟨none, 0, rfl⟩
  · simp [Value.cells] at hcs
    obtain ⟨rfl, rfl, rfl⟩ := hcs
    by_cases h0 : len = 0
    · subst h0
      exact Or.inl ⟨_, _, rfl⟩
    · right
      obtain ⟨b, off, spot⟩ := a
      simp at hmm
      subst hmm
      rw [PC.cells67] at hcell hx
      simp only [Prod.mk.injEq] at hx
      obtain ⟨rfl, rfl⟩ := hx
      have hone : ∀ i, i < len → ∃ q : HostE, w.cell? (((⟨b, off, spot⟩ : Addr).add (i * 4)).add 0) = some (.bool q.hr) ∧ w.cell? (((⟨b, off, spot⟩ : Addr).add (i * 4)).add 1) = some (.float .f64 q.tf) ∧
          w.cell? (((⟨b, off, spot⟩ : Addr).add (i * 4)).add 2) = some (.string q.ag) ∧ w.cell? (((⟨b, off, spot⟩ : Addr).add (i * 4)).add 3) = some (.slice q.ja q.jl q.jc) ∧
          (0 < q.jl → q.ja = some ⟨q.jx, q.jo, none⟩ ∧ q.jx < w.heap.size) ∧ (∀ k, k < q.jl → w.cell? ⟨q.jx, q.jo + k, none⟩ = some (.int .u8 (q.j k)) ∧ 0 ≤ q.j k ∧ q.j k ≤ 255) ∧ q.jl ≤ 140737488351232 := by
        intro i hi
        obtain ⟨cs', h1, h2⟩ := hcell i (by omega)
        refine host_at h1 h2 (fun x hx => lt0 x (List.mem_append_right _ (List.mem_flatMap.2 ⟨i, List.mem_range.2 (by omega), hx⟩))) (fun k hk => hw k ?_)
        simp only [DataW.weights, Yba.underlying64]
        exact List.mem_cons_of_mem _ (List.mem_append_left _ (weightsAll_mem (d := D i) (List.mem_map.2 ⟨i, List.mem_range.2 hi, rfl⟩) k hk))
      have hspot : spot = none := by
        obtain ⟨q, hq, _⟩ := hone 0 (by omega)
        have := World.cell?_spot hq
        simpa [Addr.add] using this
      subst hspot
      simp only [plain_add, Nat.add_zero] at hone
      have : Inhabited HostE := ⟨⟨false, 0, ⟨#[]⟩, none, 0, 0, 0, 0, fun _ => 0⟩⟩
      obtain ⟨q, hq⟩ := choose_lt hone
      have hb : b < w.heap.size := lt0 (.cell b off) (List.mem_append_left _ (MemPlace.mem_row.2 ⟨0, by omega, by simp⟩))
      exact ⟨b, off, len, m, fun i => (q i).hr, fun i => (q i).tf, fun i => (q i).ag, fun i => (q i).ja, fun i => (q i).jx, fun i => (q i).jo, fun i => (q i).jl, fun i => (q i).jc, fun i => (q i).j, rfl, by omega,
        ⟨fun i hi => (hq i hi).1, fun i hi => (hq i hi).2.1, fun i hi => (hq i hi).2.2.1, fun i hi => (hq i hi).2.2.2.1, fun i hi => (hq i hi).2.2.2.2.1, fun i hi => (hq i hi).2.2.2.2.2.1, fun i hi => (hq i hi).2.2.2.2.2.2, hb⟩⟩

end Go.Proofs.Ybulkdvju
