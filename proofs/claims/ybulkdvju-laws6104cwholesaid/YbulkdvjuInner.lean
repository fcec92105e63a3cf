import Derived.Test.YbulkdvjuFill
namespace Go.Proofs.Ybulkdvju
open Go.RowKit
attribute [local go_sem] run_store_float

def blankH (len : Nat) : Array Value := madeCells #[.float .f64 0, .int .i64 0, .string ⟨#[]⟩, .pointer none] (len * 4)
theorem info72 : (Yba.prog.info? 72).map (fun i => (i.zero, i.size, i.bytes)) = some (some (.agg #[.float .f64 0, .int .i64 0, .string ⟨#[]⟩, .pointer none]), 4, 40) := by kernel_rfl
theorem make69 (len : Nat) (h : len ≤ 65536) (w : World) : (Instr.makeSlice 69 (.int .i64 (len : Int)) (.int .i64 (len : Int))).run Yba.prog w = .ok (.slice (some ⟨w.heap.size, 0, none⟩) len len) (w.alloc (.cells (blankH len) 72)) := by
  obtain ⟨i, h1, h2, h3, h4⟩ := info_parts info72
  have hr := run_make (P := Yba.prog) w 69 72 i _ Yba.underlying69 h1 h2 .i64 .i64 len len (by omega) (by omega) (by rw [h4]; omega) (by omega)
  rw [hr, h3]
  simp [blankH, Value.cells]
def blankJ (n : Nat) : Array Value := madeCells #[.string ⟨#[]⟩, .float .f64 0, .string ⟨#[]⟩, .float .f64 0, .float .f64 0, .float .f64 0, .float .f64 0, .float .f64 0, .int .i64 0, .float .f64 0, .int .i64 0, .pointer none] (n * 12)
theorem info81 : (Yba.prog.info? 81).map (fun i => (i.zero, i.size, i.bytes)) = some (some (.agg #[.string ⟨#[]⟩, .float .f64 0, .string ⟨#[]⟩, .float .f64 0, .float .f64 0, .float .f64 0, .float .f64 0, .float .f64 0, .int .i64 0, .float .f64 0, .int .i64 0, .pointer none]), 12, 112) := by kernel_rfl
theorem make73 (n : Nat) (h : n ≤ 1048576) (w : World) : (Instr.makeSlice 73 (.int .i64 0) (.int .i64 (n : Int))).run Yba.prog w = .ok (.slice (some ⟨w.heap.size, 0, none⟩) 0 n) (w.alloc (.cells (blankJ n) 81)) := by
  obtain ⟨i, h1, h2, h3, h4⟩ := info_parts info81
  have hr := run_make (P := Yba.prog) w 73 81 i _ Yba.underlying73 h1 h2 .i64 .i64 0 n (by omega) (by omega) (by rw [h4]; omega) (by omega)
  rw [hr, h3]
  simp [blankJ, Value.cells]

theorem fill2_start (len : Nat) (TF : Nat → Nat) (AG : Nat → ByteArray) (HR : Nat → Bool) (JL : Nat → Nat) (NM : Nat → Nat → ByteArray) (ST : Nat → Nat) (name : ByteArray) (w : World) (RB JB : Nat → Nat) :
    Fill2 w.heap.size len TF AG HR JL NM ST name w RB JB 0 ((w.alloc (.cells #[.string name, .string ⟨#[97]⟩, .string ⟨#[98]⟩, .string ⟨#[116, 114, 97, 105, 110]⟩] 68)).alloc (.cells (blankH len) 72)) := by
  have hb : ((w.alloc (.cells #[.string name, .string ⟨#[97]⟩, .string ⟨#[98]⟩, .string ⟨#[116, 114, 97, 105, 110]⟩] 68)).alloc (.cells (blankH len) 72)).heap[w.heap.size + 1]? = some (.cells (blankH len) 72 (0, 0)) := heap_alloc_two w _ _
  refine ⟨Joins.below_alloc2 _ _ _, ?_, ?_, fun i hi => absurd hi (Nat.not_lt_zero _), fun j hj => ?_, fun o => Joins.unfrozen_of_block hb o⟩
  · rw [Below.heap_alloc _ _ _ (by simp)]; exact (MapKept.heap_alloc w _).1
  · exact ⟨fun i hi => absurd hi (Nat.not_lt_zero _), fun i hi => absurd hi (Nat.not_lt_zero _), fun i hi => absurd hi (Nat.not_lt_zero _), fun i hi => absurd hi (Nat.not_lt_zero _), fun i hi => absurd hi (Nat.not_lt_zero _), fun i hi => absurd hi (Nat.not_lt_zero _), fun i hi => absurd hi (Nat.not_lt_zero _), fun i hi => absurd hi (Nat.not_lt_zero _), fun i hi => absurd hi (Nat.not_lt_zero _), fun i hi => absurd hi (Nat.not_lt_zero _), fun i hi => absurd hi (Nat.not_lt_zero _), fun i hi => absurd hi (Nat.not_lt_zero _), by simp⟩
  · rw [Joins.cell_of_block hb]
    exact ⟨_, Array.getElem?_eq_getElem (by unfold blankH; rw [size_madeCells]; exact hj)⟩

/-- The name that a job's number picks. -/
def nmOf (name : ByteArray) (c : Int) : ByteArray := if c % 4 = 0 then name else if c % 4 = 1 then ⟨#[97]⟩ else if c % 4 = 2 then ⟨#[98]⟩ else ⟨#[116, 114, 97, 105, 110]⟩
theorem names_at {name : ByteArray} {b0 : Nat} {w : World} (h : w.heap[b0]? = some (namesObj name)) (c : Int) : w.cell? ⟨b0, (c % 4).toNat, none⟩ = some (.string (nmOf name c)) := by
  unfold namesObj at h
  rw [Joins.cell_of_block h]
  have : c % 4 = 0 ∨ c % 4 = 1 ∨ c % 4 = 2 ∨ c % 4 = 3 := by omega
  unfold nmOf
  rcases this with e | e | e | e <;> rw [e] <;> rfl

theorem cells_new (w : World) (l : List Value) (t : TypeId) : ∀ (j : Nat) (u : Value), l[j]? = some u → (w.alloc (.cells l.toArray t)).cell? ((⟨w.heap.size, 0, none⟩ : Addr).add j) = some u := by
  intro j u h
  rw [show (⟨w.heap.size, 0, none⟩ : Addr).add j = ⟨w.heap.size, j, none⟩ by unfold Addr.add; by_cases e : j = 0 <;> simp [e]]
  rw [Joins.cell_alloc_mark_at w l.toArray t (0, 0) _ _ rfl]
  simpa using h
theorem rjL_one (nm : ByteArray) (st : Nat) (wt : Int) : ∀ u ∈ rjL nm st wt, u.oneCell' = true := by
  intro u hu
  simp only [rjL, List.mem_cons, List.not_mem_nil, or_false] at hu
  rcases hu with rfl | rfl | rfl | rfl | rfl | rfl | rfl | rfl | rfl | rfl | rfl | rfl <;> rfl

/-- Four cells of a row, stored one behind the other. -/
theorem put4 {wr : World} {bb q : Nat} (v0 v1 v2 v3 : Value) {o0 o1 o2 o3 : Value} (r0 : wr.cell? ⟨bb, q, none⟩ = some o0) (r1 : wr.cell? ⟨bb, q + 1, none⟩ = some o1) (r2 : wr.cell? ⟨bb, q + 2, none⟩ = some o2) (r3 : wr.cell? ⟨bb, q + 3, none⟩ = some o3)
    (hf : ∀ o, wr.frozen? ⟨bb, o, none⟩ = false) :
    let W := (((wr.setCell ⟨bb, q, none⟩ v0).setCell ⟨bb, q + 1, none⟩ v1).setCell ⟨bb, q + 2, none⟩ v2).setCell ⟨bb, q + 3, none⟩ v3
    ButAt bb wr W ∧ W.cell? ⟨bb, q, none⟩ = some v0 ∧ W.cell? ⟨bb, q + 1, none⟩ = some v1 ∧ W.cell? ⟨bb, q + 2, none⟩ = some v2 ∧ W.cell? ⟨bb, q + 3, none⟩ = some v3 ∧
      (∀ j, j < q ∨ q + 4 ≤ j → W.cell? ⟨bb, j, none⟩ = wr.cell? ⟨bb, j, none⟩) ∧ (∀ o, W.frozen? ⟨bb, o, none⟩ = false) := by
  refine ⟨((((ButAt.refl bb wr).set _ _).set _ _).set _ _).set _ _, ?_, ?_, ?_, ?_, fun j hj => ?_, fun o => ?_⟩
  · simp [go_sem, r0]
  · simp [go_sem, r1]
  · simp [go_sem, r2]
  · simp [go_sem, r3]
  · have ne : ∀ o (W : World) (v : Value), j ≠ o → (W.setCell ⟨bb, o, none⟩ v).cell? ⟨bb, j, none⟩ = W.cell? ⟨bb, j, none⟩ := fun o W v h => World.cell?_setCell_other _ _ _ _ (fun e => h (by injection e with _ e2; exact e2.symm))
    rw [ne _ _ _ (by omega), ne _ _ _ (by omega), ne _ _ _ (by omega), ne _ _ _ (by omega)]
  · simp only [World.frozen?_setCell]; exact hf o

/-- Inside one host's round, behind k3 of his jobs. -/
structure Inner (bb q : Nat) (v0 v1 v2 v3 : Value) (ho : Obj) (jl : Nat) (NM : Nat → ByteArray) (ST : Nat → Nat) (wt : Int) (wr : World) (k3 : Nat) (wq : World) : Prop where
  but : ButAt bb wr wq
  c0 : wq.cell? ⟨bb, q, none⟩ = some v0
  c1 : wq.cell? ⟨bb, q + 1, none⟩ = some v1
  c2 : wq.cell? ⟨bb, q + 2, none⟩ = some v2
  c3 : wq.cell? ⟨bb, q + 3, none⟩ = some v3
  oth : ∀ j, j < q ∨ q + 4 ≤ j → wq.cell? ⟨bb, j, none⟩ = wr.cell? ⟨bb, j, none⟩
  fz : ∀ o, wq.frozen? ⟨bb, o, none⟩ = false
  hb : wq.heap[wr.heap.size]? = some ho
  rep : wq.heap[wr.heap.size + 2]? = some (.cells #[.string ⟨#[]⟩, .float .f64 0, .float .f64 0, .slice (some ⟨wr.heap.size + 1, 0, none⟩) k3 jl, .slice none 0 0, .slice none 0 0] 76 (0, 0))
  own : wq.ownsRow (wr.heap.size + 1) 81 12 (.slice (some ⟨wr.heap.size + 1, 0, none⟩) k3 jl) k3 (recs NM ST wt k3)
  sz : wr.heap.size + 3 ≤ wq.heap.size

theorem inner_start {bb q jl : Nat} {v0 v1 v2 v3 o0 o1 o2 o3 : Value} {cs : Array Value} {t : TypeId} {NM : Nat → ByteArray} {ST : Nat → Nat} {wt : Int} {wr : World} (r0 : wr.cell? ⟨bb, q, none⟩ = some o0) (r1 : wr.cell? ⟨bb, q + 1, none⟩ = some o1) (r2 : wr.cell? ⟨bb, q + 2, none⟩ = some o2) (r3 : wr.cell? ⟨bb, q + 3, none⟩ = some o3)
    (hf : ∀ o, wr.frozen? ⟨bb, o, none⟩ = false) (hbb : bb < wr.heap.size) (hjl : jl ≤ 1048576) :
    Inner bb q v0 v1 v2 v3 (.cells cs t (0, 0)) jl NM ST wt wr 0
      (((((((wr.setCell ⟨bb, q, none⟩ v0).setCell ⟨bb, q + 1, none⟩ v1).setCell ⟨bb, q + 2, none⟩ v2).setCell ⟨bb, q + 3, none⟩ v3).alloc (.cells cs t)).alloc (.cells (blankJ jl) 81)).alloc (.cells #[.string ⟨#[]⟩, .float .f64 0, .float .f64 0, .slice (some ⟨wr.heap.size + 1, 0, none⟩) 0 jl, .slice none 0 0, .slice none 0 0] 76)) := by
  obtain ⟨p1, p2, p3, p4, p5, p6, p7⟩ := put4 v0 v1 v2 v3 r0 r1 r2 r3 hf
  generalize hW : (((wr.setCell ⟨bb, q, none⟩ v0).setCell ⟨bb, q + 1, none⟩ v1).setCell ⟨bb, q + 2, none⟩ v2).setCell ⟨bb, q + 3, none⟩ v3 = W at *
  have hsz : W.heap.size = wr.heap.size := by rw [← hW]; simp [World.setCell]
  have hB := Joins.below_alloc3 W (.cells cs t) (.cells (blankJ jl) 81) (.cells #[.string ⟨#[]⟩, .float .f64 0, .float .f64 0, .slice (some ⟨wr.heap.size + 1, 0, none⟩) 0 jl, .slice none 0 0, .slice none 0 0] 76)
  have hc : ∀ o, (((W.alloc (.cells cs t)).alloc (.cells (blankJ jl) 81)).alloc (.cells #[.string ⟨#[]⟩, .float .f64 0, .float .f64 0, .slice (some ⟨wr.heap.size + 1, 0, none⟩) 0 jl, .slice none 0 0, .slice none 0 0] 76)).cell? ⟨bb, o, none⟩ = W.cell? ⟨bb, o, none⟩ := fun o => hB.cell (p := ⟨bb, o, none⟩) (by rw [hsz]; exact hbb)
  refine ⟨p1.trans (ButAt.of hB), (hc _).trans p2, (hc _).trans p3, (hc _).trans p4, (hc _).trans p5, fun j hj => (hc _).trans (p6 j hj), fun o => ?_, ?_, ?_, ?_, by simp; omega⟩
  · rw [hB.frozen (p := ⟨bb, o, none⟩) (by rw [hsz]; exact hbb)]; exact p7 o
  · rw [Below.heap_alloc _ _ _ (by simp; omega), Below.heap_alloc _ _ _ (by simp; omega), ← hsz]; exact (MapKept.heap_alloc W _).1
  · have := heap_alloc_two (W.alloc (.cells cs t)) (.cells (blankJ jl) 81) (.cells #[.string ⟨#[]⟩, .float .f64 0, .float .f64 0, .slice (some ⟨wr.heap.size + 1, 0, none⟩) 0 jl, .slice none 0 0, .slice none 0 0] 76)
    simp only [World.size_alloc, hsz] at this
    exact this
  · have := World.ownsRow_made (base := wr.heap.size + 1) (e := 81) (size := 12) (W.alloc (.cells cs t)) (blankJ jl) jl (by simp [hsz]) (by unfold maxLen; omega) (by unfold blankJ; rw [size_madeCells])
    simp only [World.size_alloc, hsz] at this
    exact this.alloc _

theorem ownsRow_set {w : World} {base : Nat} {e : TypeId} {size : Nat} {g cap n : Nat} {xs : List Value} (h : w.ownsRow base e size (.slice (some ⟨g, 0, none⟩) n cap) n xs) {a : Addr} (ha : a.block ≠ g) (u : Value) : (w.setCell a u).ownsRow base e size (.slice (some ⟨g, 0, none⟩) n cap) n xs := by
  refine ⟨h.1, ?_⟩
  rcases h.2 with hn | ⟨g', cap', cur, hv, hb, hh, r⟩
  · exact .inl hn
  · simp only [Value.slice.injEq, Option.some.injEq, Addr.mk.injEq, and_true, true_and] at hv
    obtain ⟨rfl, rfl⟩ := hv
    exact .inr ⟨g, cap, cur, rfl, hb, (Below.heap_setCell _ _ _ _ (fun e => ha e.symm)).trans hh, r⟩

theorem inner_step {bb q jl k3 : Nat} {v0 v1 v2 v3 : Value} {ho : Obj} {NM : Nat → ByteArray} {ST : Nat → Nat} {wt : Int} {wr wq w1 : World} {o : Obj} (h : Inner bb q v0 v1 v2 v3 ho jl NM ST wt wr k3 wq) (hbb : bb < wr.heap.size)
    (hown : w1.ownsRow (wr.heap.size + 1) 81 12 (.slice (some ⟨wr.heap.size + 1, 0, none⟩) (k3 + 1) jl) (k3 + 1) (recs NM ST wt k3 ++ rjL (NM k3) (ST k3) wt)) (hg : (wq.alloc o).grownBy w1 (some (wr.heap.size + 1))) :
    Inner bb q v0 v1 v2 v3 ho jl NM ST wt wr (k3 + 1) (w1.setCell ⟨wr.heap.size + 2, 3, none⟩ (.slice (some ⟨wr.heap.size + 1, 0, none⟩) (k3 + 1) jl)) := by
  obtain ⟨hbut, c0, c1, c2, c3, hoth, hfz, hhb, hrep, _, hsz⟩ := h
  have hblk : ∀ i, i < wq.heap.size → i ≠ wr.heap.size + 1 → w1.heap[i]? = wq.heap[i]? := fun i hi hn => (hg.block i (by simp; omega) (by simpa using hn)).trans (Below.heap_alloc _ _ _ hi)
  have hblk2 : ∀ i, i < wq.heap.size → i ≠ wr.heap.size + 1 → i ≠ wr.heap.size + 2 → (w1.setCell ⟨wr.heap.size + 2, 3, none⟩ (.slice (some ⟨wr.heap.size + 1, 0, none⟩) (k3 + 1) jl)).heap[i]? = wq.heap[i]? := fun i hi hn hn2 => (Below.heap_setCell _ _ _ _ hn2).trans (hblk i hi hn)
  have hc : ∀ j, (w1.setCell ⟨wr.heap.size + 2, 3, none⟩ (.slice (some ⟨wr.heap.size + 1, 0, none⟩) (k3 + 1) jl)).cell? ⟨bb, j, none⟩ = wq.cell? ⟨bb, j, none⟩ := fun j => World.cell?_of_block (w := wq) (hblk2 bb (by omega) (by omega) (by omega))
  have hs1 : wq.heap.size + 1 ≤ w1.heap.size := by have := hg.size; simpa using this
  refine ⟨?_, (hc _).trans c0, (hc _).trans c1, (hc _).trans c2, (hc _).trans c3, fun j hj => (hc j).trans (hoth j hj), fun o => ?_, ?_, ?_, ?_, ?_⟩
  · exact ⟨hg.tape.trans hbut.tape, hg.os.trans hbut.os, hg.output.trans hbut.output, by simp [World.setCell]; omega, fun i hi hn => (hblk2 i (by omega) (by omega) (by omega)).trans (hbut.block i hi hn)⟩
  · rw [World.frozen?_of_block (w := wq) (hblk2 bb (by omega) (by omega) (by omega))]; exact hfz o
  · rw [hblk2 _ (by omega) (by omega) (by omega)]; exact hhb
  · have e : w1.heap[wr.heap.size + 2]? = _ := (hblk _ (by omega) (by omega)).trans hrep
    exact (Joins.block_setCell e _).trans (by rfl)
  · exact ownsRow_set hown (by simp) _
  · simp [World.setCell]; omega

theorem rep_after {bb q jl k3 : Nat} {v0 v1 v2 v3 : Value} {ho : Obj} {NM : Nat → ByteArray} {ST : Nat → Nat} {wt : Int} {wr wq w1 : World} {o : Obj} (h : Inner bb q v0 v1 v2 v3 ho jl NM ST wt wr k3 wq) (hg : (wq.alloc o).grownBy w1 (some (wr.heap.size + 1))) :
    w1.cell? ⟨wr.heap.size + 1 + 1, 3, none⟩ = some (.slice (some ⟨wr.heap.size + 1, 0, none⟩) k3 jl) ∧ w1.frozen? ⟨wr.heap.size + 1 + 1, 3, none⟩ = false := by
  have e : w1.heap[wr.heap.size + 1 + 1]? = _ := ((hg.block (wr.heap.size + 2) (by have := h.sz; simp; omega) (by simp)).trans (Below.heap_alloc _ _ _ (by have := h.sz; omega))).trans h.rep
  exact ⟨Joins.cell_of_block e 3, Joins.unfrozen_of_block e 3⟩

theorem inner_end {b0 len : Nat} {TF : Nat → Nat} {AG : Nat → ByteArray} {HR : Nat → Bool} {JL : Nat → Nat} {NM : Nat → Nat → ByteArray} {ST : Nat → Nat} {name : ByteArray} {w : World} {RB JB : Nat → Nat} {k : Nat} {W1 wq : World} {v3 : Value} {ho : Obj}
    (HF : Fill2 b0 len TF AG HR JL NM ST name w RB JB k W1) (hk : k < len) (hr : HR k = true) (h : Inner (b0 + 1) (k * 4) (.float .f64 (TF k)) (.int .i64 ((k : Int) + 1)) (.string (AG k)) v3 ho (JL k) (NM k) ST ((k : Int) + 1) W1 (JL k) wq) :
    ∃ RB' JB', Fill2 b0 len TF AG HR JL NM ST name w RB' JB' (k + 1) (wq.setCell ⟨b0 + 1, k * 4 + 3, none⟩ (.pointer (some ⟨W1.heap.size + 1 + 1, 0, none⟩))) := by
  have hbb := HF.hosts.bblt
  have hsz := h.sz
  have ne : ∀ j, j ≠ k * 4 + 3 → (wq.setCell ⟨b0 + 1, k * 4 + 3, none⟩ (.pointer (some ⟨W1.heap.size + 1 + 1, 0, none⟩))).cell? ⟨b0 + 1, j, none⟩ = wq.cell? ⟨b0 + 1, j, none⟩ := fun j hj => World.cell?_setCell_other _ _ _ _ (fun e => hj (by injection e with _ e2; exact e2.symm))
  have blk : ∀ i, i ≠ b0 + 1 → (wq.setCell ⟨b0 + 1, k * 4 + 3, none⟩ (.pointer (some ⟨W1.heap.size + 1 + 1, 0, none⟩))).heap[i]? = wq.heap[i]? := fun i hi => Below.heap_setCell _ _ _ _ hi
  have hrep : (wq.setCell ⟨b0 + 1, k * 4 + 3, none⟩ (.pointer (some ⟨W1.heap.size + 1 + 1, 0, none⟩))).heap[W1.heap.size + 2]? = _ := (blk _ (by omega)).trans h.rep
  refine fill2_next HF hk (h.but.set _ _) (W1.heap.size + 1 + 1) (W1.heap.size + 1) ((ne _ (by omega)).trans h.c0) ((ne _ (by omega)).trans h.c1) ((ne _ (by omega)).trans h.c2) ?_ (fun j hj => (ne j (by omega)).trans (h.oth j hj)) (fun o => by rw [World.frozen?_setCell]; exact h.fz o) (fun _ => ?_)
  · rw [hr]; simp [go_sem, h.c3]
  · exact ⟨Joins.cell_of_block hrep 0, Joins.cell_of_block hrep 1, Joins.cell_of_block hrep 2, Joins.cell_of_block hrep 3, Joins.cell_of_block hrep 4, Joins.cell_of_block hrep 5,
      (jobs_of_own h.own).keep (blk _ (by omega)), by omega, by omega, by simp [World.setCell]; omega, by simp [World.setCell]; omega⟩

end Go.Proofs.Ybulkdvju
