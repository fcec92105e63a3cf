import Derived.Test.YbulkdvjuPlain
namespace Go.Proofs.Ybulkdvju
open Go.RowKit

/-- All that lay there lies there as it did, but for the block cb. -/
structure ButAt (cb : Nat) (w w' : World) : Prop where
  tape : w'.tape = w.tape
  os : w'.os = w.os
  output : w'.output = w.output
  size : w.heap.size ≤ w'.heap.size
  block : ∀ k, k < w.heap.size → k ≠ cb → w'.heap[k]? = w.heap[k]?
theorem ButAt.refl (cb : Nat) (w : World) : ButAt cb w w := ⟨rfl, rfl, rfl, Nat.le_refl _, fun _ _ _ => rfl⟩
theorem ButAt.trans {cb : Nat} {a b c : World} (h : ButAt cb a b) (k : ButAt cb b c) : ButAt cb a c :=
  ⟨k.tape.trans h.tape, k.os.trans h.os, k.output.trans h.output, Nat.le_trans h.size k.size, fun i hi hn => (k.block i (Nat.lt_of_lt_of_le hi h.size) hn).trans (h.block i hi hn)⟩
theorem ButAt.of {cb : Nat} {a b : World} (h : Below a.heap.size a b) : ButAt cb a b := ⟨h.tape, h.os, h.output, h.size, fun i hi _ => h.block i hi⟩
theorem ButAt.alloc {cb : Nat} {a w : World} (h : ButAt cb a w) (o : Obj) : ButAt cb a (w.alloc o) := h.trans (ButAt.of (Joins.below_alloc1 w o))
theorem ButAt.set {cb : Nat} {a w : World} (h : ButAt cb a w) (o : Nat) (u : Value) : ButAt cb a (w.setCell ⟨cb, o, none⟩ u) :=
  h.trans ⟨rfl, rfl, rfl, by simp [World.setCell], fun k _ hn => Below.heap_setCell _ _ _ _ hn⟩
theorem ButAt.cell {cb : Nat} {w w' : World} (h : ButAt cb w w') {b : Nat} (hb : b < w.heap.size) (hn : b ≠ cb) (o : Nat) : w'.cell? ⟨b, o, none⟩ = w.cell? ⟨b, o, none⟩ := World.cell?_of_block (w := w) (h.block b hb hn)

/-- The names' table, at block b0. -/
def namesObj (name : ByteArray) : Obj := .cells #[.string name, .string ⟨#[97]⟩, .string ⟨#[98]⟩, .string ⟨#[116, 114, 97, 105, 110]⟩] 68 (0, 0)

/-- Behind k rounds of the loop that builds: the names at block b0, the hosts at block b0 + 1. -/
structure Fill2 (b0 len : Nat) (TF : Nat → Nat) (AG : Nat → ByteArray) (HR : Nat → Bool) (JL : Nat → Nat) (NM : Nat → Nat → ByteArray) (ST : Nat → Nat) (name : ByteArray) (w : World) (RB JB : Nat → Nat) (k : Nat) (wr : World) : Prop where
  bel : Below b0 w wr
  names : wr.heap[b0]? = some (namesObj name)
  hosts : HostsAt (b0 + 1) k TF AG HR RB JB JL NM ST wr
  gt : ∀ i, i < k → HR i = true → b0 + 1 < RB i ∧ b0 + 1 < JB i
  room : ∀ j, j < len * 4 → ∃ v, wr.cell? ⟨b0 + 1, j, none⟩ = some v
  fz : ∀ o, wr.frozen? ⟨b0 + 1, o, none⟩ = false

theorem fill2_next {b0 len : Nat} {TF : Nat → Nat} {AG : Nat → ByteArray} {HR : Nat → Bool} {JL : Nat → Nat} {NM : Nat → Nat → ByteArray} {ST : Nat → Nat} {name : ByteArray} {w : World} {RB JB : Nat → Nat} {k : Nat} {wr W : World}
    (h : Fill2 b0 len TF AG HR JL NM ST name w RB JB k wr) (hk : k < len) (hB : ButAt (b0 + 1) wr W) (rb jb : Nat)
    (hc0 : W.cell? ⟨b0 + 1, k * 4, none⟩ = some (.float .f64 (TF k))) (hc1 : W.cell? ⟨b0 + 1, k * 4 + 1, none⟩ = some (.int .i64 ((k : Int) + 1))) (hc2 : W.cell? ⟨b0 + 1, k * 4 + 2, none⟩ = some (.string (AG k)))
    (hc3 : W.cell? ⟨b0 + 1, k * 4 + 3, none⟩ = some (.pointer (if HR k = true then some ⟨rb, 0, none⟩ else none)))
    (ho : ∀ j, j < k * 4 ∨ k * 4 + 4 ≤ j → W.cell? ⟨b0 + 1, j, none⟩ = wr.cell? ⟨b0 + 1, j, none⟩) (hf : ∀ o, W.frozen? ⟨b0 + 1, o, none⟩ = false)
    (hrep : HR k = true → W.cell? ⟨rb, 0, none⟩ = some (.string ⟨#[]⟩) ∧ W.cell? ⟨rb, 1, none⟩ = some (.float .f64 0) ∧ W.cell? ⟨rb, 2, none⟩ = some (.float .f64 0) ∧ W.cell? ⟨rb, 3, none⟩ = some (.slice (some ⟨jb, 0, none⟩) (JL k) (JL k)) ∧ W.cell? ⟨rb, 4, none⟩ = some (.slice none 0 0) ∧ W.cell? ⟨rb, 5, none⟩ = some (.slice none 0 0) ∧ JobsAt jb (JL k) (NM k) ST ((k : Int) + 1) W ∧ b0 + 1 < rb ∧ b0 + 1 < jb ∧ rb < W.heap.size ∧ jb < W.heap.size) :
    ∃ RB' JB', Fill2 b0 len TF AG HR JL NM ST name w RB' JB' (k + 1) W := by
  obtain ⟨hbel, hnm, ⟨h0, h1, h2, h3, r0, r1, r2, r3, r4, r5, hj, hl, hbb⟩, hgt, hroom, hfz⟩ := h
  have eo : ∀ i, i < k → ∀ q, q < 4 → W.cell? ⟨b0 + 1, i * 4 + q, none⟩ = wr.cell? ⟨b0 + 1, i * 4 + q, none⟩ := fun i hi q hq => ho _ (.inl (by omega))
  have er : ∀ i, i < k → HR i = true → ∀ q, W.cell? ⟨RB i, q, none⟩ = wr.cell? ⟨RB i, q, none⟩ := fun i hi hr q => hB.cell (hl i hi hr).1 (by have := (hgt i hi hr).1; omega) q
  refine ⟨fun i => if i = k then rb else RB i, fun i => if i = k then jb else JB i, ?_, ?_, ?_, ?_, ?_, hf⟩
  · exact ⟨hB.os.trans hbel.os, hB.tape.trans hbel.tape, hB.output.trans hbel.output, Nat.le_trans hbel.size hB.size, fun q hq => (hB.block q (by omega) (by omega)).trans (hbel.block q hq)⟩
  · exact (hB.block b0 (by omega) (by omega)).trans hnm
  · refine ⟨?_, ?_, ?_, ?_, ?_, ?_, ?_, ?_, ?_, ?_, ?_, ?_, Nat.lt_of_lt_of_le hbb hB.size⟩
    · intro i hi
      by_cases e : i = k
      · subst e; exact hc0
      · have := eo i (by omega) 0 (by omega); simp only [Nat.add_zero] at this; rw [this]; exact h0 i (by omega)
    · intro i hi
      by_cases e : i = k
      · subst e; exact hc1
      · rw [eo i (by omega) 1 (by omega)]; exact h1 i (by omega)
    · intro i hi
      by_cases e : i = k
      · subst e; exact hc2
      · rw [eo i (by omega) 2 (by omega)]; exact h2 i (by omega)
    · intro i hi
      by_cases e : i = k
      · subst e; simpa using hc3
      · rw [eo i (by omega) 3 (by omega), if_neg e]; exact h3 i (by omega)
    · intro i hi hr
      by_cases e : i = k
      · subst e; simpa using (hrep hr).1
      · simp only [if_neg e]; rw [er i (by omega) hr]; exact r0 i (by omega) hr
    · intro i hi hr
      by_cases e : i = k
      · subst e; simpa using (hrep hr).2.1
      · simp only [if_neg e]; rw [er i (by omega) hr]; exact r1 i (by omega) hr
    · intro i hi hr
      by_cases e : i = k
      · subst e; simpa using (hrep hr).2.2.1
      · simp only [if_neg e]; rw [er i (by omega) hr]; exact r2 i (by omega) hr
    · intro i hi hr
      by_cases e : i = k
      · subst e; simpa using (hrep hr).2.2.2.1
      · simp only [if_neg e]; rw [er i (by omega) hr]; exact r3 i (by omega) hr
    · intro i hi hr
      by_cases e : i = k
      · subst e; simpa using (hrep hr).2.2.2.2.1
      · simp only [if_neg e]; rw [er i (by omega) hr]; exact r4 i (by omega) hr
    · intro i hi hr
      by_cases e : i = k
      · subst e; simpa using (hrep hr).2.2.2.2.2.1
      · simp only [if_neg e]; rw [er i (by omega) hr]; exact r5 i (by omega) hr
    · intro i hi hr
      by_cases e : i = k
      · subst e; simpa using (hrep hr).2.2.2.2.2.2.1
      · simp only [if_neg e]
        exact (hj i (by omega) hr).keep (hB.block _ (hl i (by omega) hr).2 (by have := (hgt i (by omega) hr).2; omega))
    · intro i hi hr
      by_cases e : i = k
      · subst e; simpa using (hrep hr).2.2.2.2.2.2.2.2.2
      · simp only [if_neg e]
        exact ⟨Nat.lt_of_lt_of_le (hl i (by omega) hr).1 hB.size, Nat.lt_of_lt_of_le (hl i (by omega) hr).2 hB.size⟩
  · intro i hi hr
    by_cases e : i = k
    · subst e; simpa using ⟨(hrep hr).2.2.2.2.2.2.2.1, (hrep hr).2.2.2.2.2.2.2.2.1⟩
    · simp only [if_neg e]; exact hgt i (by omega) hr
  · intro j hj'
    by_cases e : j < k * 4 ∨ k * 4 + 4 ≤ j
    · rw [ho j e]; exact hroom j hj'
    · have : j = k * 4 ∨ j = k * 4 + 1 ∨ j = k * 4 + 2 ∨ j = k * 4 + 3 := by omega
      rcases this with rfl | rfl | rfl | rfl
      · exact ⟨_, hc0⟩
      · exact ⟨_, hc1⟩
      · exact ⟨_, hc2⟩
      · exact ⟨_, hc3⟩

end Go.Proofs.Ybulkdvju
