import Derived.Test.YbulkdvdwFmtWarn
import Derived.RegionTactic
import Derived.BigRegion
namespace Go.Proofs.YbulkdvdwFmt
open Go.RowKit Go.Extern.Stop Go.Stop Go.Extern

def blank2 (len : Nat) : Array Value := madeCells #[.string ⟨#[]⟩, .string ⟨#[]⟩] (len * 2)

theorem info38 : (Ybaf.prog.info? 38).map (fun i => (i.zero, i.size, i.bytes)) = some (some (.agg #[.string ⟨#[]⟩, .string ⟨#[]⟩]), 2, 32) := by kernel_rfl

theorem make34 (len : Nat) (h : len ≤ 1048576) (w : World) : (Instr.makeSlice 34 (.int .i64 (len : Int)) (.int .i64 (len : Int))).run Ybaf.prog w = .ok (.slice (some ⟨w.heap.size, 0, none⟩) len len) (w.alloc (.cells (blank2 len) 38)) := by
  obtain ⟨i, h1, h2, h3, h4⟩ := info_parts info38
  have hr := run_make (P := Ybaf.prog) w 34 38 i _ Ybaf.underlying34 h1 h2 .i64 .i64 len len (by omega) (by omega) (by rw [h4]; omega) (by omega)
  rw [hr, h3]
  simp [blank2, Value.cells]

/-- Too many keys: true at once. -/
theorem law_many (nm st : ByteArray) (a : Option Addr) (len cap : Nat) (w : World) (h : 1048576 < len) :
    Calls Ybaf.prog 3 #[.string nm, .string st, .slice a len cap] w fun e w' => e = .returned (.bool true) ∧ Below w.heap.size w w' := by
  go_enter Ybaf.func3, Ybaf.ntmps3
  go_wp2
  go_ret
  exact ⟨rfl, Below.refl _ _⟩

/-- Behind k rounds of the first loop. -/
structure Fill (nm st : ByteArray) (len : Nat) (N G : Nat → ByteArray) (w : World) (k : Nat) (wr : World) : Prop where
  bel : Below w.heap.size w wr
  size : wr.heap.size = w.heap.size + 2
  app : ∀ o, wr.cell? ⟨w.heap.size, o, none⟩ = (#[.string nm, .string st, .string ⟨#[]⟩, .string ⟨#[]⟩, .slice none 0 0, .string ⟨#[]⟩, .slice none 0 0, .string ⟨#[]⟩, .string ⟨#[]⟩, .string ⟨#[]⟩, .slice none 0 0, .slice none 0 0, .slice none 0 0] : Array Value)[o]?
  done : ∀ i, i < k → wr.cell? ⟨w.heap.size + 1, i * 2, none⟩ = some (.string (N i)) ∧ wr.cell? ⟨w.heap.size + 1, i * 2 + 1, none⟩ = some (.string (G i))
  room : ∀ j, j < len * 2 → ∃ v, wr.cell? ⟨w.heap.size + 1, j, none⟩ = some v
  fz : ∀ o, wr.frozen? ⟨w.heap.size + 1, o, none⟩ = false

theorem fill_start (nm st : ByteArray) (len : Nat) (N G : Nat → ByteArray) (w : World) : Fill nm st len N G w 0 ((w.alloc (.cells #[.string nm, .string st, .string ⟨#[]⟩, .string ⟨#[]⟩, .slice none 0 0, .string ⟨#[]⟩, .slice none 0 0, .string ⟨#[]⟩, .string ⟨#[]⟩, .string ⟨#[]⟩, .slice none 0 0, .slice none 0 0, .slice none 0 0] 33)).alloc (.cells (blank2 len) 38)) := by
  refine ⟨Joins.below_alloc2 _ _ _, by simp, fun o => ?_, fun i hi => absurd hi (Nat.not_lt_zero _), fun j hj => ?_, fun o => ?_⟩
  · rw [(Joins.below_alloc1 (w.alloc (.cells #[.string nm, .string st, .string ⟨#[]⟩, .string ⟨#[]⟩, .slice none 0 0, .string ⟨#[]⟩, .slice none 0 0, .string ⟨#[]⟩, .string ⟨#[]⟩, .string ⟨#[]⟩, .slice none 0 0, .slice none 0 0, .slice none 0 0] 33)) _).cell (p := ⟨w.heap.size, o, none⟩) (by simp)]
    simp [go_sem]
  · have e : ((w.alloc (.cells #[.string nm, .string st, .string ⟨#[]⟩, .string ⟨#[]⟩, .slice none 0 0, .string ⟨#[]⟩, .slice none 0 0, .string ⟨#[]⟩, .string ⟨#[]⟩, .string ⟨#[]⟩, .slice none 0 0, .slice none 0 0, .slice none 0 0] 33)).alloc (.cells (blank2 len) 38)).cell? ⟨w.heap.size + 1, j, none⟩ = (blank2 len)[j]? :=
      Joins.cell_alloc_mark_at _ _ _ (0, 0) _ _ (by simp)
    rw [e]
    exact ⟨_, Array.getElem?_eq_getElem (by unfold blank2; rw [size_madeCells]; exact hj)⟩
  · have e : ((w.alloc (.cells #[.string nm, .string st, .string ⟨#[]⟩, .string ⟨#[]⟩, .slice none 0 0, .string ⟨#[]⟩, .slice none 0 0, .string ⟨#[]⟩, .string ⟨#[]⟩, .string ⟨#[]⟩, .slice none 0 0, .slice none 0 0, .slice none 0 0] 33)).alloc (.cells (blank2 len) 38)).heap[w.heap.size + 1]? = some (.cells (blank2 len) 38 (0, 0)) := by
      have := (MapKept.heap_alloc (w.alloc (.cells #[.string nm, .string st, .string ⟨#[]⟩, .string ⟨#[]⟩, .slice none 0 0, .string ⟨#[]⟩, .slice none 0 0, .string ⟨#[]⟩, .string ⟨#[]⟩, .string ⟨#[]⟩, .slice none 0 0, .slice none 0 0, .slice none 0 0] 33)) (.cells (blank2 len) 38)).1
      simpa using this
    exact Joins.unfrozen_of_block e o

theorem fill_step {nm st : ByteArray} {len : Nat} {N G : Nat → ByteArray} {w : World} {k : Nat} {wr : World} (h : Fill nm st len N G w k wr) (hk : k < len) :
    Fill nm st len N G w (k + 1) ((wr.setCell ⟨w.heap.size + 1, k * 2, none⟩ (.string (N k))).setCell ⟨w.heap.size + 1, k * 2 + 1, none⟩ (.string (G k))).drew := by
  obtain ⟨hb, hs, ha, hd, hr, hf⟩ := h
  obtain ⟨v0, r0⟩ := hr (k * 2) (by omega)
  obtain ⟨v1, r1⟩ := hr (k * 2 + 1) (by omega)
  have hc : ∀ j, ((wr.setCell ⟨w.heap.size + 1, k * 2, none⟩ (.string (N k))).setCell ⟨w.heap.size + 1, k * 2 + 1, none⟩ (.string (G k))).drew.cell? ⟨w.heap.size + 1, j, none⟩ =
      if j = k * 2 + 1 then some (.string (G k)) else if j = k * 2 then some (.string (N k)) else wr.cell? ⟨w.heap.size + 1, j, none⟩ := by
    intro j
    by_cases h1 : j = k * 2 + 1
    · subst h1; simp [go_sem, r1]
    · by_cases h0 : j = k * 2
      · subst h0; simp [go_sem, r0]
      · simp [go_sem, h0, h1]
  refine ⟨((hb.setCell (by simp) _).setCell (by simp) _).drew, by simpa [World.setCell] using hs, fun o => ?_, fun i hi => ?_, fun j hj => ?_, fun o => ?_⟩
  · have e : ((wr.setCell ⟨w.heap.size + 1, k * 2, none⟩ (.string (N k))).setCell ⟨w.heap.size + 1, k * 2 + 1, none⟩ (.string (G k))).drew.cell? ⟨w.heap.size, o, none⟩ = wr.cell? ⟨w.heap.size, o, none⟩ := by simp [go_sem]
    rw [e]; exact ha o
  · rw [hc, hc]
    by_cases e : i = k
    · subst e; simp
    · have h1 : i * 2 ≠ k * 2 + 1 := by omega
      have h2 : i * 2 ≠ k * 2 := by omega
      have h3 : i * 2 + 1 ≠ k * 2 + 1 := by omega
      have h4 : i * 2 + 1 ≠ k * 2 := by omega
      rw [if_neg h1, if_neg h2, if_neg h3, if_neg h4]
      exact hd i (by omega)
  · rw [hc]
    split
    · exact ⟨_, rfl⟩
    · split
      · exact ⟨_, rfl⟩
      · exact hr j hj
  · show ((wr.setCell ⟨w.heap.size + 1, k * 2, none⟩ (.string (N k))).setCell ⟨w.heap.size + 1, k * 2 + 1, none⟩ (.string (G k))).frozen? ⟨w.heap.size + 1, o, none⟩ = false
    rw [World.frozen?_setCell, World.frozen?_setCell]; exact hf o

set_option maxHeartbeats 400000 in
theorem law_some (F : Interp) (nm st : ByteArray) (b off len cap : Nat) (N G : Nat → ByteArray) (w : World) (hF : F.answers w.tape) (hl0 : 0 < len) (hlen : len ≤ 1048576) (hb : b < w.heap.size)
    (hk : ∀ i, i < len → w.cell? ⟨b, off + i * 2, none⟩ = some (.string (N i)) ∧ w.cell? ⟨b, off + i * 2 + 1, none⟩ = some (.string (G i))) :
    Calls Ybaf.prog 3 #[.string nm, .string st, .slice (some ⟨b, off, none⟩) len cap] w fun e w' => e = .returned (.bool true) ∧ Below w.heap.size w w' := by
  have hmk := make34 len hlen
  have hd : decide ((1048576 : Int) < (len : Int)) = false := by simp; omega
  go_enter Ybaf.func3, Ybaf.ntmps3
  go_wp2
  go_loopw [9] (fun i wr => ∃ k : Nat, k ≤ len ∧ i = .int .i64 k ∧ Fill nm st len N G w k wr) (fun i _ => len - (intOf i).toNat)
  case atStart => exact ⟨0, Nat.zero_le _, rfl, fill_start nm st len N G w⟩
  case round =>
    obtain ⟨k, hk1, rfl, HF⟩ := hrel
    by_cases hlt : k < len
    · have c0 : wr.cell? ⟨b, off + k * 2, none⟩ = some (.string (N k)) := (HF.bel.cell (p := ⟨b, off + k * 2, none⟩) hb).trans (hk k hlt).1
      have c1 : wr.cell? ⟨b, off + k * 2 + 1, none⟩ = some (.string (G k)) := (HF.bel.cell (p := ⟨b, off + k * 2 + 1, none⟩) hb).trans (hk k hlt).2
      have f0 := HF.fz (k * 2)
      have f1 := HF.fz (k * 2 + 1)
      obtain ⟨o0, r0⟩ := HF.room (k * 2) (by omega)
      obtain ⟨o1, r1⟩ := HF.room (k * 2 + 1) (by omega)
      generalize hN : N k = nk at c0
      generalize hG : G k = gk at c1
      have HN : Hid (N k = nk) := hN
      have HG : Hid (G k = gk) := hG
      clear hN hG
      have hli : (k : Int) < (len : Int) := by omega
      have hbw : b ≠ w.heap.size + 1 := by omega
      go_wp2
      go_region
      go_wp2
      go_light
      refine ⟨⟨k + 1, by omega, by go_num, ?_⟩, by simp [intOf]; omega⟩
      rw [← HN.out, ← HG.out]
      exact fill_step HF hlt
    · have hkl : k = len := by omega
      subst hkl
      have ha := HF.app
      have hsz := HF.size
      have hn1 : w.heap.size ≠ wr.heap.size := by omega
      have hn2 : w.heap.size < wr.heap.size := by omega
      have hn3 : w.heap.size + 1 < wr.heap.size := by omega
      clear hsz
      have hF0 : F.answers wr.tape := by rw [HF.bel.tape]; exact hF
      go_wp2_with fail
      refine (warn_any F nm st (w.heap.size + 1) k wr.heap.size N G _ ?_ hlen ?_ ?_ ?_ ?_ ?_ ?_).mono ?_
      · exact hF0
      · simp
      · simp; omega
      · omega
      · simp [go_sem]
      · exact Joins.unfrozen_of_block (MapKept.heap_alloc wr _).1 0
      · intro i hi
        have e : ∀ o, (wr.alloc (.cells #[.int .i64 0] 3)).cell? ⟨w.heap.size + 1, o, none⟩ = wr.cell? ⟨w.heap.size + 1, o, none⟩ := fun o => (Joins.below_alloc1 wr _).cell (p := ⟨w.heap.size + 1, o, none⟩) hn3
        rw [e, e]
        exact HF.done i hi
      rintro e w2 ⟨rfl, hcnt, hBut⟩
      have kk : ∀ i, i < k → w2.cell? ⟨w.heap.size + 1, i * 2, none⟩ = some (.string (N i)) ∧ w2.cell? ⟨w.heap.size + 1, i * 2 + 1, none⟩ = some (.string (G i)) := by
        intro i hi
        have e : ∀ o, w2.cell? ⟨w.heap.size + 1, o, none⟩ = wr.cell? ⟨w.heap.size + 1, o, none⟩ := fun o => (hBut.cell (b := w.heap.size + 1) (by simp; omega) (by omega) o).trans ((Joins.below_alloc1 wr _).cell (p := ⟨w.heap.size + 1, o, none⟩) hn3)
        rw [e, e]
        exact HF.done i hi
      have hB2 : Below w.heap.size w w2 :=
        HF.bel.trans ⟨hBut.os, hBut.tape, hBut.output, by have := hBut.size; simp at this; omega, fun i hi => (hBut.block i (by simp; omega) (by omega)).trans (Below.heap_alloc _ _ _ (by omega))⟩
      have ks2 : ∀ i, i < k → w2.cell? ⟨b, off + i * 2, none⟩ = some (.string (N i)) ∧ w2.cell? ⟨b, off + i * 2 + 1, none⟩ = some (.string (G i)) := by
        intro i hi
        rw [hB2.cell (p := ⟨b, off + i * 2, none⟩) hb, hB2.cell (p := ⟨b, off + i * 2 + 1, none⟩) hb]
        exact hk i hi
      clear hBut HF ha hF0
      have hee : ((k : Int) != (k : Int)) = false := by simp
      go_wp2
      go_loopw [12] (fun i wq => ∃ j m : Nat, j ≤ k ∧ i = .int .i64 j ∧ wq = w2.drewN m) (fun i _ => k - (intOf i).toNat)
      case atStart => exact ⟨0, 0, Nat.zero_le _, rfl, rfl⟩
      case round =>
        obtain ⟨j, m, hj, rfl, rfl⟩ := hrel
        by_cases hjl : j < k
        · obtain ⟨a0, a1⟩ := kk j hjl
          obtain ⟨b0, b1⟩ := ks2 j hjl
          have hji : (j : Int) < (k : Int) := by omega
          go_wp2
          go_quiet (fail)
          go_wp2
          go_light
          exact ⟨⟨j + 1, m + nq, by omega, by go_num, rfl⟩, by simp [intOf]; omega⟩
        · have hjk : j = k := by omega
          subst hjk
          go_wp2
          go_ret
          exact ⟨rfl, below_drewN hB2 _⟩
set_option maxHeartbeats 400000 in
theorem law_nil (nm st : ByteArray) (w : World) :
    Calls Ybaf.prog 3 #[.string nm, .string st, .slice none 0 0] w fun e w' => e = .returned (.bool true) ∧ Below w.heap.size w w' := by
  go_enter Ybaf.func3, Ybaf.ntmps3
  go_wp2
  refine wp_loop_rounds 1 ?_
  rw [rounds_succ]
  go_wp2_with fail
  refine (warn_none nm st _ _ _ _).mono ?_
  rintro e w2 ⟨rfl, hb⟩
  obtain ⟨hc, _⟩ := bcell hb
  have hB : Below w.heap.size w w2 := (Joins.below_alloc2 w _ _).trans (hb.mono (by simp; try omega))
  clear hb
  go_wp2
  refine wp_loop_rounds 1 ?_
  rw [rounds_succ]
  go_wp2
  go_ret
  exact ⟨rfl, hB⟩

set_option maxHeartbeats 400000 in
theorem law_empty (nm st : ByteArray) (a : Addr) (cap : Nat) (w : World) :
    Calls Ybaf.prog 3 #[.string nm, .string st, .slice (some a) 0 cap] w fun e w' => e = .returned (.bool true) ∧ Below w.heap.size w w' := by
  have hmk : ∀ w, (Instr.makeSlice 34 (.int .i64 0) (.int .i64 0)).run Ybaf.prog w = .ok (.slice (some ⟨w.heap.size, 0, none⟩) 0 0) (w.alloc (.cells (blank2 0) 38)) := fun w => make34 0 (by omega) w
  go_enter Ybaf.func3, Ybaf.ntmps3
  go_wp2
  refine wp_loop_rounds 1 ?_
  rw [rounds_succ]
  go_wp2_with fail
  refine (warn_none nm st _ _ _ _).mono ?_
  rintro e w2 ⟨rfl, hb⟩
  obtain ⟨hc, _⟩ := bcell hb
  have hB : Below w.heap.size w w2 := (Joins.below_alloc3 w _ _ _).trans (hb.mono (by simp; try omega))
  clear hb
  go_wp2
  refine wp_loop_rounds 1 ?_
  rw [rounds_succ]
  go_wp2
  go_ret
  exact ⟨rfl, hB⟩

end Go.Proofs.YbulkdvdwFmt
