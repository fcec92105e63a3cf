import Derived.Test.YbulkdvjuTk
import Derived.Deep.RegionLaw
import Derived.Deep.Upon
import Derived.Lib.SliceRun
namespace Go.Proofs.Ybulkdvju
open Go.RowKit
attribute [local go_sem] run_store_float

def tkZ : List Value := [.string ⟨#[]⟩, .float .f64 0, .pointer none, .pointer none, .float .f64 0, .float .f64 0, .float .f64 0, .float .f64 0, .string ⟨#[]⟩, .float .f64 0, .int .i64 0, .float .f64 0, .int .i64 0, .float .f64 0, .pointer none]
theorem info50 : (Yba.prog.info? 50).map (fun i => (i.zero, i.size, i.bytes)) = some (some (.agg #[.string ⟨#[]⟩, .float .f64 0, .pointer none, .pointer none, .float .f64 0, .float .f64 0, .float .f64 0, .float .f64 0, .string ⟨#[]⟩, .float .f64 0, .int .i64 0, .float .f64 0, .int .i64 0, .float .f64 0, .pointer none]), 15, 136) := by kernel_rfl

/-- 'clear' of one take-up. -/
theorem clear_one (g o c : Nat) (ty : TypeId) (w : World) (hc : ∀ j, j < 15 → (w.cell? ⟨g, o + j, none⟩).isSome = true) (hf : ∀ j, j < 15 → w.frozen? ⟨g, o + j, none⟩ = false) :
    (Builtin.clear_ #[31] ty #[.slice (some ⟨g, o, none⟩) 1 c]).run Yba.prog w = .ok (.tuple #[]) (w.setCells g o tkZ) := by
  have hzc : (Builtin.zeroCells (Value.cells (.agg #[.string ⟨#[]⟩, .float .f64 0, .pointer none, .pointer none, .float .f64 0, .float .f64 0, .float .f64 0, .float .f64 0, .string ⟨#[]⟩, .float .f64 0, .int .i64 0, .float .f64 0, .int .i64 0, .float .f64 0, .pointer none])) 1).toList = tkZ := by
    kernel_rfl
  have h1 : ∀ v ∈ tkZ, v.oneCell' = true := by
    intro u hu
    simp only [tkZ, List.mem_cons, List.not_mem_nil, or_false] at hu
    rcases hu with rfl | rfl | rfl | rfl | rfl | rfl | rfl | rfl | rfl | rfl | rfl | rfl | rfl | rfl | rfl <;> rfl
  have hst := run_storeCells_cells (P := Yba.prog) g o tkZ 0 w (by simpa [tkZ] using hc) (by simpa [tkZ] using hf) h1
  simp only [Nat.add_zero] at hst
  simp [Builtin.clear_, run_underlying Yba.underlying31, Yba.zeroValue50, hzc, hst]

theorem grown_setCells (g : Nat) : ∀ (vs : List Value) (o : Nat) (w : World), w.grownBy (w.setCells g o vs) (some g)
  | [], _, w => ⟨rfl, rfl, rfl, Nat.le_refl _, fun _ _ _ => rfl⟩
  | v :: r, o, w => by
    have h := grown_setCells g r (o + 1) (w.setCell ⟨g, o, none⟩ v)
    have hs : (w.setCell ⟨g, o, none⟩ v).heap.size = w.heap.size := by simp [World.setCell]
    exact ⟨h.os.trans rfl, h.tape.trans rfl, h.output.trans rfl, by have := h.size; rw [hs] at this; exact this, fun k hk hne => (h.block k (by rw [hs]; exact hk) hne).trans (Below.heap_setCell _ _ _ _ (fun e => hne (by rw [e])))⟩

set_option maxRecDepth 100000 in
set_option maxHeartbeats 1000000 in
theorem delete_any (g cap n k : Nat) (cur : Array Value) (xs : List Value) (w : World) (hblk : w.heap[g]? = some (.cells cur 50 (0, 0))) (hsz : cur.size = cap * 15) (hxs : cur.toList.take (n * 15) = xs) (h1c : ∀ u ∈ xs, u.oneCell' = true) (hk : k < n) (hn : n ≤ cap) (hm : cap ≤ maxLen) :
    Calls Yba.prog 13 #[.slice (some ⟨g, 0, none⟩) n cap, .int .i64 (k : Int), .int .i64 ((k : Int) + 1)] w fun e w' => e = .returned (.slice (some ⟨g, 0, none⟩) (n - 1) cap) ∧ w.grownBy w' (some g) ∧
      (∀ j, j < k * 15 → w'.cell? ⟨g, j, none⟩ = w.cell? ⟨g, j, none⟩) ∧ (∀ j, k * 15 ≤ j → j < (n - 1) * 15 → w'.cell? ⟨g, j, none⟩ = w.cell? ⟨g, j + 15, none⟩) := by
  have hg : g < w.heap.size := by
    rcases Nat.lt_or_ge g w.heap.size with h | h
    · exact h
    · rw [Array.getElem?_eq_none h] at hblk; cases hblk
  obtain ⟨i0, hi0, hz0, hz1, hz2⟩ := info_parts info50
  have hcell : ∀ o, w.cell? ⟨g, o, none⟩ = cur[o]? := fun o => Joins.cell_of_block hblk o
  have hfz : ∀ o, w.frozen? ⟨g, o, none⟩ = false := fun o => Joins.unfrozen_of_block hblk o
  obtain ⟨news, hnews⟩ : ∃ news, news = (cur.toList.take (n * 15)).drop ((k + 1) * 15) := ⟨_, rfl⟩
  have hlen : news.length = (n - (k + 1)) * 15 := by rw [hnews]; simp; omega
  have hget : ∀ t, t < (n - (k + 1)) * 15 → news[t]? = cur[(k + 1) * 15 + t]? := by
    intro t ht
    rw [hnews, List.getElem?_drop, List.getElem?_take, if_pos (by omega), Array.getElem?_toList]
  obtain ⟨A, hA, hsrc⟩ : ∃ A : Addr, (if cap = k + 1 then some (⟨g, 0, none⟩ : Addr) else some ⟨g, (k + 1) * 15, none⟩) = some A ∧ Hid (∀ t u, news[t]? = some u → w.drew.cell? (A.add t) = some u) := by
    by_cases h : cap = k + 1
    · refine ⟨⟨g, 0, none⟩, by simp [h], fun t u hu => ?_⟩
      have h0 : news.length = 0 := by rw [hlen]; omega
      rw [List.length_eq_zero_iff.1 h0] at hu
      simp at hu
    · refine ⟨⟨g, (k + 1) * 15, none⟩, by simp [h], fun t u hu => ?_⟩
      have ht : t < (n - (k + 1)) * 15 := by
        have := (List.getElem?_eq_some_iff.1 hu).1
        rwa [hlen] at this
      rw [hget t ht] at hu
      rw [Addr.add_lit]
      exact (hcell _).trans hu
  have s1 : Hid (news.length = (n - (k + 1)) * 15) := hlen
  have s2 : Hid (∀ u ∈ news, u.oneCell' = true) := by
    intro u hu
    rw [hnews] at hu
    rw [hxs] at hu
    exact h1c u (List.mem_of_mem_drop hu)
  have s3 : Hid (∀ t, t < news.length → (w.drew.cell? ⟨g, 0 + k * 15 + t, none⟩).isSome = true ∧ w.drew.frozen? ⟨g, 0 + k * 15 + t, none⟩ = false) := by
    intro t ht
    rw [hlen] at ht
    refine ⟨?_, hfz _⟩
    show (w.cell? _).isSome = true
    rw [hcell, Array.getElem?_eq_getElem (by omega)]
    rfl
  obtain ⟨W1, hW1⟩ : ∃ W1, W1 = w.drew.setCells g (0 + k * 15) news := ⟨_, rfl⟩
  have hcl : ∀ ty c, (Builtin.clear_ #[31] ty #[.slice (some ⟨g, (n - 1) * 15, none⟩) 1 c]).run Yba.prog W1 = .ok (.tuple #[]) (W1.setCells g ((n - 1) * 15) tkZ) := by
    intro ty c
    refine clear_one g _ c ty W1 (fun j hj => ?_) (fun j hj => ?_)
    · rw [hW1]
      refine World.isSome_setCells g news _ _ _ ?_
      show (w.cell? _).isSome = true
      rw [hcell, Array.getElem?_eq_getElem (by omega)]
      rfl
    · rw [hW1, World.frozen?_setCells]
      exact hfz _
  have hW : Hid (W1 = w.drew.setCells g (0 + k * 15) news) := hW1
  have HC : Hid (∀ o, w.cell? ⟨g, o, none⟩ = cur[o]?) := hcell
  have HG : Hid (∀ t, t < (n - (k + 1)) * 15 → news[t]? = cur[(k + 1) * 15 + t]?) := hget
  have hic : k ≤ cap := by omega
  have hjc : k + 1 ≤ cap := by omega
  have hq1 : (0 : Int) ≤ (k : Int) + 1 := by omega
  have hq2 : (k : Int) + 1 ≤ (n : Int) := by omega
  have e1 : k + (n - (k + 1)) = n - 1 := by omega
  have e2 : n - (n - 1) = 1 := by omega
  have hm' : cap ≤ 9223372036854775807 := hm
  clear hm hW1 hblk hfz hcell hget hnews hlen
  go_enter Yba.func13, Yba.ntmps13
  go_wp2_with fail
  go_region_law (refine step_append_room rfl (.tmp 22) (.tmp 25) 31 rfl 50 i0 15 Yba.underlying31 hi0 hz1 g 0 k cap (by simp [Act.eval, Act.put]) A (n - (k + 1)) (cap - (k + 1)) news (by simp [Act.eval, Act.put]) s1.out hsrc.out s2.out (by omega) s3.out ?_; rw [← hW.out])
  go_wp2
  go_ret
  have hlen := s1.out
  refine ⟨rfl, ?_, fun j hj => ?_, fun j hj1 hj2 => ?_⟩
  · have h1 : w.drew.grownBy W1 (some g) := by rw [hW.out]; exact grown_setCells g _ _ _
    have h2 := grown_setCells g tkZ ((n - 1) * 15) W1
    exact ⟨h2.os.trans h1.os, h2.tape.trans h1.tape, h2.output.trans h1.output, Nat.le_trans h1.size h2.size, fun i hi hne => (h2.block i (Nat.lt_of_lt_of_le hi h1.size) hne).trans (h1.block i hi hne)⟩
  · rw [World.cell?_setCells_out g _ _ _ _ (fun _ _ => .inl (by show j < (n - 1) * 15; omega)), hW.out, World.cell?_setCells_out g _ _ _ _ (fun _ _ => .inl (by show j < 0 + k * 15; omega))]
    rfl
  · rw [World.cell?_setCells_out g _ _ _ _ (fun _ _ => .inl (by show j < (n - 1) * 15; omega)), hW.out]
    have ht : j - k * 15 < news.length := by omega
    have := World.cell?_setCells_in g news (0 + k * 15) w.drew (fun t ht => (s3.out t ht).1) (j - k * 15) ht
    rw [show 0 + k * 15 + (j - k * 15) = j by omega] at this
    rw [this, HC.out, ← List.getElem?_eq_getElem ht, HG.out _ (by omega)]
    congr 1
    omega

end Go.Proofs.Ybulkdvju
