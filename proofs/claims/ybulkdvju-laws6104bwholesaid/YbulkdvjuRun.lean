import Derived.Test.YbulkdvjuRows
import Derived.WalkKit
import Derived.WalkSpells
import Derived.WalkLawsBesides
import Derived.Deep.Light
import Derived.BigQuiet
import Derived.Lib.SmallJoins
import Derived.RegionTactic
import Derived.BigRegion
namespace Go.Proofs.Ybulkdvju
open Go.RowKit

/-- A float is stored like every other one-cell value. -/
theorem run_store_float {P : Program} (w : World) (a : Addr) (m : Mode) (k : FloatKind) (b : Nat) : (store a (.float k b) m).run P w = stored P w a (.float k b) m := run_store P w a _ m rfl
attribute [local go_sem] run_store_float

theorem heap_alloc_two (w : World) (a b : Obj) : ((w.alloc a).alloc b).heap[w.heap.size + 1]? = some b := by
  have := (MapKept.heap_alloc (w.alloc a) b).1
  simpa using this

/-- The jobs of one report in memory. -/
structure JobsAt (jb n : Nat) (NM : Nat → ByteArray) (ST : Nat → Nat) (wt : Int) (w : World) : Prop where
  c0 : ∀ k, k < n → w.cell? ⟨jb, k * 12, none⟩ = some (.string (NM k))
  c1 : ∀ k, k < n → w.cell? ⟨jb, k * 12 + 1, none⟩ = some (.float .f64 (ST k))
  c2 : ∀ k, k < n → w.cell? ⟨jb, k * 12 + 2, none⟩ = some (.string ⟨#[]⟩)
  c3 : ∀ k, k < n → w.cell? ⟨jb, k * 12 + 3, none⟩ = some (.float .f64 0)
  c4 : ∀ k, k < n → w.cell? ⟨jb, k * 12 + 4, none⟩ = some (.float .f64 0)
  c5 : ∀ k, k < n → w.cell? ⟨jb, k * 12 + 5, none⟩ = some (.float .f64 0)
  c6 : ∀ k, k < n → w.cell? ⟨jb, k * 12 + 6, none⟩ = some (.float .f64 0)
  c7 : ∀ k, k < n → w.cell? ⟨jb, k * 12 + 7, none⟩ = some (.float .f64 0)
  c8 : ∀ k, k < n → w.cell? ⟨jb, k * 12 + 8, none⟩ = some (.int .i64 0)
  c9 : ∀ k, k < n → w.cell? ⟨jb, k * 12 + 9, none⟩ = some (.float .f64 0)
  c10 : ∀ k, k < n → w.cell? ⟨jb, k * 12 + 10, none⟩ = some (.int .i64 wt)
  c11 : ∀ k, k < n → w.cell? ⟨jb, k * 12 + 11, none⟩ = some (.pointer none)

theorem JobsAt.keep {jb n : Nat} {NM : Nat → ByteArray} {ST : Nat → Nat} {wt : Int} {w w' : World} (h : JobsAt jb n NM ST wt w) (hb : w'.heap[jb]? = w.heap[jb]?) : JobsAt jb n NM ST wt w' := by
  obtain ⟨h0, h1, h2, h3, h4, h5, h6, h7, h8, h9, h10, h11⟩ := h
  have e : ∀ o, w'.cell? ⟨jb, o, none⟩ = w.cell? ⟨jb, o, none⟩ := fun o => World.cell?_of_block (w := w) hb
  exact ⟨fun k hk => (e _).trans (h0 k hk), fun k hk => (e _).trans (h1 k hk), fun k hk => (e _).trans (h2 k hk), fun k hk => (e _).trans (h3 k hk), fun k hk => (e _).trans (h4 k hk), fun k hk => (e _).trans (h5 k hk), fun k hk => (e _).trans (h6 k hk), fun k hk => (e _).trans (h7 k hk), fun k hk => (e _).trans (h8 k hk), fun k hk => (e _).trans (h9 k hk), fun k hk => (e _).trans (h10 k hk), fun k hk => (e _).trans (h11 k hk)⟩

/-- The record of a job, as a value. -/
def rjV (nm : ByteArray) (st : Nat) (wt : Int) : Value := .agg #[.string nm, .float .f64 st, .string ⟨#[]⟩, .float .f64 0, .float .f64 0, .float .f64 0, .float .f64 0, .float .f64 0, .int .i64 0, .float .f64 0, .int .i64 wt, .pointer none]
def zeroJ : Value := .agg #[.string ⟨#[]⟩, .float .f64 0, .string ⟨#[]⟩, .float .f64 0, .float .f64 0, .float .f64 0, .float .f64 0, .float .f64 0, .int .i64 0, .float .f64 0, .int .i64 0, .pointer none]

/-- What Running answers. -/
def RunsTo (NM : Nat → ByteArray) (ST : Nat → Nat) (wt : Int) (n : Nat) (name : ByteArray) (v : Value) (ok : Bool) : Prop :=
  (ok = true ∧ ∃ k, k < n ∧ (NM k).toList = name.toList ∧ (∀ i, i < k → (NM i).toList ≠ name.toList) ∧ v = rjV (NM k) (ST k) wt) ∨ (ok = false ∧ v = zeroJ ∧ ∀ i, i < n → (NM i).toList ≠ name.toList)

set_option maxHeartbeats 400000 in
theorem running_any (jb n cap : Nat) (NM : Nat → ByteArray) (ST : Nat → Nat) (wt : Int) (name : ByteArray) (w : World) (hn : n ≤ 1048576) (hjb : jb < w.heap.size) (HJ : JobsAt jb n NM ST wt w) :
    Calls Yba.prog 14 #[.agg #[.string ⟨#[]⟩, .float .f64 0, .float .f64 0, .slice (some ⟨jb, 0, none⟩) n cap, .slice none 0 0, .slice none 0 0], .string name] w fun e w' => ∃ v ok, e = .returned (.tuple #[v, .bool ok]) ∧ RunsTo NM ST wt n name v ok ∧ Below w.heap.size w w' := by
  go_enter Yba.func14, Yba.ntmps14
  go_wp2
  go_loopw [11] (fun i wr => ∃ k : Nat, k ≤ n ∧ i = .int .i64 k ∧ (∀ j, j < k → (NM j).toList ≠ name.toList) ∧ Below w.heap.size w wr ∧ w.heap.size + 1 < wr.heap.size ∧ wr.heap[w.heap.size + 1]? = some (.cells #[.string ⟨#[]⟩, .float .f64 0, .string ⟨#[]⟩, .float .f64 0, .float .f64 0, .float .f64 0, .float .f64 0, .float .f64 0, .int .i64 0, .float .f64 0, .int .i64 0, .pointer none] 81 (0, 0))) (fun i _ => n - (intOf i).toNat)
  case atStart => exact ⟨0, Nat.zero_le _, rfl, fun j hj => absurd hj (Nat.not_lt_zero _), Joins.below_alloc2 _ _ _, by simp, heap_alloc_two w _ _⟩
  case round =>
    obtain ⟨k, hk1, rfl, HN, HB, hsz, hres⟩ := hrel
    by_cases hlt : k < n
    · have HJ2 := HJ.keep (HB.block jb hjb)
      have c0 := HJ2.c0 k hlt
      have c1 := HJ2.c1 k hlt
      have c2 := HJ2.c2 k hlt
      have c3 := HJ2.c3 k hlt
      have c4 := HJ2.c4 k hlt
      have c5 := HJ2.c5 k hlt
      have c6 := HJ2.c6 k hlt
      have c7 := HJ2.c7 k hlt
      have c8 := HJ2.c8 k hlt
      have c9 := HJ2.c9 k hlt
      have c10 := HJ2.c10 k hlt
      have c11 := HJ2.c11 k hlt
      clear HJ2
      have hli : (k : Int) < (n : Int) := by omega
      have hrc : ∀ o, wr.cell? ⟨w.heap.size + 1, o, none⟩ = (#[.string ⟨#[]⟩, .float .f64 0, .string ⟨#[]⟩, .float .f64 0, .float .f64 0, .float .f64 0, .float .f64 0, .float .f64 0, .int .i64 0, .float .f64 0, .int .i64 0, .pointer none] : Array Value)[o]? := fun o => Joins.cell_of_block hres o
      have hrf : ∀ o, wr.frozen? ⟨w.heap.size + 1, o, none⟩ = false := fun o => Joins.unfrozen_of_block hres o
      cases heq : ((NM k).toList == name.toList)
      · go_wp2
        go_light
        refine ⟨⟨k + 1, by omega, by go_num, ?_, HB.alloc (by omega) _, by simp; omega, ?_⟩, by simp [intOf]; omega⟩
        · intro j hj
          by_cases e : j = k
          · subst e; simpa using heq
          · exact HN j (by omega)
        · rw [Below.heap_alloc _ _ _ hsz]; exact hres
      · have hfin : RunsTo NM ST wt n name (rjV (NM k) (ST k) wt) true := .inl ⟨rfl, k, hlt, by simpa using heq, HN, rfl⟩
        have hne : w.heap.size + 1 ≠ wr.heap.size := by omega
        have hne2 : w.heap.size + 1 < wr.heap.size := hsz
        go_wp2
        refine bodyPost_ret (v := .tuple #[.agg #[.string (NM k), .float .f64 (ST k), .string ⟨#[]⟩, .float .f64 0, .float .f64 0, .float .f64 0, .float .f64 0, .float .f64 0, .int .i64 0, .float .f64 0, .int .i64 wt, .pointer none], .bool true]) ?_ rfl ⟨_, _, rfl, hfin, ?_⟩
        · simp [results, Yba.results14, go_sem, hrc, hne2]
        · go_light
          refine Below.alloc ?_ (by simp [World.setCell]; omega) _
          iterate 12 (refine Below.setCell ?_ (by simp) _)
          exact HB
    · have hkn : k = n := by omega
      subst hkn
      have hrc : ∀ o, wr.cell? ⟨w.heap.size + 1, o, none⟩ = (#[.string ⟨#[]⟩, .float .f64 0, .string ⟨#[]⟩, .float .f64 0, .float .f64 0, .float .f64 0, .float .f64 0, .float .f64 0, .int .i64 0, .float .f64 0, .int .i64 0, .pointer none] : Array Value)[o]? := fun o => Joins.cell_of_block hres o
      have hrf : ∀ o, wr.frozen? ⟨w.heap.size + 1, o, none⟩ = false := fun o => Joins.unfrozen_of_block hres o
      have hfin : RunsTo NM ST wt k name zeroJ false := .inr ⟨rfl, rfl, HN⟩
      go_wp2
      refine bodyPost_ret (v := .tuple #[.agg #[.string ⟨#[]⟩, .float .f64 0, .string ⟨#[]⟩, .float .f64 0, .float .f64 0, .float .f64 0, .float .f64 0, .float .f64 0, .int .i64 0, .float .f64 0, .int .i64 0, .pointer none], .bool false]) ?_ rfl ⟨_, _, rfl, hfin, ?_⟩
      · simp [results, Yba.results14, go_sem, hrc]
      · go_light
        iterate 12 (refine Below.setCell ?_ (by simp) _)
        exact HB

end Go.Proofs.Ybulkdvju
