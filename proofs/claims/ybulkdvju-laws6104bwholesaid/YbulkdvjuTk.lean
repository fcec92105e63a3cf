import Derived.Test.YbulkdvjuRun
import Derived.Deep.RegionHeld3
import Derived.Deep.AppendLies
namespace Go.Proofs.Ybulkdvju
open Go.RowKit
attribute [local go_sem] run_store_float

/-- math.Float64bits: the word itself. -/
theorem fbits7 (b : Nat) (w : World) : (callFunc 11 #[.float .f64 b]).run Yba.prog w = .ok (.value (.int .u64 (b : Int))) w := by
  rw [run_callFunc_extern (e := Extern.MathFloatBits.float64bits) Yba.func11 (by kernel_rfl) (by kernel_rfl) (by kernel_rfl) (by kernel_rfl)]
  rfl

/-- The name and the container that a number picks. -/
def nmA (c : Int) : ByteArray := if c % 3 = 0 then ⟨#[97]⟩ else if c % 3 = 1 then ⟨#[98]⟩ else ⟨#[99]⟩
def ctA (c : Int) : ByteArray := if c % 3 = 0 then ⟨#[99, 48]⟩ else if c % 3 = 1 then ⟨#[99, 49]⟩ else ⟨#[99, 50]⟩

theorem name_any (c : Int) (w : World) (h0 : 0 ≤ c) (h1 : c ≤ 255) : Calls Yba.prog 7 #[.int .u8 c] w fun e w' => e = .returned (.string (nmA c)) ∧ w' = w := by
  unfold nmA
  have hc : c % 3 = 0 ∨ c % 3 = 1 ∨ c % 3 = 2 := by omega
  rcases hc with h | h | h
  · have t0 : (c % 3 == 0) = true := by simpa using h
    go_enter Yba.func7, Yba.ntmps7
    go_wp2
    go_ret
    exact ⟨rfl, rfl⟩
  · have t0 : (c % 3 == 0) = false := by simp; omega
    have t1 : (c % 3 == 1) = true := by simpa using h
    go_enter Yba.func7, Yba.ntmps7
    go_wp2
    go_ret
    exact ⟨rfl, rfl⟩
  · have t0 : (c % 3 == 0) = false := by simp; omega
    have t1 : (c % 3 == 1) = false := by simp; omega
    go_enter Yba.func7, Yba.ntmps7
    go_wp2
    go_ret
    exact ⟨rfl, rfl⟩

theorem cont_any (c : Int) (w : World) (h0 : 0 ≤ c) (h1 : c ≤ 255) : Calls Yba.prog 8 #[.int .u8 c] w fun e w' => e = .returned (.string (ctA c)) ∧ w' = w := by
  unfold ctA
  have hc : c % 3 = 0 ∨ c % 3 = 1 ∨ c % 3 = 2 := by omega
  rcases hc with h | h | h
  · have t0 : (c % 3 == 0) = true := by simpa using h
    go_enter Yba.func8, Yba.ntmps8
    go_wp2
    go_ret
    exact ⟨rfl, rfl⟩
  · have t0 : (c % 3 == 0) = false := by simp; omega
    have t1 : (c % 3 == 1) = true := by simpa using h
    go_enter Yba.func8, Yba.ntmps8
    go_wp2
    go_ret
    exact ⟨rfl, rfl⟩
  · have t0 : (c % 3 == 0) = false := by simp; omega
    have t1 : (c % 3 == 1) = false := by simp; omega
    go_enter Yba.func8, Yba.ntmps8
    go_wp2
    go_ret
    exact ⟨rfl, rfl⟩

/-- A take-up's cells. -/
def tkL (nm : ByteArray) (t : Nat) (cp : Option Addr) (m : Nat) (lf : Option Addr) : List Value :=
  [.string nm, .float .f64 t, .pointer cp, .pointer none, .float .f64 0, .float .f64 0, .float .f64 0, .float .f64 0, .string ⟨#[]⟩, .float .f64 0, .int .i64 0, .float .f64 0, .int .i64 0, .float .f64 m, .pointer lf]

theorem heap_alloc_last (w : World) (o : Obj) (n : Nat) (h : w.heap.size = n) : (w.alloc o).drew.heap[n]? = some o := by
  subst h
  exact (MapKept.heap_alloc w o).1

set_option maxRecDepth 100000 in
theorem build_any (j c : Int) (t m : Nat) (w : World) (h0 : 0 ≤ j) (h1 : j ≤ 255) (g0 : 0 ≤ c) (g1 : c ≤ 255) :
    Calls Yba.prog 6 #[.agg #[.int .u8 j, .int .u8 c, .float .f64 t, .float .f64 m]] w fun e w' => ∃ cb, e = .returned (.agg #[.string (nmA j), .float .f64 t, .pointer (some ⟨cb, 0, none⟩), .pointer none, .float .f64 0, .float .f64 0, .float .f64 0, .float .f64 0, .string ⟨#[]⟩, .float .f64 0, .int .i64 0, .float .f64 0, .int .i64 0, .float .f64 m, .pointer none]) ∧
      w.heap.size ≤ cb ∧ cb < w'.heap.size ∧ w'.heap[cb]? = some (.cells #[.string (ctA c)] 9 (0, 0)) ∧ Below w.heap.size w w' := by
  go_enter Yba.func6, Yba.ntmps6
  go_wp2_with fail
  refine (cont_any c _ g0 g1).mono ?_
  rintro e w' ⟨rfl, rfl⟩
  go_wp2_with fail
  go_region_held3 (fun w' => w'.cell? ⟨w.heap.size, 0, none⟩ = some (.int .u8 j) ∧ w'.cell? ⟨w.heap.size, 2, none⟩ = some (.float .f64 t) ∧ w'.cell? ⟨w.heap.size, 3, none⟩ = some (.float .f64 m)) (go_keep)
    (first | (go_at_call 7; refine (name_any _ _ h0 h1).mono ?_; rintro e w' ⟨rfl, rfl⟩))
  all_goals
    go_wp2
    refine bodyPost_ret (v := .agg #[.string (nmA j), .float .f64 t, .pointer (some ⟨w.heap.size + 1 + 1, 0, none⟩), .pointer none, .float .f64 0, .float .f64 0, .float .f64 0, .float .f64 0, .string ⟨#[]⟩, .float .f64 0, .int .i64 0, .float .f64 0, .int .i64 0, .float .f64 m, .pointer none]) (by simp [results, Yba.results6, go_sem]) rfl ⟨_, rfl, by omega, by simp, ?_, (Joins.below_alloc3 _ _ _ _).drew⟩
    exact heap_alloc_last ((w.alloc _).alloc _) _ _ (by simp)

set_option maxRecDepth 100000 in
set_option maxHeartbeats 1000000 in
theorem same_any (nm ct : ByteArray) (t m cb : Nat) (lf : Option Addr) (j c : Int) (w : World) (h0 : 0 ≤ j) (h1 : j ≤ 255) (g0 : 0 ≤ c) (g1 : c ≤ 255) (hn : nm = nmA j) (hc : ct = ctA c) (hcb : cb < w.heap.size) (hcell : w.heap[cb]? = some (.cells #[.string ct] 9 (0, 0))) :
    Calls Yba.prog 10 #[.agg #[.string nm, .float .f64 t, .pointer (some ⟨cb, 0, none⟩), .pointer none, .float .f64 0, .float .f64 0, .float .f64 0, .float .f64 0, .string ⟨#[]⟩, .float .f64 0, .int .i64 0, .float .f64 0, .int .i64 0, .float .f64 m, .pointer lf], .agg #[.int .u8 j, .int .u8 c, .float .f64 t, .float .f64 m]] w
      fun e w' => e = .returned (.bool true) ∧ Below w.heap.size w w' := by
  subst hn hc
  have hfb := fbits7
  have hcc : w.cell? ⟨cb, 0, none⟩ = some (.string (ctA c)) := Joins.cell_of_block hcell 0
  have hne : cb ≠ w.heap.size := by omega
  have hne1 : cb ≠ w.heap.size + 1 := by omega
  clear hcell
  go_enter Yba.func10, Yba.ntmps10
  go_wp2_with fail
  go_region_held3 (fun w' => w'.cell? ⟨w.heap.size, 0, none⟩ = some (.string (nmA j)) ∧ w'.cell? ⟨w.heap.size, 1, none⟩ = some (.float .f64 t) ∧ w'.cell? ⟨w.heap.size, 2, none⟩ = some (.pointer (some ⟨cb, 0, none⟩)) ∧ w'.cell? ⟨w.heap.size, 13, none⟩ = some (.float .f64 m) ∧
      w'.cell? ⟨w.heap.size + 1, 0, none⟩ = some (.int .u8 j) ∧ w'.cell? ⟨w.heap.size + 1, 1, none⟩ = some (.int .u8 c) ∧ w'.cell? ⟨w.heap.size + 1, 2, none⟩ = some (.float .f64 t) ∧ w'.cell? ⟨w.heap.size + 1, 3, none⟩ = some (.float .f64 m) ∧ w'.cell? ⟨cb, 0, none⟩ = some (.string (ctA c))) (go_keep)
    (first | (go_at_call 7; refine (name_any _ _ h0 h1).mono ?_; rintro e w' ⟨rfl, rfl⟩) | (go_at_call 8; refine (cont_any _ _ g0 g1).mono ?_; rintro e w' ⟨rfl, rfl⟩))
  go_wp2_with fail
  go_region_held3 (fun w' => w'.cell? ⟨w.heap.size, 0, none⟩ = some (.string (nmA j)) ∧ w'.cell? ⟨w.heap.size, 1, none⟩ = some (.float .f64 t) ∧ w'.cell? ⟨w.heap.size, 2, none⟩ = some (.pointer (some ⟨cb, 0, none⟩)) ∧ w'.cell? ⟨w.heap.size, 13, none⟩ = some (.float .f64 m) ∧
      w'.cell? ⟨w.heap.size + 1, 0, none⟩ = some (.int .u8 j) ∧ w'.cell? ⟨w.heap.size + 1, 1, none⟩ = some (.int .u8 c) ∧ w'.cell? ⟨w.heap.size + 1, 2, none⟩ = some (.float .f64 t) ∧ w'.cell? ⟨w.heap.size + 1, 3, none⟩ = some (.float .f64 m) ∧ w'.cell? ⟨cb, 0, none⟩ = some (.string (ctA c))) (go_keep)
    (first | (go_at_call 7; refine (name_any _ _ h0 h1).mono ?_; rintro e w' ⟨rfl, rfl⟩) | (go_at_call 8; refine (cont_any _ _ g0 g1).mono ?_; rintro e w' ⟨rfl, rfl⟩))
  go_wp2_with fail
  go_region_held3 (fun w' => w'.cell? ⟨w.heap.size, 0, none⟩ = some (.string (nmA j)) ∧ w'.cell? ⟨w.heap.size, 1, none⟩ = some (.float .f64 t) ∧ w'.cell? ⟨w.heap.size, 2, none⟩ = some (.pointer (some ⟨cb, 0, none⟩)) ∧ w'.cell? ⟨w.heap.size, 13, none⟩ = some (.float .f64 m) ∧
      w'.cell? ⟨w.heap.size + 1, 0, none⟩ = some (.int .u8 j) ∧ w'.cell? ⟨w.heap.size + 1, 1, none⟩ = some (.int .u8 c) ∧ w'.cell? ⟨w.heap.size + 1, 2, none⟩ = some (.float .f64 t) ∧ w'.cell? ⟨w.heap.size + 1, 3, none⟩ = some (.float .f64 m) ∧ w'.cell? ⟨cb, 0, none⟩ = some (.string (ctA c))) (go_keep)
    (first | (go_at_call 7; refine (name_any _ _ h0 h1).mono ?_; rintro e w' ⟨rfl, rfl⟩) | (go_at_call 8; refine (cont_any _ _ g0 g1).mono ?_; rintro e w' ⟨rfl, rfl⟩))
  go_wp2
  go_ret
  exact ⟨rfl, (Joins.below_alloc2 _ _ _).drew.drew.drew⟩

theorem replayer_any (rb : Nat) (w : World) : Calls Yba.prog 5 #[.pointer (some ⟨rb, 0, none⟩)] w fun e w' => ∃ hb v1 v2 v3 v4 v5 v6 v7 v8 v9, e = .returned (.pointer (some ⟨hb, 0, none⟩)) ∧ w.heap.size ≤ hb ∧ hb < w'.heap.size ∧
      w'.heap[hb]? = some (.cells #[.pointer (some ⟨rb, 0, none⟩), v1, v2, v3, v4, v5, v6, v7, v8, v9, .slice none 0 0, .slice none 0 0] 41 (0, 0)) ∧ Below w.heap.size w w' := by
  have hmm := @run_makeMap Yba.prog
  go_enter Yba.func5, Yba.ntmps5
  go_wp2
  go_ret
  refine ⟨_, _, _, _, _, _, _, _, _, _, rfl, by omega, by simp, heap_alloc_last (World.alloc _ _) _ _ (by simp), ?_⟩
  repeat (first | exact Below.refl _ _ | refine Below.alloc ?_ (by simp <;> omega) _)

end Go.Proofs.Ybulkdvju
