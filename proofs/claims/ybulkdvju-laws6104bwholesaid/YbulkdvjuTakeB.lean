import Derived.Test.YbulkdvjuStB
import Derived.Test.YbulkdvjuTakeUp
namespace Go.Proofs.Ybulkdvju
open Go.RowKit

theorem below_of_drew {w w2 : World} (h : Below w.drew.heap.size w.drew w2) : Below w.heap.size w w2 := ⟨h.os, h.tape, h.output, h.size, h.block⟩
theorem after_app1 {w2 w4 : World} {o : Obj} {hb rb : Nat} {V : Nat → Value} {tv uv v : Value} (hH : w2.heap[hb]? = some (hObj rb V tv uv)) (hu : v.ownBlock ≠ some hb) (hg : (w2.alloc o).grownBy w4 v.ownBlock) :
    (w4.cell? ⟨hb, 10, none⟩ = some tv ∧ w4.cell? ⟨hb, 11, none⟩ = some uv) ∧ (w4.frozen? ⟨hb, 10, none⟩ = false ∧ w4.frozen? ⟨hb, 11, none⟩ = false) := by
  have b : w4.heap[hb]? = some (hObj rb V tv uv) := ((hg.block hb (by have := heap_lt hH; simp; omega) (fun e => hu e.symm)).trans (Below.heap_alloc _ _ _ (heap_lt hH))).trans hH
  exact ⟨⟨Joins.cell_of_block b 10, Joins.cell_of_block b 11⟩, Joins.unfrozen_of_block b 10, Joins.unfrozen_of_block b 11⟩

theorem st_start {hb : Nat} {v1 v2 v3 v4 v5 v6 v7 v8 v9 : Value} {NM1 CT1 : Nat → ByteArray} {T1 MX1 : Nat → Nat} {NM2 CT2 : Nat → ByteArray} {T2 MX2 : Nat → Nat} {w w0 : World}
    (hb1 : (w.alloc (.cells #[.int .i64 0, .int .i64 0, .slice none 0 0, .slice none 0 0, .pointer none] 30)).heap.size ≤ hb) (hH : w0.heap[hb]? = some (.cells #[.pointer (some ⟨w.heap.size, 0, none⟩), v1, v2, v3, v4, v5, v6, v7, v8, v9, .slice none 0 0, .slice none 0 0] 41 (0, 0)))
    (HB : Below (w.alloc (.cells #[.int .i64 0, .int .i64 0, .slice none 0 0, .slice none 0 0, .pointer none] 30)).heap.size (w.alloc (.cells #[.int .i64 0, .int .i64 0, .slice none 0 0, .slice none 0 0, .pointer none] 30)) w0) :
    ∃ V, V 0 = .pointer none ∧ St hb w.heap.size w.heap.size V NM1 CT1 T1 MX1 NM2 CT2 T2 MX2 w (.slice none 0 0) 0 (fun _ => 0) (.slice none 0 0) 0 (fun _ => 0) w0 := by
  refine ⟨fun i => if i = 0 then .pointer none else if i = 1 then v1 else if i = 2 then v2 else if i = 3 then v3 else if i = 4 then v4 else if i = 5 then v5 else if i = 6 then v6 else if i = 7 then v7 else if i = 8 then v8 else v9, rfl, ?_, ?_, hH, ?_, World.ownsRow_nil _ _ _ _, World.ownsRow_nil _ _ _ _, fun g h => by simp [Value.ownBlock] at h, fun i hi => absurd hi (Nat.not_lt_zero _), fun i hi => absurd hi (Nat.not_lt_zero _)⟩
  · exact (Joins.below_alloc1 _ _).trans (HB.mono (by simp))
  · simp at hb1; omega
  · rw [HB.block _ (by simp)]; exact (MapKept.heap_alloc w _).1

theorem ks4 {wr w' : World} {hb x g o tb p cb : Nat} {tv : Value} {nm : ByteArray} {t m t' m' : Nat} {lf : Option Addr} {j c : Int} (h : Below wr.heap.size wr w') (hhb : hb < wr.heap.size) (hg : g < wr.heap.size) (htb : tb < wr.heap.size) (e : wr.cell? ⟨hb, x, none⟩ = some tv) (K : TkAt wr g o nm t cb m lf)
    (i0 : wr.cell? ⟨tb, p, none⟩ = some (.int .u8 j)) (i1 : wr.cell? ⟨tb, p + 1, none⟩ = some (.int .u8 c)) (i2 : wr.cell? ⟨tb, p + 2, none⟩ = some (.float .f64 t')) (i3 : wr.cell? ⟨tb, p + 3, none⟩ = some (.float .f64 m')) :
    w'.cell? ⟨hb, x, none⟩ = some tv ∧ w'.cell? ⟨g, o, none⟩ = some (.string nm) ∧ w'.cell? ⟨g, o + 1, none⟩ = some (.float .f64 t) ∧ w'.cell? ⟨g, o + 2, none⟩ = some (.pointer (some ⟨cb, 0, none⟩)) ∧ w'.cell? ⟨g, o + 3, none⟩ = some (.pointer none) ∧ w'.cell? ⟨g, o + 4, none⟩ = some (.float .f64 0) ∧ w'.cell? ⟨g, o + 5, none⟩ = some (.float .f64 0) ∧ w'.cell? ⟨g, o + 6, none⟩ = some (.float .f64 0) ∧ w'.cell? ⟨g, o + 7, none⟩ = some (.float .f64 0) ∧ w'.cell? ⟨g, o + 8, none⟩ = some (.string ⟨#[]⟩) ∧ w'.cell? ⟨g, o + 9, none⟩ = some (.float .f64 0) ∧ w'.cell? ⟨g, o + 10, none⟩ = some (.int .i64 0) ∧ w'.cell? ⟨g, o + 11, none⟩ = some (.float .f64 0) ∧ w'.cell? ⟨g, o + 12, none⟩ = some (.int .i64 0) ∧ w'.cell? ⟨g, o + 13, none⟩ = some (.float .f64 m) ∧ w'.cell? ⟨g, o + 14, none⟩ = some (.pointer lf) ∧ w'.cell? ⟨tb, p, none⟩ = some (.int .u8 j) ∧ w'.cell? ⟨tb, p + 1, none⟩ = some (.int .u8 c) ∧ w'.cell? ⟨tb, p + 2, none⟩ = some (.float .f64 t') ∧ w'.cell? ⟨tb, p + 3, none⟩ = some (.float .f64 m') := by
  have a : ∀ {b : Nat} (q : Nat), b < wr.heap.size → w'.cell? ⟨b, q, none⟩ = wr.cell? ⟨b, q, none⟩ := fun {b} q hb => h.cell (p := ⟨b, q, none⟩) hb
  obtain ⟨k0, k1, k2, k3, k4, k5, k6, k7, k8, k9, k10, k11, k12, k13, k14⟩ := K
  exact ⟨(a _ hhb).trans e, (a _ hg).trans k0, (a _ hg).trans k1, (a _ hg).trans k2, (a _ hg).trans k3, (a _ hg).trans k4, (a _ hg).trans k5, (a _ hg).trans k6, (a _ hg).trans k7, (a _ hg).trans k8, (a _ hg).trans k9, (a _ hg).trans k10, (a _ hg).trans k11, (a _ hg).trans k12, (a _ hg).trans k13, (a _ hg).trans k14, (a _ htb).trans i0, (a _ htb).trans i1, (a _ htb).trans i2, (a _ htb).trans i3⟩

theorem take_no {hb rb B n m : Nat} {V : Nat → Value} {NM1 CT1 : Nat → ByteArray} {T1 MX1 : Nat → Nat} {NM2 CT2 : Nat → ByteArray} {T2 MX2 : Nat → Nat} {w : World} {tv uv : Value} {CB1 CB2 : Nat → Nat} {W : World} (hS : St hb rb B V NM1 CT1 T1 MX1 NM2 CT2 T2 MX2 w tv n CB1 uv m CB2 W) (hB : B ≤ W.heap.size) (hn : n ≤ 65536) (hm : m ≤ 65536) (cT : Nat) (cj : ByteArray) (nano wt : Int) :
    Calls Yba.prog 9 #[.pointer (some ⟨hb, 0, none⟩), .agg #[.float .f64 cT, .string cj, .pointer none, .int .i64 nano, .pointer none, .int .i64 wt, .pointer none]] W fun e w' => e = .returned (.bool false) ∧ Below W.heap.size W w' := by
  obtain ⟨a, cap, rfl, ha⟩ := own_form hS.own1
  by_cases h0 : n = 0
  · subst h0
    exact take_zero hb rb V a cap uv cT cj none nano wt W hS.hH (heap_lt hS.hH)
  · obtain ⟨g, rfl⟩ := ha (by omega)
    have := take_any false hb rb g n cap B B m 0 V uv NM1 CT1 T1 CB1 MX1 _ cT cj ⟨#[]⟩ nano wt W (by omega) hn hm hS.hH hS.own1 hS.own2 (fun e => hS.apart g e rfl) hB hS.cb1 (fun h => by cases h)
    refine Calls.mono (by simpa using this) ?_
    rintro e w' (⟨rfl, _, h⟩ | ⟨_, k, lb, uv', h⟩)
    · exact ⟨rfl, h⟩
    · have := h.mt.1; cases this

theorem take_yes {hb rb B n m : Nat} {V : Nat → Value} {NM1 CT1 : Nat → ByteArray} {T1 MX1 : Nat → Nat} {NM2 CT2 : Nat → ByteArray} {T2 MX2 : Nat → Nat} {w : World} {tv uv : Value} {CB1 CB2 : Nat → Nat} {W : World} (hS : St hb rb B V NM1 CT1 T1 MX1 NM2 CT2 T2 MX2 w tv n CB1 uv m CB2 W) (hB : B ≤ W.heap.size) (hn : n ≤ 65536) (hm : m ≤ 65536) (cT : Nat) (cj ct : ByteArray) (nano wt : Int) (cc : Nat)
    (hcc : W.heap[cc]? = some (.cells #[.string ct] 9 (0, 0))) :
    Calls Yba.prog 9 #[.pointer (some ⟨hb, 0, none⟩), .agg #[.float .f64 cT, .string cj, .pointer (some ⟨cc, 0, none⟩), .int .i64 nano, .pointer none, .int .i64 wt, .pointer none]] W fun e w' =>
      (e = .returned (.bool false) ∧ (∀ j, j < n → ¬ Mt true NM1 CT1 cj ct j) ∧ Below W.heap.size W w') ∨
        (e = .returned (.bool true) ∧ ∃ g cap k lb uv', tv = .slice (some ⟨g, 0, none⟩) n cap ∧ Took true hb rb g n cap B m lb V uv NM1 CT1 T1 CB1 MX1 (tks NM2 T2 CB2 MX2 m) cT cj ct (some ⟨cc, 0, none⟩) nano wt W k uv' w') := by
  obtain ⟨a, cap, rfl, ha⟩ := own_form hS.own1
  by_cases h0 : n = 0
  · subst h0
    refine (take_zero hb rb V a cap uv cT cj _ nano wt W hS.hH (heap_lt hS.hH)).mono ?_
    rintro e w' ⟨rfl, h⟩
    exact .inl ⟨rfl, fun j hj => absurd hj (Nat.not_lt_zero _), h⟩
  · obtain ⟨g, rfl⟩ := ha (by omega)
    have := take_any true hb rb g n cap B B m cc V uv NM1 CT1 T1 CB1 MX1 _ cT cj ct nano wt W (by omega) hn hm hS.hH hS.own1 hS.own2 (fun e => hS.apart g e rfl) hB hS.cb1 (fun _ => hcc)
    refine Calls.mono (by simpa using this) ?_
    rintro e w' (⟨rfl, h1, h⟩ | ⟨rfl, k, lb, uv', h⟩)
    · exact .inl ⟨rfl, h1, h⟩
    · exact .inr ⟨rfl, g, cap, k, lb, uv', rfl, h⟩

end Go.Proofs.Ybulkdvju
