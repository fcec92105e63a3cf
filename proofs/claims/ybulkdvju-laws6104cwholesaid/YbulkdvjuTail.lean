import Derived.Test.YbulkdvjuInner
import Derived.Stop.FmtLaws
import Derived.LaidEqlPtr
namespace Go.Proofs.Ybulkdvju
open Go.RowKit

/-- math.Float64bits: the word itself. -/
theorem fbits (b : Nat) (w : World) : (callFunc 11 #[.float .f64 b]).run Yba.prog w = .ok (.value (.int .u64 (b : Int))) w := by
  rw [run_callFunc_extern (e := Extern.MathFloatBits.float64bits) Yba.func11 (by kernel_rfl) (by kernel_rfl) (by kernel_rfl) (by kernel_rfl)]
  rfl

theorem info76 : (Yba.prog.info? 76).map (fun i => i.size) = some 6 := by kernel_rfl
/-- A pointer is not unequal to itself. -/
theorem neq_same70 (a : Addr) (w : World) : (binOp .neq 70 (.pointer (some a)) (.pointer (some a))).run Yba.prog w = .ok (.bool false) w := by
  obtain ⟨j, hj, _⟩ := Option.map_eq_some_iff.1 info76
  have h : ∀ d : Nat, (Op.equalIn (d + 1) 70 (.pointer (some a)) (.pointer (some a))).run Yba.prog w = .ok true w := fun d => by
    simp [Op.equalIn, run_underlying Yba.underlying70, sizeOf, typeInfo, hj, run_sameAddr_same]
  simp only [binOp]
  simp [Op.equal, Op.maxDepth, h 9999]

/-- Behind k rounds of the loop that copies: the copy at block sb, the first behind all that W1 had. -/
structure Copy (len : Nat) (HR : Nat → Bool) (RB : Nat → Nat) (W1 : World) (k : Nat) (wq : World) : Prop where
  bel : Below W1.heap.size W1 wq
  size : W1.heap.size < wq.heap.size
  done : ∀ i, i < k → wq.cell? ⟨W1.heap.size, i * 4 + 3, none⟩ = some (.pointer (if HR i = true then some ⟨RB i, 0, none⟩ else none))
  room : ∀ j, j < len * 4 → ∃ v, wq.cell? ⟨W1.heap.size, j, none⟩ = some v
  fz : ∀ o, wq.frozen? ⟨W1.heap.size, o, none⟩ = false
theorem copy_start (len : Nat) (HR : Nat → Bool) (RB : Nat → Nat) (W1 : World) : Copy len HR RB W1 0 (W1.alloc (.cells (blankH len) 72)) := by
  have hb : (W1.alloc (.cells (blankH len) 72)).heap[W1.heap.size]? = some (.cells (blankH len) 72 (0, 0)) := (MapKept.heap_alloc W1 _).1
  refine ⟨Joins.below_alloc1 _ _, by simp, fun i hi => absurd hi (Nat.not_lt_zero _), fun j hj => ?_, fun o => Joins.unfrozen_of_block hb o⟩
  rw [Joins.cell_of_block hb]
  exact ⟨_, Array.getElem?_eq_getElem (by unfold blankH; rw [size_madeCells]; exact hj)⟩
theorem copy_step {len : Nat} {HR : Nat → Bool} {RB : Nat → Nat} {W1 : World} {k : Nat} {wq : World} (h : Copy len HR RB W1 k wq) (hk : k < len) (v0 v1 v2 : Value) :
    Copy len HR RB W1 (k + 1) ((((wq.setCell ⟨W1.heap.size, k * 4, none⟩ v0).setCell ⟨W1.heap.size, k * 4 + 1, none⟩ v1).setCell ⟨W1.heap.size, k * 4 + 2, none⟩ v2).setCell ⟨W1.heap.size, k * 4 + 3, none⟩ (.pointer (if HR k = true then some ⟨RB k, 0, none⟩ else none))) := by
  obtain ⟨o0, r0⟩ := h.room (k * 4) (by omega)
  obtain ⟨o1, r1⟩ := h.room (k * 4 + 1) (by omega)
  obtain ⟨o2, r2⟩ := h.room (k * 4 + 2) (by omega)
  obtain ⟨o3, r3⟩ := h.room (k * 4 + 3) (by omega)
  obtain ⟨p1, p2, p3, p4, p5, p6, p7⟩ := put4 v0 v1 v2 (.pointer (if HR k = true then some ⟨RB k, 0, none⟩ else none)) r0 r1 r2 r3 h.fz
  refine ⟨(((h.bel.setCell (Nat.le_refl _) _).setCell (Nat.le_refl _) _).setCell (Nat.le_refl _) _).setCell (Nat.le_refl _) _, Nat.lt_of_lt_of_le h.size p1.size, fun i hi => ?_, fun j hj => ?_, p7⟩
  · by_cases e : i = k
    · subst e; exact p5
    · rw [p6 _ (.inl (by omega))]; exact h.done i (by omega)
  · by_cases e : j < k * 4 ∨ k * 4 + 4 ≤ j
    · rw [p6 j e]; exact h.room j hj
    · have : j = k * 4 ∨ j = k * 4 + 1 ∨ j = k * 4 + 2 ∨ j = k * 4 + 3 := by omega
      rcases this with rfl | rfl | rfl | rfl
      · exact ⟨_, p2⟩
      · exact ⟨_, p3⟩
      · exact ⟨_, p4⟩
      · exact ⟨_, p5⟩

/-- What the search has handed back, beside what was looked for. -/
def Final (len : Nat) (TF : Nat → Nat) (AG : Nat → ByteArray) (HR : Nat → Bool) (RB : Nat → Nat) (ST : Nat → Nat) (name : ByteArray) (a : Nat) (b : Int) (c : ByteArray) (d : Option Addr) (n : ByteArray) (st : Nat) (wt : Int) (ok : Bool) (hW jW : Int) : Prop :=
  (ok = false ∧ hW = -1 ∧ a = 0 ∧ b = 0 ∧ c = ⟨#[]⟩ ∧ d = none ∧ n = ⟨#[]⟩ ∧ st = 0 ∧ wt = 0) ∨
  (ok = true ∧ ∃ i k : Nat, hW = i ∧ jW = k ∧ i < len ∧ HR i = true ∧ n.toList = name.toList ∧ a = TF i ∧ b = (i : Int) + 1 ∧ c = AG i ∧ d = some ⟨RB i, 0, none⟩ ∧ st = ST k ∧ wt = (i : Int) + 1)

theorem job_final {len : Nat} {TF : Nat → Nat} {AG : Nat → ByteArray} {HR : Nat → Bool} {RB JL : Nat → Nat} {NM : Nat → Nat → ByteArray} {ST : Nat → Nat} {name : ByteArray} {vh vj : Value} {ok : Bool} {hW jW : Int}
    (HJ : JobTo len TF AG HR RB JL NM ST name vh vj ok) (HW : WantTo HR JL NM name len 0 hW jW) :
    ∃ a b c d n st wt, vh = .agg #[.float .f64 a, .int .i64 b, .string c, .pointer d] ∧ vj = .agg #[.string n, .float .f64 st, .string ⟨#[]⟩, .float .f64 0, .float .f64 0, .float .f64 0, .float .f64 0, .float .f64 0, .int .i64 0, .float .f64 0, .int .i64 wt, .pointer none] ∧ Final len TF AG HR RB ST name a b c d n st wt ok hW jW := by
  rcases HJ with ⟨rfl, i, k, hi, hit, hk, hi2, rfl, rfl⟩ | ⟨rfl, rfl, rfl, hno⟩
  · refine ⟨_, _, _, _, _, _, _, rfl, rfl, .inr ⟨rfl, i, k, ?_⟩⟩
    have key : hW = i ∧ jW = k := by
      rcases HW with ⟨_, _, hn⟩ | ⟨hn, jn, rfl, rfl, _, hit2, hm⟩
      · exact absurd hit (hn i k (.inl hi))
      · have e1 : hn = i := by
          rcases Nat.lt_trichotomy hn i with h | h | h
          · exact absurd hit2 (hi2 hn h jn)
          · exact h
          · exact absurd hit (hm i k (.inl h))
        subst e1
        have e2 : jn = k := by
          rcases Nat.lt_trichotomy jn k with h | h | h
          · exact absurd hit2 (hk jn h)
          · exact h
          · exact absurd hit (hm hn k (.inr ⟨rfl, h⟩))
        subst e2
        exact ⟨rfl, rfl⟩
    exact ⟨key.1, key.2, hi, hit.1, hit.2.2, rfl, rfl, rfl, rfl, rfl, rfl⟩
  · refine ⟨_, _, _, _, _, _, _, rfl, rfl, .inl ⟨rfl, ?_, rfl, rfl, rfl, rfl, rfl, rfl, rfl⟩⟩
    rcases HW with ⟨h, _, _⟩ | ⟨hn, jn, _, _, hb, hit, _⟩
    · exact h
    · exact absurd hit (hno hn (by rcases hb with h | ⟨_, h⟩ <;> omega) jn)

end Go.Proofs.Ybulkdvju
