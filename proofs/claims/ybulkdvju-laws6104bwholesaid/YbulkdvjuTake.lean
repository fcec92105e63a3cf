import Derived.Test.YbulkdvjuDel
namespace Go.Proofs.Ybulkdvju
open Go.RowKit
attribute [local go_sem] run_store_float

/-- The cells of n take-ups. -/
def tks (NM : Nat → ByteArray) (T CB MX : Nat → Nat) : Nat → List Value
  | 0 => []
  | k + 1 => tks NM T CB MX k ++ tkL (NM k) (T k) (some ⟨CB k, 0, none⟩) (MX k) none
theorem tks_length (NM : Nat → ByteArray) (T CB MX : Nat → Nat) (k : Nat) : (tks NM T CB MX k).length = k * 15 := by
  induction k with
  | zero => rfl
  | succ k ih => simp [tks, ih, tkL]; omega
theorem tks_at (NM : Nat → ByteArray) (T CB MX : Nat → Nat) {n k : Nat} (o : Nat) (hk : k < n) (ho : o < 15) : (tks NM T CB MX n)[k * 15 + o]? = (tkL (NM k) (T k) (some ⟨CB k, 0, none⟩) (MX k) none)[o]? := by
  induction n with
  | zero => omega
  | succ n ih =>
    simp only [tks]
    by_cases e : k = n
    · subst e
      rw [List.getElem?_append_right (by rw [tks_length]; omega), tks_length]
      congr 1; omega
    · rw [List.getElem?_append_left (by rw [tks_length]; omega)]
      exact ih (by omega)
theorem tkL_one (nm : ByteArray) (t : Nat) (cp : Option Addr) (m : Nat) (lf : Option Addr) : ∀ u ∈ tkL nm t cp m lf, u.oneCell' = true := by
  intro u hu
  simp only [tkL, List.mem_cons, List.not_mem_nil, or_false] at hu
  rcases hu with rfl | rfl | rfl | rfl | rfl | rfl | rfl | rfl | rfl | rfl | rfl | rfl | rfl | rfl | rfl <;> rfl
theorem tks_one (NM : Nat → ByteArray) (T CB MX : Nat → Nat) (k : Nat) : ∀ u ∈ tks NM T CB MX k, u.oneCell' = true := by
  induction k with
  | zero => intro u hu; simp [tks] at hu
  | succ k ih =>
    intro u hu
    simp only [tks, List.mem_append] at hu
    rcases hu with h | h
    · exact ih u h
    · exact tkL_one _ _ _ _ _ u h

/-- The 15 cells of one take-up in memory. -/
structure TkAt (w : World) (g o : Nat) (nm : ByteArray) (t cb m : Nat) (lf : Option Addr) : Prop where
  c0 : w.cell? ⟨g, o, none⟩ = some (.string nm)
  c1 : w.cell? ⟨g, o + 1, none⟩ = some (.float .f64 t)
  c2 : w.cell? ⟨g, o + 2, none⟩ = some (.pointer (some ⟨cb, 0, none⟩))
  c3 : w.cell? ⟨g, o + 3, none⟩ = some (.pointer none)
  c4 : w.cell? ⟨g, o + 4, none⟩ = some (.float .f64 0)
  c5 : w.cell? ⟨g, o + 5, none⟩ = some (.float .f64 0)
  c6 : w.cell? ⟨g, o + 6, none⟩ = some (.float .f64 0)
  c7 : w.cell? ⟨g, o + 7, none⟩ = some (.float .f64 0)
  c8 : w.cell? ⟨g, o + 8, none⟩ = some (.string ⟨#[]⟩)
  c9 : w.cell? ⟨g, o + 9, none⟩ = some (.float .f64 0)
  c10 : w.cell? ⟨g, o + 10, none⟩ = some (.int .i64 0)
  c11 : w.cell? ⟨g, o + 11, none⟩ = some (.float .f64 0)
  c12 : w.cell? ⟨g, o + 12, none⟩ = some (.int .i64 0)
  c13 : w.cell? ⟨g, o + 13, none⟩ = some (.float .f64 m)
  c14 : w.cell? ⟨g, o + 14, none⟩ = some (.pointer lf)
theorem tkAt_of {w : World} {g o : Nat} {nm : ByteArray} {t cb m : Nat} {lf : Option Addr} (h : ∀ q, q < 15 → w.cell? ⟨g, o + q, none⟩ = (tkL nm t (some ⟨cb, 0, none⟩) m lf)[q]?) : TkAt w g o nm t cb m lf :=
  ⟨h 0 (by omega), h 1 (by omega), h 2 (by omega), h 3 (by omega), h 4 (by omega), h 5 (by omega), h 6 (by omega), h 7 (by omega), h 8 (by omega), h 9 (by omega), h 10 (by omega), h 11 (by omega), h 12 (by omega), h 13 (by omega), h 14 (by omega)⟩
theorem TkAt.keep {w w' : World} {g o : Nat} {nm : ByteArray} {t cb m : Nat} {lf : Option Addr} (h : TkAt w g o nm t cb m lf) (hb : w'.heap[g]? = w.heap[g]?) : TkAt w' g o nm t cb m lf := by
  have e : ∀ q, w'.cell? ⟨g, q, none⟩ = w.cell? ⟨g, q, none⟩ := fun q => World.cell?_of_block (w := w) hb
  obtain ⟨h0, h1, h2, h3, h4, h5, h6, h7, h8, h9, h10, h11, h12, h13, h14⟩ := h
  exact ⟨(e _).trans h0, (e _).trans h1, (e _).trans h2, (e _).trans h3, (e _).trans h4, (e _).trans h5, (e _).trans h6, (e _).trans h7, (e _).trans h8, (e _).trans h9, (e _).trans h10, (e _).trans h11, (e _).trans h12, (e _).trans h13, (e _).trans h14⟩

/-- The replayer's block. -/
def hObj (rb : Nat) (V : Nat → Value) (tv uv : Value) : Obj := .cells #[.pointer (some ⟨rb, 0, none⟩), V 1, V 2, V 3, V 4, V 5, V 6, V 7, V 8, V 9, tv, uv] 41 (0, 0)
/-- The cap's block. -/
def capA (cT : Nat) (cj : ByteArray) (cp : Option Addr) (nano wt : Int) : Array Value := #[.float .f64 cT, .string cj, .pointer cp, .int .i64 nano, .pointer none, .int .i64 wt, .pointer none]

set_option maxRecDepth 100000 in
theorem take_zero (hb rb : Nat) (V : Nat → Value) (ta : Option Addr) (tc : Nat) (uv : Value) (cT : Nat) (cj : ByteArray) (cp : Option Addr) (nano wt : Int) (w : World) (hH : w.heap[hb]? = some (hObj rb V (.slice ta 0 tc) uv)) (hlt : hb < w.heap.size) :
    Calls Yba.prog 9 #[.pointer (some ⟨hb, 0, none⟩), .agg #[.float .f64 cT, .string cj, .pointer cp, .int .i64 nano, .pointer none, .int .i64 wt, .pointer none]] w fun e w' => e = .returned (.bool false) ∧ Below w.heap.size w w' := by
  have h10 : w.cell? ⟨hb, 10, none⟩ = some (.slice ta 0 tc) := Joins.cell_of_block hH 10
  have hne : hb ≠ w.heap.size := by omega
  go_enter Yba.func9, Yba.ntmps9
  go_wp2
  refine wp_loop_rounds 1 ?_
  rw [rounds_succ]
  go_wp2
  go_ret
  exact ⟨rfl, Joins.below_alloc1 _ _⟩

/-- The j-th take-up is the one looked for. -/
def Mt (has : Bool) (NM CT : Nat → ByteArray) (cj ct : ByteArray) (j : Nat) : Prop := has = true ∧ (NM j).toList = cj.toList ∧ ct.toList = (CT j).toList

theorem mt_step {has : Bool} {NM CT : Nat → ByteArray} {cj ct : ByteArray} {k : Nat} (h : ∀ j, j < k → ¬ Mt has NM CT cj ct j) (hk : ¬ Mt has NM CT cj ct k) : ∀ j, j < k + 1 → ¬ Mt has NM CT cj ct j := fun j hj => by
  by_cases e : j = k
  · subst e; exact hk
  · exact h j (by omega)
theorem below_drewN {B : Nat} {a w : World} (h : Below B a w) (q : Nat) : Below B a (w.drewN q) := ⟨h.os, h.tape, h.output, h.size, h.block⟩

structure Took (has : Bool) (hb rb g n cap base m lb : Nat) (V : Nat → Value) (uv : Value) (NM CT : Nat → ByteArray) (T CB MX : Nat → Nat) (xs : List Value) (cT : Nat) (cj ct : ByteArray) (cp : Option Addr) (nano wt : Int) (w : World) (k : Nat) (uv' : Value) (w' : World) : Prop where
  lt : k < n
  mt : Mt has NM CT cj ct k
  first : ∀ j, j < k → ¬ Mt has NM CT cj ct j
  hH : w'.heap[hb]? = some (hObj rb V (.slice (some ⟨g, 0, none⟩) (n - 1) cap) uv')
  lo : ∀ j, j < k → TkAt w' g (j * 15) (NM j) (T j) (CB j) (MX j) none
  hi : ∀ j, k ≤ j → j < n - 1 → TkAt w' g (j * 15) (NM (j + 1)) (T (j + 1)) (CB (j + 1)) (MX (j + 1)) none
  own : w'.ownsRow base 50 15 uv' (m + 1) (xs ++ tkL (NM k) (T k) (some ⟨CB k, 0, none⟩) (MX k) (some ⟨lb, 0, none⟩))
  lift : w'.heap[lb]? = some (.cells (capA cT cj cp nano wt) 58 (0, 0))
  os : w'.os = w.os
  tape : w'.tape = w.tape
  output : w'.output = w.output
  size : w.heap.size ≤ w'.heap.size
  block : ∀ i, i < w.heap.size → i ≠ hb → i ≠ g → some i ≠ uv.ownBlock → w'.heap[i]? = w.heap[i]?

/-- The box of the take-up that the round looks at. -/
def boxA (nm : ByteArray) (t cb m : Nat) (lf : Option Addr) : Array Value := #[.string nm, .float .f64 t, .pointer (some ⟨cb, 0, none⟩), .pointer none, .float .f64 0, .float .f64 0, .float .f64 0, .float .f64 0, .string ⟨#[]⟩, .float .f64 0, .int .i64 0, .float .f64 0, .int .i64 0, .float .f64 m, .pointer lf]

/-- Behind slices.Delete. -/
structure Mid (hb rb g n cap base m : Nat) (V : Nat → Value) (uv : Value) (NM : Nat → ByteArray) (T CB MX : Nat → Nat) (xs : List Value) (cb : Array Value) (w wr : World) (k : Nat) (tv : Value) (lf : Option Addr) (w1 : World) : Prop where
  hH : w1.heap[hb]? = some (hObj rb V tv uv)
  box : w1.heap[wr.heap.size]? = some (.cells (boxA (NM k) (T k) (CB k) (MX k) lf) 50 (0, 0))
  capb : w1.heap[w.heap.size]? = some (.cells cb 58 (0, 0))
  own : w1.ownsRow base 50 15 uv m xs
  lo : ∀ j, j < k → TkAt w1 g (j * 15) (NM j) (T j) (CB j) (MX j) none
  hi : ∀ j, k ≤ j → j < n - 1 → TkAt w1 g (j * 15) (NM (j + 1)) (T (j + 1)) (CB (j + 1)) (MX (j + 1)) none
  os : w1.os = w.os
  tape : w1.tape = w.tape
  output : w1.output = w.output
  size : wr.heap.size < w1.heap.size
  block : ∀ i, i < w.heap.size → i ≠ hb → i ≠ g → w1.heap[i]? = w.heap[i]?

theorem heap_lt {w : World} {i : Nat} {o : Obj} (h : w.heap[i]? = some o) : i < w.heap.size := by
  rcases Nat.lt_or_ge i w.heap.size with h' | h'
  · exact h'
  · rw [Array.getElem?_eq_none h'] at h; cases h

theorem del_at {hb rb g n cap base0 base m : Nat} {V : Nat → Value} {uv : Value} {NM : Nat → ByteArray} {T CB MX : Nat → Nat} {xs : List Value} {cb : Array Value} {w wr : World} {k : Nat}
    (hk : k < n) (hH : w.heap[hb]? = some (hObj rb V (.slice (some ⟨g, 0, none⟩) n cap) uv)) (hT : w.ownsRow base0 50 15 (.slice (some ⟨g, 0, none⟩) n cap) n (tks NM T CB MX n)) (hU : w.ownsRow base 50 15 uv m xs) (hgu : uv.ownBlock ≠ some g)
    (HB : Below w.heap.size w wr) (hbox : wr.heap[w.heap.size]? = some (.cells cb 58 (0, 0))) :
    Calls Yba.prog 13 #[.slice (some ⟨g, 0, none⟩) n cap, .int .i64 (k : Int), .int .i64 ((k : Int) + 1)] (wr.alloc (.cells #[.string (NM k), .float .f64 (T k), .pointer (some ⟨CB k, 0, none⟩), .pointer none, .float .f64 0, .float .f64 0, .float .f64 0, .float .f64 0, .string ⟨#[]⟩, .float .f64 0, .int .i64 0, .float .f64 0, .int .i64 0, .float .f64 (MX k), .pointer none] 50)).drew
      fun e w1 => e = .returned (.slice (some ⟨g, 0, none⟩) (n - 1) cap) ∧ Mid hb rb g n cap base m V uv NM T CB MX xs cb w wr k (.slice (some ⟨g, 0, none⟩) n cap) none w1 := by
  have hgl : g < w.heap.size := (hT.lt g rfl).2
  have hbl := heap_lt hH
  have hwl := heap_lt hbox
  have hgne : hb ≠ g := by
    rintro rfl
    rcases hT.2 with ⟨h, _⟩ | ⟨g', cap', cur, hv, _, hh, _⟩
    · cases h
    · simp only [Value.slice.injEq, Option.some.injEq, Addr.mk.injEq, and_true, true_and] at hv
      rw [← hv.1, hH] at hh
      simp [hObj] at hh
  generalize hO : (wr.alloc (.cells #[.string (NM k), .float .f64 (T k), .pointer (some ⟨CB k, 0, none⟩), .pointer none, .float .f64 0, .float .f64 0, .float .f64 0, .float .f64 0, .string ⟨#[]⟩, .float .f64 0, .int .i64 0, .float .f64 0, .int .i64 0, .float .f64 (MX k), .pointer none] 50)).drew = W2
  have hBel : Below wr.heap.size wr W2 := by rw [← hO]; exact (Joins.below_alloc1 _ _).drew
  have hbx : W2.heap[wr.heap.size]? = some (.cells (boxA (NM k) (T k) (CB k) (MX k) none) 50 (0, 0)) := by rw [← hO]; exact heap_alloc_last _ _ _ rfl
  have hall : ∀ i, i < w.heap.size → W2.heap[i]? = w.heap[i]? := fun i hi => (hBel.block i (by omega)).trans (HB.block i hi)
  have hkept : w.grownBy W2 none := ⟨hBel.os.trans HB.os, hBel.tape.trans HB.tape, hBel.output.trans HB.output, Nat.le_trans HB.size hBel.size, fun i hi _ => hall i hi⟩
  have hUn : uv.ownBlock = none ∨ uv.ownBlock ≠ none := Classical.em _
  have hT2 := hT.kept hkept (.inr (by simp [Value.ownBlock]))
  have hU2 := hU.kept hkept hUn
  have hs2 := heap_lt hbx
  rcases hT2.2 with ⟨h, _⟩ | ⟨g', cap', cur, hv, _, hh, hnc, hcm, hcs, hxs⟩
  · cases h
  simp only [Value.slice.injEq, Option.some.injEq, Addr.mk.injEq, and_true, true_and] at hv
  obtain ⟨rfl, rfl⟩ := hv
  refine (delete_any g cap n k cur _ W2 hh hcs hxs (tks_one NM T CB MX n) hk hnc hcm).mono ?_
  rintro e w1 ⟨rfl, hgr, hlo, hhi⟩
  have hat : ∀ j, j < n → ∀ q, q < 15 → W2.cell? ⟨g, j * 15 + q, none⟩ = (tkL (NM j) (T j) (some ⟨CB j, 0, none⟩) (MX j) none)[q]? := fun j hj q hq => by rw [hT2.cellAt _ (by omega), tks_at NM T CB MX q hj hq]
  refine ⟨rfl, ?_, ?_, ?_, ?_, ?_, ?_, hgr.os.trans hkept.os, hgr.tape.trans hkept.tape, hgr.output.trans hkept.output, Nat.lt_of_lt_of_le hs2 hgr.size, ?_⟩
  · rw [hgr.block hb (by have := hkept.size; omega) (by simpa using hgne), hall hb hbl]; exact hH
  · rw [hgr.block _ hs2 (by simp; omega)]; exact hbx
  · rw [hgr.block _ (by omega) (by simp; omega), hBel.block _ hwl]; exact hbox
  · exact hU2.kept hgr (.inr hgu)
  · intro j hj
    refine tkAt_of fun q hq => ?_
    rw [hlo _ (by omega)]; exact hat j (by omega) q hq
  · intro j hj1 hj2
    refine tkAt_of fun q hq => ?_
    rw [hhi _ (by omega) (by omega), show j * 15 + q + 15 = (j + 1) * 15 + q by omega]; exact hat (j + 1) (by omega) q hq
  · intro i hi _ hn
    rw [hgr.block i (by have := hkept.size; omega) (by simpa using hn)]; exact hall i hi

/-- The two stores behind it. -/
theorem mid_stores {hb rb g n cap base m : Nat} {V : Nat → Value} {uv : Value} {NM : Nat → ByteArray} {T CB MX : Nat → Nat} {xs : List Value} {cb : Array Value} {w wr : World} {k : Nat} {tv tv' : Value} {lf lf' : Option Addr} {w1 : World}
    (h : Mid hb rb g n cap base m V uv NM T CB MX xs cb w wr k tv lf w1) (hbl : hb < w.heap.size) (hsz : w.heap.size < wr.heap.size) (hgl : g < w.heap.size) (hgne : hb ≠ g) (huh : uv.ownBlock ≠ some hb) (hub : uv.ownBlock ≠ some wr.heap.size) :
    Mid hb rb g n cap base m V uv NM T CB MX xs cb w wr k tv' lf' ((w1.setCell ⟨hb, 10, none⟩ tv').setCell ⟨wr.heap.size, 14, none⟩ (.pointer lf')) := by
  have ne1 : ∀ i, i ≠ hb → i ≠ wr.heap.size → ((w1.setCell ⟨hb, 10, none⟩ tv').setCell ⟨wr.heap.size, 14, none⟩ (.pointer lf')).heap[i]? = w1.heap[i]? := fun i h1 h2 => (Below.heap_setCell _ _ _ _ h2).trans (Below.heap_setCell _ _ _ _ h1)
  refine ⟨?_, ?_, ?_, ?_, ?_, ?_, h.os, h.tape, h.output, by simp [World.setCell]; exact h.size, ?_⟩
  · rw [Below.heap_setCell _ _ _ _ (by show hb ≠ wr.heap.size; omega)]
    exact (Joins.block_setCell h.hH _).trans (by rfl)
  · have := (Below.heap_setCell w1 ⟨hb, 10, none⟩ tv' wr.heap.size (by show wr.heap.size ≠ hb; omega)).trans h.box
    exact (Joins.block_setCell this _).trans (by rfl)
  · rw [ne1 _ (by omega) (by omega)]; exact h.capb
  · exact ownsRow_setCell_other (ownsRow_setCell_other h.own huh _) hub _
  · exact fun j hj => (h.lo j hj).keep (ne1 g (by omega) (by omega))
  · exact fun j hj1 hj2 => (h.hi j hj1 hj2).keep (ne1 g (by omega) (by omega))
  · intro i hi h1 h2
    rw [ne1 i h1 (by omega)]; exact h.block i hi h1 h2

theorem own_ne {w : World} {base n i : Nat} {v : Value} {xs : List Value} {a : Array Value} {t : TypeId} (h : w.ownsRow base 50 15 v n xs) (hi : w.heap[i]? = some (.cells a t (0, 0))) (ht : t ≠ 50) : v.ownBlock ≠ some i := by
  rcases h.2 with ⟨rfl, _⟩ | ⟨g', cap', cur, rfl, _, hh, _⟩
  · simp [Value.ownBlock]
  · intro e
    simp only [Value.ownBlock, Option.some.injEq] at e
    subst e
    rw [hi] at hh
    simp only [Option.some.injEq, Obj.cells.injEq] at hh
    exact ht hh.2.1

theorem heap_alloc_last0 (w : World) (o : Obj) (n : Nat) (h : w.heap.size = n) : (w.alloc o).heap[n]? = some o := by
  subst h
  exact (MapKept.heap_alloc w o).1
theorem after_app {W3 w4 : World} {o : Obj} {hb q : Nat} {uv v : Value} (e : W3.cell? ⟨hb, q, none⟩ = some v) (f : W3.frozen? ⟨hb, q, none⟩ = false) (hs : hb < W3.heap.size) (hu : uv.ownBlock ≠ some hb) (hg : (W3.drew.alloc o).grownBy w4 uv.ownBlock) : w4.cell? ⟨hb, q, none⟩ = some v ∧ w4.frozen? ⟨hb, q, none⟩ = false := by
  have b : w4.heap[hb]? = W3.heap[hb]? := (hg.block hb (by simp; omega) (fun e => hu e.symm)).trans (Below.heap_alloc _ _ _ hs)
  exact ⟨(World.cell?_of_block (w := W3) b).trans e, (World.frozen?_of_block (w := W3) b).trans f⟩

theorem took_of {has : Bool} {hb rb g n cap base m : Nat} {V : Nat → Value} {uv : Value} {NM CT : Nat → ByteArray} {T CB MX : Nat → Nat} {xs : List Value} {cT : Nat} {cj ct : ByteArray} {cp : Option Addr} {nano wt : Int} {w wr : World} {k g' cap' : Nat} {W3 w4 : World} {o : Obj}
    (h : Mid hb rb g n cap base m V uv NM T CB MX xs (capA cT cj cp nano wt) w wr k (.slice (some ⟨g, 0, none⟩) (n - 1) cap) (some ⟨w.heap.size, 0, none⟩) W3) (hbl : hb < w.heap.size) (hsz : w.heap.size < wr.heap.size) (hgl : g < w.heap.size) (hgne : hb ≠ g) (hgu : uv.ownBlock ≠ some g) (huh : uv.ownBlock ≠ some hb) (hul : ∀ i, uv.ownBlock = some i → i < w.heap.size)
    (hk : k < n) (hmt : Mt has NM CT cj ct k) (hf : ∀ j, j < k → ¬ Mt has NM CT cj ct j)
    (hown : w4.ownsRow base 50 15 (.slice (some ⟨g', 0, none⟩) (m + 1) cap') (m + 1) (xs ++ tkL (NM k) (T k) (some ⟨CB k, 0, none⟩) (MX k) (some ⟨w.heap.size, 0, none⟩))) (hgr : (W3.drew.alloc o).grownBy w4 uv.ownBlock) (hat : uv.ownBlock = some g' ∨ g' = W3.heap.size + 1) :
    Took has hb rb g n cap base m w.heap.size V uv NM CT T CB MX xs cT cj ct cp nano wt w k (.slice (some ⟨g', 0, none⟩) (m + 1) cap') (w4.setCell ⟨hb, 11, none⟩ (.slice (some ⟨g', 0, none⟩) (m + 1) cap')) := by
  have h3 := h.size
  have blk : ∀ i, i < W3.heap.size → some i ≠ uv.ownBlock → w4.heap[i]? = W3.heap[i]? := fun i hi hne => (hgr.block i (by simp; omega) hne).trans (Below.heap_alloc _ _ _ hi)
  have blk2 : ∀ i, i < W3.heap.size → i ≠ hb → some i ≠ uv.ownBlock → (w4.setCell ⟨hb, 11, none⟩ (.slice (some ⟨g', 0, none⟩) (m + 1) cap')).heap[i]? = W3.heap[i]? := fun i hi hn hne => (Below.heap_setCell _ _ _ _ hn).trans (blk i hi hne)
  have hg' : hb ≠ g' := by
    rintro rfl
    rcases hat with h' | h'
    · exact huh h'
    · omega
  have hwu : some w.heap.size ≠ uv.ownBlock := fun e => by have := hul _ e.symm; omega
  have hs4 : W3.heap.size + 1 ≤ w4.heap.size := by have := hgr.size; simpa using this
  refine ⟨hk, hmt, hf, ?_, ?_, ?_, ?_, ?_, hgr.os.trans h.os, hgr.tape.trans h.tape, hgr.output.trans h.output, by simp [World.setCell]; omega, ?_⟩
  · exact (Joins.block_setCell ((blk hb (by omega) (fun e => huh e.symm)).trans h.hH) _).trans (by rfl)
  · exact fun j hj => (h.lo j hj).keep (blk2 g (by omega) (by omega) (fun e => hgu e.symm))
  · exact fun j hj1 hj2 => (h.hi j hj1 hj2).keep (blk2 g (by omega) (by omega) (fun e => hgu e.symm))
  · exact ownsRow_setCell_other hown (by simpa [Value.ownBlock] using fun e => hg' e.symm) _
  · rw [blk2 _ (by omega) (by omega) hwu]; exact h.capb
  · intro i hi h1 h2 h4
    rw [blk2 i (by omega) h1 h4]; exact h.block i hi h1 h2

end Go.Proofs.Ybulkdvju
