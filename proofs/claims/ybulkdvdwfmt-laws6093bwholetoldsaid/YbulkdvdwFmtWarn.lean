import Derived.Test.YbulkdvdwFmtTexts
import Derived.Deep.RegionHeld3
import Derived.Deep.RegionWith
import Derived.Lib.SmallJoins
namespace Go.Proofs.YbulkdvdwFmt
open Go.RowKit Go.Extern.Stop Go.Stop Go.Extern

theorem bcell {W w1 : World} (hb : Below W.heap.size W w1) : (∀ b o, b < W.heap.size → w1.cell? ⟨b, o, none⟩ = W.cell? ⟨b, o, none⟩) ∧ (∀ b o, b < W.heap.size → w1.frozen? ⟨b, o, none⟩ = W.frozen? ⟨b, o, none⟩) :=
  ⟨fun b o h => hb.cell (p := ⟨b, o, none⟩) h, fun b o h => hb.frozen (p := ⟨b, o, none⟩) h⟩

/-- All that lay there lies there as it did, but for the block cb. -/
structure ButAt (cb : Nat) (w w' : World) : Prop where
  tape : w'.tape = w.tape
  os : w'.os = w.os
  output : w'.output = w.output
  size : w.heap.size ≤ w'.heap.size
  block : ∀ k, k < w.heap.size → k ≠ cb → w'.heap[k]? = w.heap[k]?

theorem ButAt.refl (cb : Nat) (w : World) : ButAt cb w w := ⟨rfl, rfl, rfl, Nat.le_refl _, fun _ _ _ => rfl⟩
theorem ButAt.trans {cb : Nat} {a b c : World} (h : ButAt cb a b) (k : ButAt cb b c) : ButAt cb a c :=
  ⟨k.tape.trans h.tape, k.os.trans h.os, k.output.trans h.output, Nat.le_trans h.size k.size, fun i hi hn => (k.block i (Nat.lt_of_lt_of_le hi h.size) hn).trans (h.block i hi hn)⟩
theorem ButAt.of {cb : Nat} {a b : World} (h : Below a.heap.size a b) : ButAt cb a b := ⟨h.tape, h.os, h.output, h.size, fun i hi _ => h.block i hi⟩
theorem ButAt.cell {cb : Nat} {w w' : World} (h : ButAt cb w w') {b : Nat} (hb : b < w.heap.size) (hn : b ≠ cb) (o : Nat) : w'.cell? ⟨b, o, none⟩ = w.cell? ⟨b, o, none⟩ := World.cell?_of_block (w := w) (h.block b hb hn)
theorem ButAt.set {cb : Nat} {a w : World} (h : ButAt cb a w) (o : Nat) (u : Value) : ButAt cb a (w.setCell ⟨cb, o, none⟩ u) :=
  h.trans ⟨rfl, rfl, rfl, by simp [World.setCell], fun k _ hn => Below.heap_setCell _ _ _ _ hn⟩

theorem fmtE : FmtStop.printed? ⟨#[37, 115, 58, 32, 37, 115, 58, 32, 37, 115, 32, 105, 115, 32, 110, 111, 116, 32, 97, 110, 110, 111, 117, 110, 99, 101, 100, 32, 98, 121, 32, 105, 116, 115, 32, 114, 101, 110, 100, 101, 114, 101, 114, 59, 32, 105, 116, 32, 105, 115, 32, 112, 97, 115, 115, 101, 100, 32, 111, 110, 32, 117, 110, 99, 104, 97, 110, 103, 101, 100]⟩ 3 = some [(0, 115, false), (1, 115, false), (2, 115, false)] := by kernel_rfl

theorem str38 (w : World) : (typeStr 38).run Ybaf.prog w = .ok "param.Key" w := by kernel_rfl

set_option maxHeartbeats 400000 in
/-- What fmt.Sprintf does with the label, the file's name and the key: it returns some string; nothing that was there turns. -/
theorem spr3 (F : Interp) (b : Nat) (s1 kn kg : ByteArray) (w : World) (hF : F.answers w.tape) (hb : b < w.heap.size)
    (c0 : w.cell? ⟨b, 0, none⟩ = some (.iface 9 (.string s1))) (c1 : w.cell? ⟨b, 1, none⟩ = some (.iface 9 (.string ⟨#[100, 101, 119, 112, 111, 105, 110, 116, 46, 121, 97, 109, 108]⟩))) (c2 : w.cell? ⟨b, 2, none⟩ = some (.iface 38 (.agg #[.string kn, .string kg]))) :
    Rows Ybaf.prog FmtCalls.turnsRow (FmtCalls.save 0 0 (.slice (some ⟨b, 0, none⟩) 3 3) ⟨#[37, 115, 58, 32, 37, 115, 58, 32, 37, 115, 32, 105, 115, 32, 110, 111, 116, 32, 97, 110, 110, 111, 117, 110, 99, 101, 100, 32, 98, 121, 32, 105, 116, 115, 32, 114, 101, 110, 100, 101, 114, 101, 114, 59, 32, 105, 116, 32, 105, 115, 32, 112, 97, 115, 115, 101, 100, 32, 111, 110, 32, 117, 110, 99, 104, 97, 110, 103, 101, 100]⟩ [] [(0, 115, false), (1, 115, false), (2, 115, false)]) w fun v w' => (∃ s, v = .string s) ∧ Below w.heap.size w w' := by
  have hF' : ∀ i name reading k range, w.tape i (.extern (word name reading k) range) = F name reading k := hF
  have h5 := op9_115
  have h6 := act9_115
  have h7 := act38_115
  have h8 := isString38
  have h9 := str38
  apply rows_call nextTurns
  case hr =>
    go_simp
    exact ⟨⟨rfl, rfl, rfl⟩, rfl⟩
  case hi => exact invokeString38 _ _
  case hc =>
    refine (key_any F kn kg _ hF).mono fun e w₃ ⟨⟨s, he⟩, hx⟩ => ?_
    subst he
    obtain ⟨hc3, _⟩ := bcell hx
    have d0 := (hc3 b 0 hb).trans c0
    have d1 := (hc3 b 1 hb).trans c1
    have d2 := (hc3 b 2 hb).trans c2
    have hF3 : ∀ i name reading k range, w₃.tape i (.extern (word name reading k) range) = F name reading k := by rw [hx.tape]; exact hF
    clear hc3
    apply rows_value nextReturned
    case hr =>
      go_simp
      exact ⟨rfl, rfl⟩
    case h => exact ⟨⟨_, rfl⟩, hx.drew⟩

/-- Since wr nothing that was there has turned but for the block cb, and something has come. -/
def KB (cb : Nat) (wr w' : World) : Prop := ButAt cb wr w' ∧ wr.heap.size < w'.heap.size

def SK (n g kn kg : ByteArray) (A cb : Nat) (wr w' : World) : Prop :=
  w'.cell? ⟨A, 0, none⟩ = some (.string n) ∧ w'.cell? ⟨A, 1, none⟩ = some (.string g) ∧ w'.cell? ⟨A, 2, none⟩ = some (.string ⟨#[]⟩) ∧ w'.cell? ⟨A, 3, none⟩ = some (.string ⟨#[]⟩) ∧ w'.cell? ⟨A, 4, none⟩ = some (.slice none 0 0) ∧ w'.cell? ⟨A, 5, none⟩ = some (.string ⟨#[]⟩) ∧ w'.cell? ⟨A, 6, none⟩ = some (.slice none 0 0) ∧ w'.cell? ⟨A, 7, none⟩ = some (.string ⟨#[]⟩) ∧ w'.cell? ⟨A, 8, none⟩ = some (.string ⟨#[]⟩) ∧ w'.cell? ⟨A, 9, none⟩ = some (.string ⟨#[]⟩) ∧ w'.cell? ⟨A, 10, none⟩ = some (.slice none 0 0) ∧ w'.cell? ⟨A, 11, none⟩ = some (.slice none 0 0) ∧ w'.cell? ⟨A, 12, none⟩ = some (.slice none 0 0) ∧ w'.cell? ⟨wr.heap.size, 0, none⟩ = some (.string kn) ∧ w'.cell? ⟨wr.heap.size, 1, none⟩ = some (.string kg) ∧ KB cb wr w'

theorem sk_keep {n g kn kg : ByteArray} {A cb : Nat} {wr w1 w2 : World} (hA : A < wr.heap.size) (h : SK n g kn kg A cb wr w1) (hb : Below w1.heap.size w1 w2) : SK n g kn kg A cb wr w2 := by
  obtain ⟨h0, h1, h2, h3, h4, h5, h6, h7, h8, h9, h10, h11, h12, k0, k1, hB, hs⟩ := h
  have hc : ∀ b o, b ≤ wr.heap.size → w2.cell? ⟨b, o, none⟩ = w1.cell? ⟨b, o, none⟩ := fun b o h => hb.cell (p := ⟨b, o, none⟩) (Nat.lt_of_le_of_lt h hs)
  have hA' := Nat.le_of_lt hA
  have hK := Nat.le_refl wr.heap.size
  exact ⟨(hc _ _ hA').trans h0, (hc _ _ hA').trans h1, (hc _ _ hA').trans h2, (hc _ _ hA').trans h3, (hc _ _ hA').trans h4, (hc _ _ hA').trans h5, (hc _ _ hA').trans h6, (hc _ _ hA').trans h7, (hc _ _ hA').trans h8, (hc _ _ hA').trans h9, (hc _ _ hA').trans h10, (hc _ _ hA').trans h11, (hc _ _ hA').trans h12,
    (hc _ _ hK).trans k0, (hc _ _ hK).trans k1, hB.trans (ButAt.of hb), Nat.lt_of_lt_of_le hs hb.size⟩

theorem sk_set {n g kn kg : ByteArray} {A cb : Nat} {wr w1 : World} (hA : A ≠ cb) (hcb : cb < wr.heap.size) (u : Value) (h : SK n g kn kg A cb wr w1) : SK n g kn kg A cb wr (w1.setCell ⟨cb, 0, none⟩ u) := by
  obtain ⟨h0, h1, h2, h3, h4, h5, h6, h7, h8, h9, h10, h11, h12, k0, k1, hB, hs⟩ := h
  have hc : ∀ b o, b ≠ cb → (w1.setCell ⟨cb, 0, none⟩ u).cell? ⟨b, o, none⟩ = w1.cell? ⟨b, o, none⟩ := fun b o h => World.cell?_of_block (w := w1) (Below.heap_setCell _ _ _ _ h)
  have hK : wr.heap.size ≠ cb := by omega
  exact ⟨(hc _ _ hA).trans h0, (hc _ _ hA).trans h1, (hc _ _ hA).trans h2, (hc _ _ hA).trans h3, (hc _ _ hA).trans h4, (hc _ _ hA).trans h5, (hc _ _ hA).trans h6, (hc _ _ hA).trans h7, (hc _ _ hA).trans h8, (hc _ _ hA).trans h9, (hc _ _ hA).trans h10, (hc _ _ hA).trans h11, (hc _ _ hA).trans h12,
    (hc _ _ hK).trans k0, (hc _ _ hK).trans k1, hB.set _ _, by simpa [World.setCell] using hs⟩

theorem sk_init (n g kn kg : ByteArray) (A cb : Nat) (wr : World) (hA : A < wr.heap.size) (ha : ∀ o, wr.cell? ⟨A, o, none⟩ = (#[.string n, .string g, .string ⟨#[]⟩, .string ⟨#[]⟩, .slice none 0 0, .string ⟨#[]⟩, .slice none 0 0, .string ⟨#[]⟩, .string ⟨#[]⟩, .string ⟨#[]⟩, .slice none 0 0, .slice none 0 0, .slice none 0 0] : Array Value)[o]?) : SK n g kn kg A cb wr (wr.alloc (.cells #[.string kn, .string kg] 38)).drew := by
  have hb : Below wr.heap.size wr (wr.alloc (.cells #[.string kn, .string kg] 38)).drew := ((Below.refl _ _).alloc (Nat.le_refl _) _).drew
  have hc : ∀ o, (wr.alloc (.cells #[.string kn, .string kg] 38)).drew.cell? ⟨A, o, none⟩ = (#[.string n, .string g, .string ⟨#[]⟩, .string ⟨#[]⟩, .slice none 0 0, .string ⟨#[]⟩, .slice none 0 0, .string ⟨#[]⟩, .string ⟨#[]⟩, .string ⟨#[]⟩, .slice none 0 0, .slice none 0 0, .slice none 0 0] : Array Value)[o]? := fun o => (hb.cell (p := ⟨A, o, none⟩) hA).trans (ha o)
  refine ⟨hc 0, hc 1, hc 2, hc 3, hc 4, hc 5, hc 6, hc 7, hc 8, hc 9, hc 10, hc 11, hc 12, ?_, ?_, ButAt.of hb, ?_⟩
  · simp [go_sem]
  · simp [go_sem]
  · simp

theorem ans_of {F : Interp} {B : Nat} {wr wa : World} {o1 o2 : Obj} (h : F.answers wr.tape) (hb : Below B (wr.alloc o1).drew wa) : F.answers (wa.alloc o2).tape := by
  show F.answers wa.tape
  rw [hb.tape]; exact h
theorem ctr_block {wr wa wb : World} {o1 o2 : Obj} (hb1 : Below ((wr.alloc o1).drew).heap.size (wr.alloc o1).drew wa) (hb2 : Below (wa.alloc o2).heap.size (wa.alloc o2) wb) : Below wr.heap.size wr wb :=
  (((Joins.below_alloc1 wr o1).drew).trans (hb1.mono (by simp))).trans ((((Joins.below_alloc1 wa o2)).mono (by have := hb1.size; simp at this; omega)).trans (hb2.mono (by have := hb1.size; simp at this ⊢; omega)))
theorem ctr_cell {cb : Nat} {wr wa wb : World} {o1 o2 : Obj} {v : Value} (h : wr.cell? ⟨cb, 0, none⟩ = some v) (hcb : cb < wr.heap.size) (hb1 : Below ((wr.alloc o1).drew).heap.size (wr.alloc o1).drew wa) (hb2 : Below (wa.alloc o2).heap.size (wa.alloc o2) wb) : wb.cell? ⟨cb, 0, none⟩ = some v :=
  ((ctr_block hb1 hb2).cell (p := ⟨cb, 0, none⟩) hcb).trans h
theorem ctr_frozen {cb : Nat} {wr wa wb : World} {o1 o2 : Obj} (h : wr.frozen? ⟨cb, 0, none⟩ = false) (hcb : cb < wr.heap.size) (hb1 : Below ((wr.alloc o1).drew).heap.size (wr.alloc o1).drew wa) (hb2 : Below (wa.alloc o2).heap.size (wa.alloc o2) wb) : wb.frozen? ⟨cb, 0, none⟩ = false :=
  ((ctr_block hb1 hb2).frozen (p := ⟨cb, 0, none⟩) hcb).trans h
theorem ctr_but {cb : Nat} {wr wa wb : World} {o1 o2 : Obj} {v : Value} (h : wr.cell? ⟨cb, 0, none⟩ = some v) (hf : wr.frozen? ⟨cb, 0, none⟩ = false) (hcb : cb < wr.heap.size) (hb1 : Below ((wr.alloc o1).drew).heap.size (wr.alloc o1).drew wa) (hb2 : Below (wa.alloc o2).heap.size (wa.alloc o2) wb) (u : Value) :
    (wb.setCell ⟨cb, 0, none⟩ u).cell? ⟨cb, 0, none⟩ = some u ∧ (wb.setCell ⟨cb, 0, none⟩ u).frozen? ⟨cb, 0, none⟩ = false ∧ ButAt cb wr (wb.setCell ⟨cb, 0, none⟩ u) := by
  have hc := ctr_cell h hcb hb1 hb2
  refine ⟨?_, ?_, (ButAt.of (ctr_block hb1 hb2)).set _ _⟩
  · simp [go_sem, hc]
  · rw [World.frozen?_setCell]; exact ctr_frozen hf hcb hb1 hb2

/-- The closure: it counts one up. -/
theorem clo_any (cb : Nat) (c : Int) (s : ByteArray) (w : World) (h0 : 0 ≤ c) (h1 : c ≤ 1048576) (hc : w.cell? ⟨cb, 0, none⟩ = some (.int .i64 c)) (hf : w.frozen? ⟨cb, 0, none⟩ = false) :
    Calls Ybaf.prog 4 #[.string s, .pointer (some ⟨cb, 0, none⟩)] w fun e w' => e = .returned (.tuple #[]) ∧ w' = w.setCell ⟨cb, 0, none⟩ (.int .i64 (c + 1)) := by
  go_enter Ybaf.func4, Ybaf.ntmps4
  go_wp2
  go_end0
  exact ⟨rfl, rfl⟩

set_option maxHeartbeats 400000 in
theorem warn_any (F : Interp) (n g : ByteArray) (kb len cb : Nat) (N G : Nat → ByteArray) (w : World) (hF : F.answers w.tape)
    (hlen : len ≤ 1048576) (hcb : cb < w.heap.size) (hkb : kb < w.heap.size) (hne : kb ≠ cb)
    (hc : w.cell? ⟨cb, 0, none⟩ = some (.int .i64 0)) (hf : w.frozen? ⟨cb, 0, none⟩ = false)
    (hk : ∀ i, i < len → w.cell? ⟨kb, i * 2, none⟩ = some (.string (N i)) ∧ w.cell? ⟨kb, i * 2 + 1, none⟩ = some (.string (G i))) :
    Calls Ybaf.prog 5 #[.agg #[.string n, .string g, .string ⟨#[]⟩, .string ⟨#[]⟩, .slice none 0 0, .string ⟨#[]⟩, .slice none 0 0, .string ⟨#[]⟩, .string ⟨#[]⟩, .string ⟨#[]⟩, .slice none 0 0, .slice none 0 0, .slice none 0 0], .slice (some ⟨kb, 0, none⟩) len len, .func (.func 4) #[] #[.pointer (some ⟨cb, 0, none⟩)]] w fun e w' =>
      e = .returned (.tuple #[]) ∧ w'.cell? ⟨cb, 0, none⟩ = some (.int .i64 len) ∧ ButAt cb w w' := by
  go_enter Ybaf.func5, Ybaf.ntmps5
  go_wp2
  go_loopw [10] (fun i wr => ∃ k : Nat, k ≤ len ∧ i = .int .i64 k ∧ wr.cell? ⟨cb, 0, none⟩ = some (.int .i64 k) ∧ wr.frozen? ⟨cb, 0, none⟩ = false ∧
      ButAt cb (w.alloc (.cells #[.string n, .string g, .string ⟨#[]⟩, .string ⟨#[]⟩, .slice none 0 0, .string ⟨#[]⟩, .slice none 0 0, .string ⟨#[]⟩, .string ⟨#[]⟩, .string ⟨#[]⟩, .slice none 0 0, .slice none 0 0, .slice none 0 0] 33)) wr) (fun i _ => len - (intOf i).toNat)
  case atStart =>
    exact ⟨0, Nat.zero_le _, rfl, ((Joins.below_alloc1 w _).cell (p := ⟨cb, 0, none⟩) hcb).trans hc, ((Joins.below_alloc1 w _).frozen (p := ⟨cb, 0, none⟩) hcb).trans hf, ButAt.refl _ _⟩
  case round =>
    obtain ⟨k, hk1, rfl, hcc, hff, hB⟩ := hrel
    by_cases hlt : k < len
    · have hsz : w.heap.size + 1 ≤ wr.heap.size := by have := hB.size; simpa using this
      have ha : ∀ o, wr.cell? ⟨w.heap.size, o, none⟩ = (w.alloc (.cells #[.string n, .string g, .string ⟨#[]⟩, .string ⟨#[]⟩, .slice none 0 0, .string ⟨#[]⟩, .slice none 0 0, .string ⟨#[]⟩, .string ⟨#[]⟩, .string ⟨#[]⟩, .slice none 0 0, .slice none 0 0, .slice none 0 0] 33)).cell? ⟨w.heap.size, o, none⟩ :=
        fun o => hB.cell (by simp) (by omega) o
      have ha' : ∀ o, wr.cell? ⟨w.heap.size, o, none⟩ = (#[.string n, .string g, .string ⟨#[]⟩, .string ⟨#[]⟩, .slice none 0 0, .string ⟨#[]⟩, .slice none 0 0, .string ⟨#[]⟩, .string ⟨#[]⟩, .string ⟨#[]⟩, .slice none 0 0, .slice none 0 0, .slice none 0 0] : Array Value)[o]? := by intro o; rw [ha]; simp [go_sem]
      have hkk : ∀ o, wr.cell? ⟨kb, o, none⟩ = w.cell? ⟨kb, o, none⟩ := fun o => (hB.cell (b := kb) (by simp; omega) hne o).trans ((Joins.below_alloc1 w _).cell (p := ⟨kb, o, none⟩) hkb)
      have hk0 : wr.cell? ⟨kb, k * 2, none⟩ = some (.string (N k)) := by rw [hkk]; exact (hk k hlt).1
      have hk1 : wr.cell? ⟨kb, k * 2 + 1, none⟩ = some (.string (G k)) := by rw [hkk]; exact (hk k hlt).2
      have hFr : F.answers wr.tape := by rw [hB.tape]; exact hF
      clear hkk
      generalize N k = kn at hk0
      generalize G k = kg at hk1
      have c6 := call6
      have g6 := fguard
      have f6 := fmtE
      go_wp2
      have hA : w.heap.size < wr.heap.size := by omega
      have hcw : cb < wr.heap.size := by omega
      have hAc : w.heap.size ≠ cb := by omega
      go_region_held3 (fun w' => w'.cell? ⟨w.heap.size, 0, none⟩ = some (.string n) ∧ w'.cell? ⟨w.heap.size, 1, none⟩ = some (.string g) ∧ w'.cell? ⟨w.heap.size, 2, none⟩ = some (.string ⟨#[]⟩) ∧ w'.cell? ⟨w.heap.size, 3, none⟩ = some (.string ⟨#[]⟩) ∧ w'.cell? ⟨w.heap.size, 4, none⟩ = some (.slice none 0 0) ∧ w'.cell? ⟨w.heap.size, 5, none⟩ = some (.string ⟨#[]⟩) ∧ w'.cell? ⟨w.heap.size, 6, none⟩ = some (.slice none 0 0) ∧ w'.cell? ⟨w.heap.size, 7, none⟩ = some (.string ⟨#[]⟩) ∧ w'.cell? ⟨w.heap.size, 8, none⟩ = some (.string ⟨#[]⟩) ∧ w'.cell? ⟨w.heap.size, 9, none⟩ = some (.string ⟨#[]⟩) ∧ w'.cell? ⟨w.heap.size, 10, none⟩ = some (.slice none 0 0) ∧ w'.cell? ⟨w.heap.size, 11, none⟩ = some (.slice none 0 0) ∧ w'.cell? ⟨w.heap.size, 12, none⟩ = some (.slice none 0 0) ∧ w'.cell? ⟨wr.heap.size, 0, none⟩ = some (.string kn) ∧ w'.cell? ⟨wr.heap.size, 1, none⟩ = some (.string kg) ∧ KB cb wr w')
        (first | exact sk_init n g kn kg _ cb wr hA ha' | exact sk_keep hA (by assumption) (by assumption) | exact sk_keep hA (by assumption) (Joins.below_alloc1 _ _) | exact sk_set hAc hcw _ (by assumption))
        (first | (go_at_call 7; refine (label_any F n g _ ?_).mono ?_; exact hFr; rintro e wa ⟨⟨s1, rfl⟩, hb1⟩) | (go_at_call 4; refine (clo_any cb k s2 _ (by omega) (by omega) ?_ ?_).mono ?_; exact ctr_cell hcc hcw hb1 hb2; exact ctr_frozen hff hcw hb1 hb2; rintro e w' ⟨rfl, rfl⟩) | (with_reducible apply Rows.mono; exact spr3 F _ s1 kn kg _ (ans_of hFr hb1) (by simp) (by simp [go_sem]) (by simp [go_sem]) (by simp [go_sem]); rintro v wb ⟨⟨s2, rfl⟩, hb2⟩))
      have hfin := ctr_but hcc hff hcw hb1 hb2 (.int .i64 (k + 1))
      clear hb1 hb2
      go_wp2
      go_light
      exact ⟨⟨k + 1, by omega, by go_num, hfin.1, hfin.2.1, hB.trans hfin.2.2⟩, by simp [intOf]; omega⟩
    · have hkl : k = len := by omega
      subst hkl
      go_wp2
      go_end0
      go_light
      exact ⟨rfl, hcc, ButAt.trans (ButAt.of (Joins.below_alloc1 _ _)) hB⟩
set_option maxHeartbeats 400000 in
/-- No keys at all: nothing is called. -/
theorem warn_none (n g : ByteArray) (a : Option Addr) (cap : Nat) (v : Value) (w : World) :
    Calls Ybaf.prog 5 #[.agg #[.string n, .string g, .string ⟨#[]⟩, .string ⟨#[]⟩, .slice none 0 0, .string ⟨#[]⟩, .slice none 0 0, .string ⟨#[]⟩, .string ⟨#[]⟩, .string ⟨#[]⟩, .slice none 0 0, .slice none 0 0, .slice none 0 0], .slice a 0 cap, v] w fun e w' =>
      e = .returned (.tuple #[]) ∧ Below w.heap.size w w' := by
  go_enter Ybaf.func5, Ybaf.ntmps5
  go_wp2
  refine wp_loop_rounds 1 ?_
  rw [rounds_succ]
  go_wp2
  go_end0
  exact ⟨rfl, Joins.below_alloc1 _ _⟩

end Go.Proofs.YbulkdvdwFmt
